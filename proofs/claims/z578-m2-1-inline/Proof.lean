import JvmDerived
import JvmDerived.Pilot.@@N@@Statement
import JvmDerived.Pilot.@@N@@Code
set_option linter.unusedVariables false
set_option linter.unusedSimpArgs false
namespace Jvm.RoadKit
open Sem ClassFile Op Lib Jvm.Stand Jvm.Free Jvm.LawKit
section New
variable {p : Program} {l : Launch} {e : Env} {R : Room} {s : State} {m : MethodId} {args : Array Value} {below : List Frame} {meth : Method} {c : Code} {T : State} {locs : List Loc} {cells slots : Nat}
theorem retI (X : Stand p l e R s m args below meth c T locs cells slots) (hx : p.tables.exec = Jvm.exec) {pc : Nat} {Ls : Array Slot} {z : Int32} {rest : List Value} (hret : meth.sig.returnType = some .int) (hd : decode c.code pc = .ok (.ireturn, 1)) {fs : List Frame}
    (hl : ∀ (f : JFrame) (acts : List Action), f.method = m → f.locked = none → f.entered = [] → (doReturn e (T.setTop f) acts (some (.int z))).1 = T.setFrames fs) : Steps p.tables e below (T.setTop (mkF m pc Ls (.int z :: rest))) (T.setFrames fs) :=
  retOut X hx hret rfl (Or.inl ⟨rfl, Or.inl rfl, z, rfl⟩) hd hl
end New
end Jvm.RoadKit
/- laws to paste: Road.backV, Road.codOf, Road.lenW, Road.eqW (cut by pick.py; bodies as the Statement names them) -/
namespace Jvm.Pilot.@@N@@
namespace StrChars
open Jvm Sem ClassFile Op Lib Jvm.Stand Jvm.Free.XT Jvm.Free.ALB Jvm.Free.JM Jvm.Free
open Jvm.Lib.Cold (StaticIs)
/-- a char array whose places are chars -/
def Ch (a : Addr) (A : Cell) (U : State) : Prop := Arr .char a A U ∧ Typed .char A
theorem Ch.mv {a : Addr} {A : Cell} {U U' : State} (h : Ch a A U) (hal : U.vm.Alike U'.vm) (hh : U'.heap = U.heap) : Ch a A U' := ⟨h.1.mv hal hh, h.2⟩
theorem Ch.keep {a : Addr} {A : Cell} {U U' : State} (h : Ch a A U) (hal : U.vm.Alike U'.vm) (hk : U'.heap[a]? = some A) : Ch a A U' := ⟨h.1.keep hal hk, h.2⟩
/-- what place i of a char[]'s cell holds -/
def cv (A : Cell) (i : Nat) : Int32 := match A.slots[i]? with | some (.int x) => x | _ => 0
theorem Ch.get {a : Addr} {A : Cell} {U : State} (h : Ch a A U) {i : Nat} (hi : i < A.slots.size) : A.slots[i]? = some (.int (cv A i)) := by
  have e := Array.getElem?_eq_getElem hi
  have f := h.2 i _ e
  unfold cv; rw [e]
  generalize A.slots[i] = v at f
  cases v <;> simp [fits] at f ⊢
/-- the byte that i2b leaves of a char -/
def lo8 (x : Int32) : Int32 := x.toInt8.toInt32
theorem fits_lo8 (y : Int32) : fits .byte (.int (lo8 y)) = true := by
  have h1 := y.toInt8.le_toInt
  have h2 := y.toInt8.toInt_lt
  simp only [lo8, fits, Bool.and_eq_true, decide_eq_true_eq, Int32.le_iff_toInt_le, Int8.toInt_toInt32, show (-128 : Int32).toInt = -128 from by decide, show (127 : Int32).toInt = 127 from by decide]
  omega
/-- A' is A but that each place j of lo .. hi - 1 holds f j -/
def Laid (A A' : Cell) (lo hi : Nat) (f : Nat → Value) : Prop := A'.cls = A.cls ∧ A'.vm = A.vm ∧ A'.slots.size = A.slots.size ∧ ∀ i, A'.slots[i]? = if lo ≤ i ∧ i < hi then some (f i) else A.slots[i]?
theorem Laid.zero (A : Cell) (lo : Nat) (f : Nat → Value) : Laid A A lo (lo + 0) f := ⟨rfl, rfl, rfl, fun i => by rw [if_neg (by omega)]⟩
theorem Laid.step {A Ak : Cell} {lo k : Nat} {f : Nat → Value} {v : Value} (h : Laid A Ak lo k f) (hlo : lo ≤ k) (hk : k < Ak.slots.size) (hv : v = f k) : Laid A (Ak.setSlot k v) lo (k + 1) f := by
  refine ⟨h.1, h.2.1, by simpa [Cell.setSlot] using h.2.2.1, fun i => ?_⟩
  by_cases e : k = i
  · subst e; rw [Cell.slots_setSlot_self v hk, if_pos (by omega), hv]
  · rw [Cell.slots_setSlot_ne v e, h.2.2.2 i]
    by_cases q : lo ≤ i ∧ i < k
    · rw [if_pos q, if_pos (by omega)]
    · rw [if_neg q, if_neg (by omega)]
def U16 : String := "java/lang/StringUTF16"
namespace Cmp5
def yN : MethodName := ⟨"java/lang/StringUTF16", "compress", "([CI[BII)I"⟩
abbrev yB : ByteArray := jdk_52_method_21_code
theorem d0 : decode yB 0 = .ok (.iconst 0, 1) := by decide +kernel
theorem d1 : decode yB 1 = .ok (.istore 5, 2) := by decide +kernel
theorem d3 : decode yB 3 = .ok (.iload 5, 2) := by decide +kernel
theorem d5 : decode yB 5 = .ok (.iload 4, 2) := by decide +kernel
theorem d7 : decode yB 7 = .ok (.if_icmp (.ge) 37, 3) := by decide +kernel
theorem d10 : decode yB 10 = .ok (.aload_n 0, 1) := by decide +kernel
theorem d11 : decode yB 11 = .ok (.iload_n 1, 1) := by decide +kernel
theorem d12 : decode yB 12 = .ok (.caload, 1) := by decide +kernel
theorem d13 : decode yB 13 = .ok (.istore 6, 2) := by decide +kernel
theorem d15 : decode yB 15 = .ok (.iload 6, 2) := by decide +kernel
theorem d17 : decode yB 17 = .ok (.sipush 255, 3) := by decide +kernel
theorem d20 : decode yB 20 = .ok (.if_icmp (.le) 6, 3) := by decide +kernel
theorem d26 : decode yB 26 = .ok (.aload_n 2, 1) := by decide +kernel
theorem d27 : decode yB 27 = .ok (.iload_n 3, 1) := by decide +kernel
theorem d28 : decode yB 28 = .ok (.iload 6, 2) := by decide +kernel
theorem d30 : decode yB 30 = .ok (.i2b, 1) := by decide +kernel
theorem d31 : decode yB 31 = .ok (.bastore, 1) := by decide +kernel
theorem d32 : decode yB 32 = .ok (.iinc 1 1, 3) := by decide +kernel
theorem d35 : decode yB 35 = .ok (.iinc 3 1, 3) := by decide +kernel
theorem d38 : decode yB 38 = .ok (.iinc 5 1, 3) := by decide +kernel
theorem d41 : decode yB 41 = .ok (.goto (-38), 3) := by decide +kernel
theorem d44 : decode yB 44 = .ok (.iload 4, 2) := by decide +kernel
theorem d46 : decode yB 46 = .ok (.ireturn, 1) := by decide +kernel
def site : List Cond := []
def tab : Cond := tabOf yN yB 7 (some .int) site
def P (b : Addr) (A : Cell) (d : Addr) (B : Cell) (o q len : Nat) (args : Array Value) (s : State) : Prop := args = #[.ref b, .int (Int32.ofNat o), .ref d, .int (Int32.ofNat q), .int (Int32.ofNat len)] ∧ Ch b A s ∧ Arr .byte d B s ∧ b ≠ d ∧ o + len ≤ A.slots.size ∧ q + len ≤ B.slots.size ∧ ∀ i, i < len → ¬ 255 < cv A (o + i)
def E (b : Addr) (A : Cell) (d : Addr) (B : Cell) (o q len : Nat) (r : Option Value) (s u : State) : Prop := r = some (.int (Int32.ofNat len)) ∧ ∃ B', Put d B' s u ∧ Laid B B' q (q + len) (fun j => Value.int (lo8 (cv A (o + (j - q)))))
/-- no char of the range above 255: len; the places written hold each char's low byte -/
theorem law (l : Launch) (b : Addr) (A : Cell) (d : Addr) (B : Cell) (o q len : Nat) : Law l yN 5 5 0 0 yB 7 (some .int) site (P b A d B o q len) (E b A d B o q len) (copyLocs d q len) 0 0 := by
  refine Law.of_walk (plainFor_of_name (by decide +kernel)) (by decide +kernel) (by decide +kernel) (by decide) (fun _ _ h => by rw [h.1]; rfl) (fun _ U U' hal hh h => ⟨h.1, h.2.1.mv hal hh, h.2.2.1.mv hal hh, h.2.2.2⟩) (fun r U U' V V' h1 hal h2 h => ⟨h.1, h.2.elim fun B' q => ⟨B', q.1.mv h1 h2, q.2⟩⟩) ?_
  intro p e s m args below meth c s₁ X0 hexec hbytes hml hret hlk hnm hown hh0 W hP
  obtain ⟨rfl, hA, hB, hne, l1, l2, hp⟩ := hP
  have c1 : Steps p.tables e below (s₁.setTop (entryFrame m #[.ref b, .int (Int32.ofNat o), .ref d, .int (Int32.ofNat q), .int (Int32.ofNat len)] 7)) (s₁.setTop (mkF m 0 #[.val (.ref b), .val (.int (Int32.ofNat o)), .val (.ref d), .val (.int (Int32.ofNat q)), .val (.int (Int32.ofNat len)), .unset, .unset] [])) := entry rfl
  have hA0 := hA.1.mv X0.warmed.alike hh0
  have hB0 := hB.mv X0.warmed.alike hh0
  have a31 := hA.1.2.2.2
  have c2 : Steps p.tables e below (s₁.setTop (entryFrame m #[.ref b, .int (Int32.ofNat o), .ref d, .int (Int32.ofNat q), .int (Int32.ofNat len)] 7)) (s₁.setTop (mkF m 3 #[.val (.ref b), .val (.int (Int32.ofNat o)), .val (.ref d), .val (.int (Int32.ofNat q)), .val (.int (Int32.ofNat len)), .val (.int 0), .unset] [])) := c1.trans (by
    refine iconstV X0.here hexec rfl 0 (hb hbytes d0) (by decide) ?_
    refine XS.istore X0.here hexec rfl (hb hbytes d1) rfl rfl ?_
    exact Steps.refl _)
  have loop : ∀ (r i : Nat), i + r = len → ∀ (z : Slot), (z = .unset ∨ ∃ w, z = .val w ∧ w.category = 1) → ∀ (Tl : State) (Bk : Cell), Stand p l e { frames := 0, locals := 0, cells := 0, slots := 0 } s m #[.ref b, .int (Int32.ofNat o), .ref d, .int (Int32.ofNat q), .int (Int32.ofNat len)] below meth c Tl ([] ++ copyLocs d q i) 0 0 → Put d Bk s₁ Tl → Laid B Bk q (q + i) (fun j => Value.int (lo8 (cv A (o + (j - q))))) →
      Steps p.tables e below (s₁.setTop (entryFrame m #[.ref b, .int (Int32.ofNat o), .ref d, .int (Int32.ofNat q), .int (Int32.ofNat len)] 7)) (Tl.setTop (mkF m 3 #[.val (.ref b), .val (.int (Int32.ofNat (o + i))), .val (.ref d), .val (.int (Int32.ofNat (q + i))), .val (.int (Int32.ofNat len)), .val (.int (Int32.ofNat i)), z] [])) → ∃ (T' : State) (B' : Cell) (z' : Slot), Stand p l e { frames := 0, locals := 0, cells := 0, slots := 0 } s m #[.ref b, .int (Int32.ofNat o), .ref d, .int (Int32.ofNat q), .int (Int32.ofNat len)] below meth c T' ([] ++ copyLocs d q len) 0 0 ∧ Put d B' s₁ T' ∧ Laid B B' q (q + len) (fun j => Value.int (lo8 (cv A (o + (j - q))))) ∧
      Steps p.tables e below (s₁.setTop (entryFrame m #[.ref b, .int (Int32.ofNat o), .ref d, .int (Int32.ofNat q), .int (Int32.ofNat len)] 7)) (T'.setTop (mkF m 3 #[.val (.ref b), .val (.int (Int32.ofNat (o + len))), .val (.ref d), .val (.int (Int32.ofNat (q + len))), .val (.int (Int32.ofNat len)), .val (.int (Int32.ofNat len)), z'] [])) := by
    intro r
    induction r with
    | zero =>
      intro i hi z hz Tl Bk Xl pl fl cl
      have hil : i = len := by omega
      rw [hil] at Xl fl cl
      exact ⟨Tl, Bk, z, Xl, pl, fl, cl⟩
    | succ r ih =>
      intro i hi z hz Tl Bk Xl pl fl cl
      have all := X0.warmed.alike.symm.trans Xl.warmed.alike
      have hAl := hA0.keep all (pl.other hne hA0.1)
      have hBk := hB0.like all pl.1 fl.1 fl.2.1 fl.2.2.1
      have hlt : q + i < Bk.slots.size := by rw [fl.2.2.1]; omega
      have c3 : Steps p.tables e below (s₁.setTop (entryFrame m #[.ref b, .int (Int32.ofNat o), .ref d, .int (Int32.ofNat q), .int (Int32.ofNat len)] 7)) (Tl.setTop (mkF m 12 #[.val (.ref b), .val (.int (Int32.ofNat (o + i))), .val (.ref d), .val (.int (Int32.ofNat (q + i))), .val (.int (Int32.ofNat len)), .val (.int (Int32.ofNat i)), z] [.int (Int32.ofNat (o + i)), .ref b])) := cl.trans (by
        refine XS.iload Xl.here hexec rfl (hb hbytes d3) rfl ?_
        refine XS.iload Xl.here hexec rfl (hb hbytes d5) rfl ?_
        refine XS.icmpNo Xl.here hexec rfl (hb hbytes d7) rfl (ii_ge_f (lt32 (by omega) (by omega))) ?_
        refine XS.aloadN Xl.here hexec rfl (hb hbytes d10) rfl rfl ?_
        refine XS.iloadN Xl.here hexec rfl (hb hbytes d11) rfl ?_
        exact Steps.refl _)
      have c4 : Steps p.tables e below (s₁.setTop (entryFrame m #[.ref b, .int (Int32.ofNat o), .ref d, .int (Int32.ofNat q), .int (Int32.ofNat len)] 7)) (Tl.setTop (mkF m 13 #[.val (.ref b), .val (.int (Int32.ofNat (o + i))), .val (.ref d), .val (.int (Int32.ofNat (q + i))), .val (.int (Int32.ofNat len)), .val (.int (Int32.ofNat i)), z] [.int (cv A (o + i))])) := c3.trans (by
        refine Xl.aget hexec hAl rfl (hA.get (i := o + i) (by omega)) rfl rfl (hb hbytes d12) ?_
        exact Steps.refl _)
      have c5 : Steps p.tables e below (s₁.setTop (entryFrame m #[.ref b, .int (Int32.ofNat o), .ref d, .int (Int32.ofNat q), .int (Int32.ofNat len)] 7)) (Tl.setTop (mkF m 15 #[.val (.ref b), .val (.int (Int32.ofNat (o + i))), .val (.ref d), .val (.int (Int32.ofNat (q + i))), .val (.int (Int32.ofNat len)), .val (.int (Int32.ofNat i)), .val (.int (cv A (o + i)))] [])) := c4.trans (by
        refine XS.istoreS Xl.here hexec rfl (hb hbytes d13) rfl rfl hz ?_
        exact Steps.refl _)
      have c6 : Steps p.tables e below (s₁.setTop (entryFrame m #[.ref b, .int (Int32.ofNat o), .ref d, .int (Int32.ofNat q), .int (Int32.ofNat len)] 7)) (Tl.setTop (mkF m 31 #[.val (.ref b), .val (.int (Int32.ofNat (o + i))), .val (.ref d), .val (.int (Int32.ofNat (q + i))), .val (.int (Int32.ofNat len)), .val (.int (Int32.ofNat i)), .val (.int (cv A (o + i)))] [.int (lo8 (cv A (o + i))), .int (Int32.ofNat (q + i)), .ref d])) := c5.trans (by
        refine XS.iload Xl.here hexec rfl (hb hbytes d15) rfl ?_
        refine sipushV Xl.here hexec rfl 255 (hb hbytes d17) (by decide) ?_
        refine XS.icmpYes Xl.here hexec rfl (pc0 := 20) rfl (hb hbytes d20) rfl (ii_le_t (hp i (by omega))) (by decide) rfl ?_
        refine XS.aloadN Xl.here hexec rfl (hb hbytes d26) rfl rfl ?_
        refine XS.iloadN Xl.here hexec rfl (hb hbytes d27) rfl ?_
        refine XS.iload Xl.here hexec rfl (hb hbytes d28) rfl ?_
        refine i2b Xl.here hexec rfl (hb hbytes d30) rfl ?_
        exact Steps.refl _)
      obtain ⟨T7, X7, p7, st7⟩ := Xl.aput hexec hBk rfl hlt rfl (fits_lo8 (cv A (o + i))) (g := (mkF m 31 #[.val (.ref b), .val (.int (Int32.ofNat (o + i))), .val (.ref d), .val (.int (Int32.ofNat (q + i))), .val (.int (Int32.ofNat len)), .val (.int (Int32.ofNat i)), .val (.int (cv A (o + i)))] [.int (lo8 (cv A (o + i))), .int (Int32.ofNat (q + i)), .ref d])) rfl (rest := []) rfl (hb hbytes d31)
      have c8 : Steps p.tables e below (s₁.setTop (entryFrame m #[.ref b, .int (Int32.ofNat o), .ref d, .int (Int32.ofNat q), .int (Int32.ofNat len)] 7)) (T7.setTop (mkF m 32 #[.val (.ref b), .val (.int (Int32.ofNat (o + i))), .val (.ref d), .val (.int (Int32.ofNat (q + i))), .val (.int (Int32.ofNat len)), .val (.int (Int32.ofNat i)), .val (.int (cv A (o + i)))] [])) := c6.trans (st7 _ (Steps.refl _))
      have c9 : Steps p.tables e below (s₁.setTop (entryFrame m #[.ref b, .int (Int32.ofNat o), .ref d, .int (Int32.ofNat q), .int (Int32.ofNat len)] 7)) (T7.setTop (mkF m 3 #[.val (.ref b), .val (.int (Int32.ofNat (o + i) + 1)), .val (.ref d), .val (.int (Int32.ofNat (q + i) + 1)), .val (.int (Int32.ofNat len)), .val (.int (Int32.ofNat i + 1)), .val (.int (cv A (o + i)))] [])) := c8.trans (by
        refine iincV X7.here hexec rfl 1 (hb hbytes d32) (by decide) rfl rfl ?_
        refine iincV X7.here hexec rfl 1 (hb hbytes d35) (by decide) rfl rfl ?_
        refine iincV X7.here hexec rfl 1 (hb hbytes d38) (by decide) rfl rfl ?_
        refine XS.goto X7.here hexec rfl (pc0 := 41) rfl (hb hbytes d41) (by decide) rfl ?_
        exact Steps.refl _)
      have c10 : Steps p.tables e below (s₁.setTop (entryFrame m #[.ref b, .int (Int32.ofNat o), .ref d, .int (Int32.ofNat q), .int (Int32.ofNat len)] 7)) (T7.setTop (mkF m 3 #[.val (.ref b), .val (.int (Int32.ofNat (o + (i + 1)))), .val (.ref d), .val (.int (Int32.ofNat (q + (i + 1)))), .val (.int (Int32.ofNat len)), .val (.int (Int32.ofNat (i + 1))), .val (.int (cv A (o + i)))] [])) := by
        have := c9
        rw [succ32, succ32, succ32] at this
        exact this
      exact ih (i + 1) (by omega) _ (Or.inr ⟨_, rfl, rfl⟩) T7 _ (by rw [copyLocs_step, ← List.append_assoc]; exact X7) (pl.trans p7) (fl.step (by omega) hlt (by simp)) c10
  obtain ⟨T9, B9, z9, X9, p9, f9, g9⟩ := loop len 0 (by omega) .unset (Or.inl rfl) s₁ B (by simpa [copyLocs] using X0) ⟨hB0.1, fun _ _ => rfl, rfl⟩ (Laid.zero _ _ _) c2
  have c11 : Steps p.tables e below (s₁.setTop (entryFrame m #[.ref b, .int (Int32.ofNat o), .ref d, .int (Int32.ofNat q), .int (Int32.ofNat len)] 7)) (T9.setTop (mkF m 46 #[.val (.ref b), .val (.int (Int32.ofNat (o + len))), .val (.ref d), .val (.int (Int32.ofNat (q + len))), .val (.int (Int32.ofNat len)), .val (.int (Int32.ofNat len)), z9] [.int (Int32.ofNat len)])) := g9.trans (by
    refine XS.iload X9.here hexec rfl (hb hbytes d3) rfl ?_
    refine XS.iload X9.here hexec rfl (hb hbytes d5) rfl ?_
    refine XS.icmpYes X9.here hexec rfl (pc0 := 7) rfl (hb hbytes d7) rfl (ii_ge_t (nlt32 (by omega) (Nat.le_refl _))) (by decide) rfl ?_
    refine XS.iload X9.here hexec rfl (hb hbytes d44) rfl ?_
    exact Steps.refl _)
  exact ⟨T9, some (.int (Int32.ofNat len)), _, _, _, X9, by simp, rfl, rfl, (fun h => by cases h), ⟨rfl, B9, p9.from hh0, f9⟩, fun fs hl => c11.trans (X9.ireturnOut hexec hret rfl (Or.inl rfl) (hb hbytes d46) hl)⟩
end Cmp5
namespace Cmp3
def yN : MethodName := ⟨"java/lang/StringUTF16", "compress", "([CII)[B"⟩
abbrev yB : ByteArray := jdk_52_method_16_code
theorem d0 : decode yB 0 = .ok (.iload_n 2, 1) := by decide +kernel
theorem d1 : decode yB 1 = .ok (.newarray .byte, 2) := by decide +kernel
theorem d3 : decode yB 3 = .ok (.astore_n 3, 1) := by decide +kernel
theorem d4 : decode yB 4 = .ok (.aload_n 0, 1) := by decide +kernel
theorem d5 : decode yB 5 = .ok (.iload_n 1, 1) := by decide +kernel
theorem d6 : decode yB 6 = .ok (.aload_n 3, 1) := by decide +kernel
theorem d7 : decode yB 7 = .ok (.iconst 0, 1) := by decide +kernel
theorem d8 : decode yB 8 = .ok (.iload_n 2, 1) := by decide +kernel
theorem d9 : decode yB 9 = .ok (.invokestatic 115, 3) := by decide +kernel
theorem d12 : decode yB 12 = .ok (.istore 4, 2) := by decide +kernel
theorem d14 : decode yB 14 = .ok (.iload 4, 2) := by decide +kernel
theorem d16 : decode yB 16 = .ok (.iload_n 2, 1) := by decide +kernel
theorem d17 : decode yB 17 = .ok (.if_icmp (.eq) 40, 3) := by decide +kernel
theorem d57 : decode yB 57 = .ok (.aload_n 3, 1) := by decide +kernel
theorem d58 : decode yB 58 = .ok (.areturn, 1) := by decide +kernel
def site : List Cond := [.arrayClass .byte, Cmp5.tab] ++ staticW U16 115 Cmp5.yN
def tab : Cond := tabOf yN yB 6 (some (.array .byte)) site
def P (b : Addr) (A : Cell) (o len : Nat) (args : Array Value) (s : State) : Prop := args = #[.ref b, .int (Int32.ofNat o), .int (Int32.ofNat len)] ∧ Ch b A s ∧ o + len ≤ A.slots.size ∧ len ≤ 536870912 ∧ ∀ i, i < len → ¬ 255 < cv A (o + i)
def E (b : Addr) (A : Cell) (o len : Nat) (r : Option Value) (s u : State) : Prop := NewArr .byte "[B" len (fun j => .int (lo8 (cv A (o + j)))) r s u ∧ u.heap.size = s.heap.size + 1
/-- no char of the range above 255: a new byte[] of their low bytes -/
theorem law (l : Launch) (b : Addr) (A : Cell) (o len : Nat) : Law l yN 3 3 1 18 yB 6 (some (.array .byte)) site (P b A o len) (E b A o len) [] 1 len := by
  refine Law.of_walk (plainFor_of_name (by decide +kernel)) (by decide +kernel) (by decide +kernel) (by decide) (fun _ _ h => by rw [h.1]; rfl) (fun _ U U' hal hh h => ⟨h.1, h.2.1.mv hal hh, h.2.2⟩) (fun r U U' V V' h1 hal h2 h => ⟨NewArr.mv r U U' V V' h1 hal h2 h.1, by rw [h1, h2]; exact h.2⟩) ?_
  intro p e s m args below meth c s₁ X0 hexec hbytes hml hret hlk hnm hown hh0 W hP
  obtain ⟨rfl, hA, l1, l2, hp⟩ := hP
  have a31 := hA.1.2.2.2
  have c1 : Steps p.tables e below (s₁.setTop (entryFrame m #[.ref b, .int (Int32.ofNat o), .int (Int32.ofNat len)] 6)) (s₁.setTop (mkF m 0 #[.val (.ref b), .val (.int (Int32.ofNat o)), .val (.int (Int32.ofNat len)), .unset, .unset, .unset] [])) := entry rfl
  have c2 : Steps p.tables e below (s₁.setTop (entryFrame m #[.ref b, .int (Int32.ofNat o), .int (Int32.ofNat len)] 6)) (s₁.setTop (mkF m 1 #[.val (.ref b), .val (.int (Int32.ofNat o)), .val (.int (Int32.ofNat len)), .unset, .unset, .unset] [.int (Int32.ofNat len)])) := c1.trans (by
    refine XS.iloadN X0.here hexec rfl (hb hbytes d0) rfl ?_
    exact Steps.refl _)
  obtain ⟨T3, B3, X3, ba3, bs3, bv3, bh3, bf3, st3⟩ := X0.anew hexec (atype := .byte) (wk W (.arrayClass .byte)) rfl (by show len * 1 ≤ _; omega) (by omega) (g := (mkF m 1 #[.val (.ref b), .val (.int (Int32.ofNat o)), .val (.int (Int32.ofNat len)), .unset, .unset, .unset] [.int (Int32.ofNat len)])) rfl (hb hbytes d1) (rest := []) rfl (Nat.le_refl _) (by show 0 + len ≤ len; omega)
  rw [hh0] at ba3 st3
  have kp3 : XT.Kept s T3 := (XT.Kept.of_eq hh0).push bh3
  have hA3 := hA.keep X3.warmed.alike (kp3 _ _ hA.1.1)
  have hne : b ≠ s.heap.size := hA.1.ne
  have c4 : Steps p.tables e below (s₁.setTop (entryFrame m #[.ref b, .int (Int32.ofNat o), .int (Int32.ofNat len)] 6)) (T3.setTop (mkF m 3 #[.val (.ref b), .val (.int (Int32.ofNat o)), .val (.int (Int32.ofNat len)), .unset, .unset, .unset] [.ref s.heap.size])) := c2.trans (st3 _ (Steps.refl _))
  have c5 : Steps p.tables e below (s₁.setTop (entryFrame m #[.ref b, .int (Int32.ofNat o), .int (Int32.ofNat len)] 6)) (T3.setTop (mkF m 9 #[.val (.ref b), .val (.int (Int32.ofNat o)), .val (.int (Int32.ofNat len)), .val (.ref s.heap.size), .unset, .unset] [.int (Int32.ofNat len), .int 0, .ref s.heap.size, .int (Int32.ofNat o), .ref b])) := c4.trans (by
    refine XS.astoreN X3.here hexec rfl (hb hbytes d3) rfl rfl rfl ?_
    refine XS.aloadN X3.here hexec rfl (hb hbytes d4) rfl rfl ?_
    refine XS.iloadN X3.here hexec rfl (hb hbytes d5) rfl ?_
    refine XS.aloadN X3.here hexec rfl (hb hbytes d6) rfl rfl ?_
    refine iconstV X3.here hexec rfl 0 (hb hbytes d7) (by decide) ?_
    refine XS.iloadN X3.here hexec rfl (hb hbytes d8) rfl ?_
    exact Steps.refl _)
  obtain ⟨v6, T6, X6, E6, g6⟩ := X3.callS hexec (Cmp5.law l b A s.heap.size B3 o 0 len) hown (wks W (staticW U16 115 Cmp5.yN)) (wk W Cmp5.tab) (W := 0) (Nat.le_of_ble_eq_true rfl) (Nat.le_of_ble_eq_true rfl) (Nat.le_refl _) (by show 0 + len + 0 ≤ len; omega) (g := (mkF m 9 #[.val (.ref b), .val (.int (Int32.ofNat o)), .val (.int (Int32.ofNat len)), .val (.ref s.heap.size), .unset, .unset] [.int (Int32.ofNat len), .int (Int32.ofNat 0), .ref s.heap.size, .int (Int32.ofNat o), .ref b])) rfl (by rw [hml]; rfl) c5 (argsL := [.ref b, .int (Int32.ofNat o), .ref s.heap.size, .int (Int32.ofNat 0), .int (Int32.ofNat len)]) (rest := []) rfl rfl (by show 2 * 0 + 0 ≤ _; decide) (hb hbytes d9) (⟨rfl, hA3, ba3, hne, l1, by rw [bs3]; simp, hp⟩)
  obtain ⟨rfl, B6, p6, f6⟩ := E6
  have c7 : Steps p.tables e below (s₁.setTop (entryFrame m #[.ref b, .int (Int32.ofNat o), .int (Int32.ofNat len)] 6)) (T6.setTop (mkF m 12 #[.val (.ref b), .val (.int (Int32.ofNat o)), .val (.int (Int32.ofNat len)), .val (.ref s.heap.size), .unset, .unset] [.int (Int32.ofNat len)])) := g6
  have c8 : Steps p.tables e below (s₁.setTop (entryFrame m #[.ref b, .int (Int32.ofNat o), .int (Int32.ofNat len)] 6)) (T6.setTop (mkF m 58 #[.val (.ref b), .val (.int (Int32.ofNat o)), .val (.int (Int32.ofNat len)), .val (.ref s.heap.size), .val (.int (Int32.ofNat len)), .unset] [.ref s.heap.size])) := c7.trans (by
    refine XS.istore X6.here hexec rfl (hb hbytes d12) rfl rfl ?_
    refine XS.iload X6.here hexec rfl (hb hbytes d14) rfl ?_
    refine XS.iloadN X6.here hexec rfl (hb hbytes d16) rfl ?_
    refine XS.icmpYes X6.here hexec rfl (pc0 := 17) rfl (hb hbytes d17) rfl (ii_eq_t rfl) (by decide) rfl ?_
    refine XS.aloadN X6.here hexec rfl (hb hbytes d57) rfl rfl ?_
    exact Steps.refl _)
  have X8 := X6.wide (L' := []) (cells' := 1) (slots' := len) (fun x hx hlt => by
    simp only [List.nil_append, copyLocs, List.mem_map, List.mem_range] at hx
    obtain ⟨i, -, rfl⟩ := hx
    exact absurd hlt (Nat.lt_irrefl _)) (Nat.le_refl _) (by omega)
  exact ⟨T6, some (.ref s.heap.size), _, _, _, X8, rfl, rfl, rfl, (fun h => by cases h), ⟨⟨rfl, B6, ba3.like (X3.warmed.alike.symm.trans X6.warmed.alike) p6.1 f6.1 f6.2.1 f6.2.2.1, f6.2.1.trans bv3, by rw [X6.warmed.alike.findClass, f6.1]; exact bf3, by rw [f6.2.2.1, bs3]; simp, fun j hj => by rw [f6.2.2.2 j, if_pos (by omega)]; rfl, kp3.put p6 (Nat.le_refl _)⟩, by rw [p6.2.2, bh3, hh0]; simp⟩, fun fs hl => c8.trans (X8.areturnOut hexec rfl hret rfl (hb hbytes d58) hl)⟩
end Cmp3
namespace CodL
def yN : MethodName := ⟨"java/lang/StringUTF16", "coderFromArrayLen", "([BI)B"⟩
abbrev yB : ByteArray := jdk_52_method_15_code
theorem d0 : decode yB 0 = .ok (.iload_n 1, 1) := by decide +kernel
theorem d1 : decode yB 1 = .ok (.aload_n 0, 1) := by decide +kernel
theorem d2 : decode yB 2 = .ok (.arraylength, 1) := by decide +kernel
theorem d3 : decode yB 3 = .ok (.isub, 1) := by decide +kernel
theorem d4 : decode yB 4 = .ok (.bipush 31, 2) := by decide +kernel
theorem d6 : decode yB 6 = .ok (.iushr, 1) := by decide +kernel
theorem d7 : decode yB 7 = .ok (.i2b, 1) := by decide +kernel
theorem d8 : decode yB 8 = .ok (.ireturn, 1) := by decide +kernel
def site : List Cond := []
def tab : Cond := tabOf yN yB 2 (some .byte) site
def P (d : Addr) (B : Cell) (args : Array Value) (s : State) : Prop := args = #[.ref d, .int (Int32.ofNat B.slots.size)] ∧ Arr .byte d B s
def E (r : Option Value) (s u : State) : Prop := XT.PureE (some (.int 0)) r s u
/-- an array as long as the number of chars: LATIN1 -/
theorem law (l : Launch) (d : Addr) (B : Cell) : Law l yN 2 2 0 0 yB 2 (some .byte) site (P d B) E [] 0 0 := by
  refine Law.of_walk (plainFor_of_name (by decide +kernel)) (by decide +kernel) (by decide +kernel) (by decide) (fun _ _ h => by rw [h.1]; rfl) (fun _ U U' hal hh h => ⟨h.1, h.2.mv hal hh⟩) (fun r U U' V V' h1 hal h2 h => XT.PureE.mv r U U' V V' h1 hal h2 h) ?_
  intro p e s m args below meth c s₁ X0 hexec hbytes hml hret hlk hnm hown hh0 W hP
  obtain ⟨rfl, hB⟩ := hP
  have hB0 := hB.mv X0.warmed.alike hh0
  have c1 : Steps p.tables e below (s₁.setTop (entryFrame m #[.ref d, .int (Int32.ofNat B.slots.size)] 2)) (s₁.setTop (mkF m 0 #[.val (.ref d), .val (.int (Int32.ofNat B.slots.size))] [])) := entry rfl
  have c2 : Steps p.tables e below (s₁.setTop (entryFrame m #[.ref d, .int (Int32.ofNat B.slots.size)] 2)) (s₁.setTop (mkF m 2 #[.val (.ref d), .val (.int (Int32.ofNat B.slots.size))] [.ref d, .int (Int32.ofNat B.slots.size)])) := c1.trans (by
    refine XS.iloadN X0.here hexec rfl (hb hbytes d0) rfl ?_
    refine XS.aloadN X0.here hexec rfl (hb hbytes d1) rfl rfl ?_
    exact Steps.refl _)
  have c3 : Steps p.tables e below (s₁.setTop (entryFrame m #[.ref d, .int (Int32.ofNat B.slots.size)] 2)) (s₁.setTop (mkF m 8 #[.val (.ref d), .val (.int (Int32.ofNat B.slots.size))] [.int (lo8 (ushr (Int32.ofNat B.slots.size - Int32.ofNat B.slots.size) 31))])) := c2.trans (by
    refine X0.alen hexec hB0 rfl rfl (hb hbytes d2) ?_
    refine XS.isub X0.here hexec rfl (hb hbytes d3) rfl ?_
    refine bipushV X0.here hexec rfl 31 (hb hbytes d4) (by decide) ?_
    refine iushr X0.here hexec rfl (hb hbytes d6) rfl ?_
    refine i2b X0.here hexec rfl (hb hbytes d7) rfl ?_
    exact Steps.refl _)
  have e0 : lo8 (ushr (Int32.ofNat B.slots.size - Int32.ofNat B.slots.size) 31) = 0 := by rw [Int32.sub_self]; decide
  rw [e0] at c3
  exact ⟨s₁, some (.int 0), _, _, _, X0, rfl, rfl, rfl, (fun h => by cases h), ⟨rfl, hh0⟩, fun fs hl => c3.trans (X0.ireturnOut hexec hret rfl (Or.inr (Or.inr (Or.inl rfl))) (hb hbytes d8) hl)⟩
end CodL
/-- the String at a is Latin-1 over a new byte[] (the heap's one new cell): the low bytes of the len chars of A from o on; every cell but a is kept -/
def Got (a : Addr) (D : Cell) (fV fC : Field) (A : Cell) (o len : Nat) (r : Option Value) (s u : State) : Prop := r = none ∧ ∃ D' V : Cell, Blank "java/lang/String" a D' u ∧ Same D D' [fV.slot, fC.slot] ∧ D'.slots[fV.slot]? = some (.ref s.heap.size) ∧ D'.slots[fC.slot]? = some (.int 0) ∧ Arr .byte s.heap.size V u ∧ V.vm = .none ∧ u.vm.findClass "[B" = some V.cls ∧ V.slots.size = len ∧ (∀ j, j < len → V.slots[j]? = some (.int (lo8 (cv A (o + j))))) ∧ (∀ (y : Addr) (c : Cell), y ≠ a → s.heap[y]? = some c → u.heap[y]? = some c) ∧ u.heap.size = s.heap.size + 1
theorem Got.mv {a : Addr} {D A : Cell} {fV fC : Field} {o len : Nat} : ∀ r (U U' V V' : State), U'.heap = U.heap → V.vm.Alike V'.vm → V'.heap = V.heap → Got a D fV fC A o len r U V → Got a D fV fC A o len r U' V' :=
  fun r U U' V V' h1 hal h2 ⟨e0, D', X, a1, a2, a3, a4, a5, a6, a7, a8, a9, a10, a11⟩ => ⟨e0, D', X, a1.mv hal h2, a2, by rw [h1]; exact a3, a4, by rw [h1]; exact a5.mv hal h2, a6, by rw [hal.findClass]; exact a7, a8, a9, by rw [h1, h2]; exact a10, by rw [h1, h2]; exact a11⟩
namespace New4
def yN : MethodName := ⟨"java/lang/String", "<init>", "([CIILjava/lang/Void;)V"⟩
abbrev yB : ByteArray := jdk_42_method_149_code
theorem d0 : decode yB 0 = .ok (.aload_n 0, 1) := by decide +kernel
theorem d1 : decode yB 1 = .ok (.invokespecial 1, 3) := by decide +kernel
theorem d4 : decode yB 4 = .ok (.iload_n 3, 1) := by decide +kernel
theorem d5 : decode yB 5 = .ok (.ifCond (.ne) 22, 3) := by decide +kernel
theorem d27 : decode yB 27 = .ok (.getstatic 38, 3) := by decide +kernel
theorem d30 : decode yB 30 = .ok (.ifCond (.eq) 28, 3) := by decide +kernel
theorem d33 : decode yB 33 = .ok (.aload_n 1, 1) := by decide +kernel
theorem d34 : decode yB 34 = .ok (.iload_n 2, 1) := by decide +kernel
theorem d35 : decode yB 35 = .ok (.iload_n 3, 1) := by decide +kernel
theorem d36 : decode yB 36 = .ok (.invokestatic 177, 3) := by decide +kernel
theorem d39 : decode yB 39 = .ok (.astore 5, 2) := by decide +kernel
theorem d41 : decode yB 41 = .ok (.aload_n 0, 1) := by decide +kernel
theorem d42 : decode yB 42 = .ok (.aload 5, 2) := by decide +kernel
theorem d44 : decode yB 44 = .ok (.iload_n 3, 1) := by decide +kernel
theorem d45 : decode yB 45 = .ok (.invokestatic 47, 3) := by decide +kernel
theorem d48 : decode yB 48 = .ok (.putfield 15, 3) := by decide +kernel
theorem d51 : decode yB 51 = .ok (.aload_n 0, 1) := by decide +kernel
theorem d52 : decode yB 52 = .ok (.aload 5, 2) := by decide +kernel
theorem d54 : decode yB 54 = .ok (.putfield 9, 3) := by decide +kernel
theorem d57 : decode yB 57 = .ok (.return_, 1) := by decide +kernel
def site : List Cond := [.fieldLink "java/lang/String" 38 "java/lang/String" "COMPACT_STRINGS" "Z", Cmp3.tab, CodL.tab, .laysFinal "java/lang/String" "java/lang/String" "value" "[B", .fieldLink "java/lang/String" 9 "java/lang/String" "value" "[B", .laysFinal "java/lang/String" "java/lang/String" "coder" "B", .fieldLink "java/lang/String" 15 "java/lang/String" "coder" "B"] ++ objW "java/lang/String" 1 ++ staticW "java/lang/String" 177 Cmp3.yN ++ staticW "java/lang/String" 47 CodL.yN
def tab : Cond := tabOf yN yB 6 none site
def P (a : Addr) (D : Cell) (fV fC : Field) (b : Addr) (A : Cell) (z : Int32) (o len : Nat) (args : Array Value) (s : State) : Prop := args = #[.ref a, .ref b, .int (Int32.ofNat o), .int (Int32.ofNat len), .null] ∧ Blank "java/lang/String" a D s ∧ Found "java/lang/String" "value" "[B" fV s ∧ Found "java/lang/String" "coder" "B" fC s ∧ Ch b A s ∧ StaticIs s "java/lang/String" "COMPACT_STRINGS" "Z" (.int z) ∧ ¬ z = 0 ∧ 0 < len ∧ o + len ≤ A.slots.size ∧ len ≤ 536870912 ∧ ∀ i, i < len → ¬ 255 < cv A (o + i)
def E (a : Addr) (D : Cell) (fV fC : Field) (A : Cell) (o len : Nat) (r : Option Value) (s u : State) : Prop := Got a D fV fC A o len r s u
/-- len > 0, no char of the range above 255: a Latin-1 String of their low bytes -/
theorem law (l : Launch) (a : Addr) (D : Cell) (fV fC : Field) (b : Addr) (A : Cell) (z : Int32) (o len : Nat) : Law l yN 5 4 2 35 yB 6 none site (P a D fV fC b A z o len) (E a D fV fC A o len) [⟨a, fC.slot⟩, ⟨a, fV.slot⟩] 1 len := by
  refine Law.of_walk (plainFor_of_name (by decide +kernel)) (by decide +kernel) (by decide +kernel) (by decide) (fun _ _ h => by rw [h.1]; rfl) (fun _ U U' hal hh h => ⟨h.1, h.2.1.mv hal hh, h.2.2.1.al hal, h.2.2.2.1.al hal, h.2.2.2.2.1.mv hal hh, h.2.2.2.2.2.1.there hal hh, h.2.2.2.2.2.2⟩) (fun r U U' V V' h1 hal h2 h => Got.mv r U U' V V' h1 hal h2 h) ?_
  intro p e s m args below meth c s₁ X0 hexec hbytes hml hret hlk hnm hown hh0 W hP
  obtain ⟨rfl, hB, f1, f2, hA, s1, hz, l0, l1, l2, hp⟩ := hP
  have a31 := hA.1.2.2.2
  have c1 : Steps p.tables e below (s₁.setTop (entryFrame m #[.ref a, .ref b, .int (Int32.ofNat o), .int (Int32.ofNat len), .null] 6)) (s₁.setTop (mkF m 0 #[.val (.ref a), .val (.ref b), .val (.int (Int32.ofNat o)), .val (.int (Int32.ofNat len)), .val .null, .unset] [])) := entry rfl
  have c2 : Steps p.tables e below (s₁.setTop (entryFrame m #[.ref a, .ref b, .int (Int32.ofNat o), .int (Int32.ofNat len), .null] 6)) (s₁.setTop (mkF m 1 #[.val (.ref a), .val (.ref b), .val (.int (Int32.ofNat o)), .val (.int (Int32.ofNat len)), .val .null, .unset] [.ref a])) := c1.trans (by
    refine XS.aloadN X0.here hexec rfl (hb hbytes d0) rfl rfl ?_
    exact Steps.refl _)
  obtain ⟨T3, X3, q3, st3⟩ := X0.oinit hexec hown (wks W (objW "java/lang/String" 1)) (g := (mkF m 1 #[.val (.ref a), .val (.ref b), .val (.int (Int32.ofNat o)), .val (.int (Int32.ofNat len)), .val .null, .unset] [.ref a])) rfl (by rw [hml]; rfl) (rest := []) rfl (hb hbytes d1) (W := 0) (by show 2 * 0 + 0 ≤ _; decide) (Nat.le_of_ble_eq_true rfl) (Nat.le_of_ble_eq_true rfl)
  have hh3 := q3.trans hh0
  have c4 : Steps p.tables e below (s₁.setTop (entryFrame m #[.ref a, .ref b, .int (Int32.ofNat o), .int (Int32.ofNat len), .null] 6)) (T3.setTop (mkF m 27 #[.val (.ref a), .val (.ref b), .val (.int (Int32.ofNat o)), .val (.int (Int32.ofNat len)), .val .null, .unset] [])) := (c2.trans (st3 _ (Steps.refl _))).trans (by
    refine XS.iloadN X3.here hexec rfl (hb hbytes d4) rfl ?_
    refine XS.ifYes X3.here hexec rfl (pc0 := 5) rfl (hb hbytes d5) rfl (i0_ne_t (nz32 (by omega) l0)) (by decide) rfl ?_
    exact Steps.refl _)
  obtain ⟨T5, X5, q5, st5⟩ := X3.sget hexec hown (wk W (.fieldLink "java/lang/String" 38 "java/lang/String" "COMPACT_STRINGS" "Z")) s1 (fun _ _ h => by rw [hh3]; exact h) (g := (mkF m 27 #[.val (.ref a), .val (.ref b), .val (.int (Int32.ofNat o)), .val (.int (Int32.ofNat len)), .val .null, .unset] [])) rfl (hb hbytes d27)
  have hh5 := q5.trans hh3
  have c6 : Steps p.tables e below (s₁.setTop (entryFrame m #[.ref a, .ref b, .int (Int32.ofNat o), .int (Int32.ofNat len), .null] 6)) (T5.setTop (mkF m 30 #[.val (.ref a), .val (.ref b), .val (.int (Int32.ofNat o)), .val (.int (Int32.ofNat len)), .val .null, .unset] [.int z])) := c4.trans (st5 _ (Steps.refl _))
  have c7 : Steps p.tables e below (s₁.setTop (entryFrame m #[.ref a, .ref b, .int (Int32.ofNat o), .int (Int32.ofNat len), .null] 6)) (T5.setTop (mkF m 36 #[.val (.ref a), .val (.ref b), .val (.int (Int32.ofNat o)), .val (.int (Int32.ofNat len)), .val .null, .unset] [.int (Int32.ofNat len), .int (Int32.ofNat o), .ref b])) := c6.trans (by
    refine XS.ifNo X5.here hexec rfl (hb hbytes d30) rfl (i0_eq_f hz) ?_
    refine XS.aloadN X5.here hexec rfl (hb hbytes d33) rfl rfl ?_
    refine XS.iloadN X5.here hexec rfl (hb hbytes d34) rfl ?_
    refine XS.iloadN X5.here hexec rfl (hb hbytes d35) rfl ?_
    exact Steps.refl _)
  obtain ⟨v8, T8, X8, E8, g8⟩ := X5.callS hexec (Cmp3.law l b A o len) hown (wks W (staticW "java/lang/String" 177 Cmp3.yN)) (wk W Cmp3.tab) (W := 0) (Nat.le_of_ble_eq_true rfl) (Nat.le_of_ble_eq_true rfl) (Nat.le_refl _) (by show 0 + len ≤ len; omega) (g := (mkF m 36 #[.val (.ref a), .val (.ref b), .val (.int (Int32.ofNat o)), .val (.int (Int32.ofNat len)), .val .null, .unset] [.int (Int32.ofNat len), .int (Int32.ofNat o), .ref b])) rfl (by rw [hml]; rfl) c7 (argsL := [.ref b, .int (Int32.ofNat o), .int (Int32.ofNat len)]) (rest := []) rfl rfl (by show 2 * 0 + 0 ≤ _; decide) (hb hbytes d36) (⟨rfl, hA.mv X5.warmed.alike hh5, l1, l2, hp⟩)
  obtain ⟨e8, z8⟩ := E8
  obtain ⟨rfl, N, n1, n2, n3, n4, n5, n6⟩ := NewArr.mv _ T5 s _ _ hh5.symm (Vm.Alike.refl _) rfl e8
  rw [hh5] at z8
  have hB1 := hB.keep X8.warmed.alike (n6 _ _ hB.1)
  have hne : s.heap.size ≠ a := (Nat.ne_of_lt (Array.getElem?_eq_some_iff.mp hB.1).1).symm
  have c9 : Steps p.tables e below (s₁.setTop (entryFrame m #[.ref a, .ref b, .int (Int32.ofNat o), .int (Int32.ofNat len), .null] 6)) (T8.setTop (mkF m 39 #[.val (.ref a), .val (.ref b), .val (.int (Int32.ofNat o)), .val (.int (Int32.ofNat len)), .val .null, .unset] [.ref s.heap.size])) := g8
  have c10 : Steps p.tables e below (s₁.setTop (entryFrame m #[.ref a, .ref b, .int (Int32.ofNat o), .int (Int32.ofNat len), .null] 6)) (T8.setTop (mkF m 45 #[.val (.ref a), .val (.ref b), .val (.int (Int32.ofNat o)), .val (.int (Int32.ofNat len)), .val .null, .val (.ref s.heap.size)] [.int (Int32.ofNat N.slots.size), .ref s.heap.size, .ref a])) := by
    have hc : Steps p.tables e below (s₁.setTop (entryFrame m #[.ref a, .ref b, .int (Int32.ofNat o), .int (Int32.ofNat len), .null] 6)) (T8.setTop (mkF m 45 #[.val (.ref a), .val (.ref b), .val (.int (Int32.ofNat o)), .val (.int (Int32.ofNat len)), .val .null, .val (.ref s.heap.size)] [.int (Int32.ofNat len), .ref s.heap.size, .ref a])) := c9.trans (by
      refine XS.astore X8.here hexec rfl (hb hbytes d39) rfl rfl rfl ?_
      refine XS.aloadN X8.here hexec rfl (hb hbytes d41) rfl rfl ?_
      refine XS.aload X8.here hexec rfl (hb hbytes d42) rfl rfl ?_
      refine XS.iloadN X8.here hexec rfl (hb hbytes d44) rfl ?_
      exact Steps.refl _)
    rw [n4]; exact hc
  obtain ⟨v11, T11, X11, E11, g11⟩ := X8.callS hexec (CodL.law l s.heap.size N) hown (wks W (staticW "java/lang/String" 47 CodL.yN)) (wk W CodL.tab) (W := 1) (Nat.le_of_ble_eq_true rfl) (Nat.le_of_ble_eq_true rfl) (Nat.le_refl _) (by show 0 + len + 0 ≤ len; omega) (g := (mkF m 45 #[.val (.ref a), .val (.ref b), .val (.int (Int32.ofNat o)), .val (.int (Int32.ofNat len)), .val .null, .val (.ref s.heap.size)] [.int (Int32.ofNat N.slots.size), .ref s.heap.size, .ref a])) rfl (by rw [hml]; rfl) c10 (argsL := [.ref s.heap.size, .int (Int32.ofNat N.slots.size)]) (rest := [.ref a]) rfl rfl (by show 2 * 0 + (1 + 0) ≤ _; decide) (hb hbytes d45) (⟨rfl, n1⟩)
  obtain ⟨rfl, q11⟩ := E11
  have hB11 := hB1.mv (X8.warmed.alike.symm.trans X11.warmed.alike) q11
  have c12 : Steps p.tables e below (s₁.setTop (entryFrame m #[.ref a, .ref b, .int (Int32.ofNat o), .int (Int32.ofNat len), .null] 6)) (T11.setTop (mkF m 48 #[.val (.ref a), .val (.ref b), .val (.int (Int32.ofNat o)), .val (.int (Int32.ofNat len)), .val .null, .val (.ref s.heap.size)] [.int 0, .ref a])) := g11
  obtain ⟨T13, X13, p13, bl13, sl13, st13⟩ := X11.finit hexec hown (wk W (.fieldLink "java/lang/String" 15 "java/lang/String" "coder" "B")) (Or.inr ⟨_, (wk W (.laysFinal "java/lang/String" "java/lang/String" "coder" "B"))⟩) (Or.inl ⟨rfl, hnm⟩) f2 (Or.inl rfl) hB11 (t := .byte) (by decide +kernel) rfl (g := (mkF m 48 #[.val (.ref a), .val (.ref b), .val (.int (Int32.ofNat o)), .val (.int (Int32.ofNat len)), .val .null, .val (.ref s.heap.size)] [.int 0, .ref a])) rfl (rest := []) rfl (hb hbytes d48)
  have c14 : Steps p.tables e below (s₁.setTop (entryFrame m #[.ref a, .ref b, .int (Int32.ofNat o), .int (Int32.ofNat len), .null] 6)) (T13.setTop (mkF m 54 #[.val (.ref a), .val (.ref b), .val (.int (Int32.ofNat o)), .val (.int (Int32.ofNat len)), .val .null, .val (.ref s.heap.size)] [.ref s.heap.size, .ref a])) := (c12.trans (st13 _ (Steps.refl _))).trans (by
    refine XS.aloadN X13.here hexec rfl (hb hbytes d51) rfl rfl ?_
    refine XS.aload X13.here hexec rfl (hb hbytes d52) rfl rfl ?_
    exact Steps.refl _)
  obtain ⟨T15, X15, p15, bl15, sl15, st15⟩ := X13.finit hexec hown (wk W (.fieldLink "java/lang/String" 9 "java/lang/String" "value" "[B")) (Or.inr ⟨_, (wk W (.laysFinal "java/lang/String" "java/lang/String" "value" "[B"))⟩) (Or.inl ⟨rfl, hnm⟩) f1 (Or.inl rfl) bl13 (t := (.array .byte)) (by decide +kernel) rfl (g := (mkF m 54 #[.val (.ref a), .val (.ref b), .val (.int (Int32.ofNat o)), .val (.int (Int32.ofNat len)), .val .null, .val (.ref s.heap.size)] [.ref s.heap.size, .ref a])) rfl (rest := []) rfl (hb hbytes d54)
  have c16 : Steps p.tables e below (s₁.setTop (entryFrame m #[.ref a, .ref b, .int (Int32.ofNat o), .int (Int32.ofNat len), .null] 6)) (T15.setTop (mkF m 57 #[.val (.ref a), .val (.ref b), .val (.int (Int32.ofNat o)), .val (.int (Int32.ofNat len)), .val .null, .val (.ref s.heap.size)] [])) := c14.trans (st15 _ (Steps.refl _))
  have ap := apart (Or.inr ⟨_, (wk W (.laysFinal "java/lang/String" "java/lang/String" "value" "[B"))⟩) (Or.inr ⟨_, (wk W (.laysFinal "java/lang/String" "java/lang/String" "coder" "B"))⟩) f1 f2 (t₁ := .array .byte) (t₂ := .byte) (by decide +kernel) (by decide +kernel) (by decide)
  have al := X8.warmed.alike.symm.trans X15.warmed.alike
  have n7 : T11.heap[s.heap.size]? = some N := by rw [q11]; exact n1.1
  exact ⟨T15, none, _, _, _, X15, by simp, rfl, by omega, (fun _ => rfl), ⟨rfl, _, N, bl15, ((Same.refl D _).set _ (by simp)).set _ (by simp), sl15, (Cell.slots_setSlot_ne _ ap).trans sl13, n1.keep al (p15.other hne (p13.other hne n7)), n2, by rw [al.findClass]; exact n3, n4, n5, fun y c h1 h2 => p15.other h1 (p13.other h1 (by rw [q11]; exact n6 y c h2)), by rw [p15.2.2, p13.2.2, q11]; exact z8⟩, fun fs hl => c16.trans (X15.returnOut hexec hret (hb hbytes d57) hl)⟩
end New4
namespace New1
def yN : MethodName := ⟨"java/lang/String", "<init>", "([C)V"⟩
abbrev yB : ByteArray := jdk_42_method_3_code
theorem d0 : decode yB 0 = .ok (.aload_n 0, 1) := by decide +kernel
theorem d1 : decode yB 1 = .ok (.aload_n 1, 1) := by decide +kernel
theorem d2 : decode yB 2 = .ok (.iconst 0, 1) := by decide +kernel
theorem d3 : decode yB 3 = .ok (.aload_n 1, 1) := by decide +kernel
theorem d4 : decode yB 4 = .ok (.arraylength, 1) := by decide +kernel
theorem d5 : decode yB 5 = .ok (.aconst_null, 1) := by decide +kernel
theorem d6 : decode yB 6 = .ok (.invokespecial 27, 3) := by decide +kernel
theorem d9 : decode yB 9 = .ok (.return_, 1) := by decide +kernel
def site : List Cond := [New4.tab] ++ initW "java/lang/String" 27 New4.yN
def tab : Cond := tabOf yN yB 2 none site
def P (a : Addr) (D : Cell) (fV fC : Field) (b : Addr) (A : Cell) (z : Int32) (args : Array Value) (s : State) : Prop := args = #[.ref a, .ref b] ∧ Blank "java/lang/String" a D s ∧ Found "java/lang/String" "value" "[B" fV s ∧ Found "java/lang/String" "coder" "B" fC s ∧ Ch b A s ∧ StaticIs s "java/lang/String" "COMPACT_STRINGS" "Z" (.int z) ∧ ¬ z = 0 ∧ 0 < A.slots.size ∧ A.slots.size ≤ 536870912 ∧ ∀ i, i < A.slots.size → ¬ 255 < cv A i
def E (a : Addr) (D : Cell) (fV fC : Field) (A : Cell) (r : Option Value) (s u : State) : Prop := Got a D fV fC A 0 A.slots.size r s u
/-- new String(chars), not empty, no char above 255: a Latin-1 String of their low bytes -/
theorem law (l : Launch) (a : Addr) (D : Cell) (fV fC : Field) (b : Addr) (A : Cell) (z : Int32) : Law l yN 2 1 3 52 yB 2 none site (P a D fV fC b A z) (E a D fV fC A) [⟨a, fC.slot⟩, ⟨a, fV.slot⟩] 1 A.slots.size := by
  refine Law.of_walk (plainFor_of_name (by decide +kernel)) (by decide +kernel) (by decide +kernel) (by decide) (fun _ _ h => by rw [h.1]; rfl) (fun _ U U' hal hh h => ⟨h.1, h.2.1.mv hal hh, h.2.2.1.al hal, h.2.2.2.1.al hal, h.2.2.2.2.1.mv hal hh, h.2.2.2.2.2.1.there hal hh, h.2.2.2.2.2.2⟩) (fun r U U' V V' h1 hal h2 h => Got.mv r U U' V V' h1 hal h2 h) ?_
  intro p e s m args below meth c s₁ X0 hexec hbytes hml hret hlk hnm hown hh0 W hP
  obtain ⟨rfl, hB, f1, f2, hA, s1, hz, l0, l2, hp⟩ := hP
  have c1 : Steps p.tables e below (s₁.setTop (entryFrame m #[.ref a, .ref b] 2)) (s₁.setTop (mkF m 0 #[.val (.ref a), .val (.ref b)] [])) := entry rfl
  have c2 : Steps p.tables e below (s₁.setTop (entryFrame m #[.ref a, .ref b] 2)) (s₁.setTop (mkF m 6 #[.val (.ref a), .val (.ref b)] [.null, .int (Int32.ofNat A.slots.size), .int 0, .ref b, .ref a])) := c1.trans (by
    refine XS.aloadN X0.here hexec rfl (hb hbytes d0) rfl rfl ?_
    refine XS.aloadN X0.here hexec rfl (hb hbytes d1) rfl rfl ?_
    refine iconstV X0.here hexec rfl 0 (hb hbytes d2) (by decide) ?_
    refine XS.aloadN X0.here hexec rfl (hb hbytes d3) rfl rfl ?_
    refine X0.alen hexec (hA.1.mv X0.warmed.alike hh0) rfl rfl (hb hbytes d4) ?_
    refine XS.aconstNull X0.here hexec rfl (hb hbytes d5) ?_
    exact Steps.refl _)
  obtain ⟨v3, T3, X3, E3, g3⟩ := X0.callN hexec (New4.law l a D fV fC b A z 0 A.slots.size) rfl hown (wks W (initW "java/lang/String" 27 New4.yN)) (W New4.tab (by simp only [site, List.mem_cons, List.mem_append, true_or, or_true])) (W := 0) (Nat.le_of_ble_eq_true rfl) (Nat.le_of_ble_eq_true rfl) (Nat.le_refl _) (by show 0 + A.slots.size ≤ A.slots.size; omega) (g := (mkF m 6 #[.val (.ref a), .val (.ref b)] [.null, .int (Int32.ofNat A.slots.size), .int (Int32.ofNat 0), .ref b, .ref a])) rfl (by rw [hml]; rfl) c2 (argsL := [.ref b, .int (Int32.ofNat 0), .int (Int32.ofNat A.slots.size), .null]) (rest := []) rfl rfl (by show 2 * 0 + 0 ≤ _; decide) (hb hbytes d6) (⟨rfl, hB.mv X0.warmed.alike hh0, f1.al X0.warmed.alike, f2.al X0.warmed.alike, hA.mv X0.warmed.alike hh0, s1.there X0.warmed.alike hh0, hz, l0, by omega, l2, fun i hi => by rw [Nat.zero_add]; exact hp i hi⟩)
  have e0 := Got.mv _ s₁ s _ _ hh0.symm (Vm.Alike.refl _) rfl E3
  obtain rfl := e0.1
  have c4 : Steps p.tables e below (s₁.setTop (entryFrame m #[.ref a, .ref b] 2)) (T3.setTop (mkF m 9 #[.val (.ref a), .val (.ref b)] [])) := g3
  exact ⟨T3, none, _, _, _, X3, by simp, rfl, by omega, (fun _ => rfl), e0, fun fs hl => c4.trans (X3.returnOut hexec hret (hb hbytes d9) hl)⟩
theorem pays {l : Launch} {R : Room} {p : Program} {e : Env} {below : List Frame} {s : State} {sargs : Array Value} {len W : Nat} (a : Addr) (D : Cell) (fV fC : Field) (b : Addr) (A : Cell) (z : Int32) (htab : tab.before sargs s = true) (hfr : 4 ≤ R.frames) (hlo : W + 65 ≤ R.locals) :
    Back l R p e below s sargs yN len W (fun A₁ a₁ => A₁.cells + 1 ≤ R.cells ∧ A₁.slots + A.slots.size ≤ R.slots ∧ P a D fV fC b A z a₁ A₁.U) (fun A₁ _ v₁ B₁ => E a D fV fC A v₁ A₁.U B₁.U ∧ B₁.locs = A₁.locs ++ [⟨a, fC.slot⟩, ⟨a, fV.slot⟩] ∧ B₁.cells = A₁.cells + 1 ∧ B₁.slots = A₁.slots + A.slots.size) :=
  (law l a D fV fC b A z).pays htab hfr (by omega)
end New1
/-- the byte, read back as charAt reads it, is the char -/
theorem lo8_mask {x : Int32} (h0 : ¬ x < 0) (h1 : ¬ 255 < x) : lo8 x &&& 255 = x := by
  have t : ∀ k : Fin 256, lo8 (Int32.ofNat k.val) &&& 255 = Int32.ofNat k.val := by decide +kernel
  rw [Int32.lt_iff_toInt_lt] at h0 h1
  have e0 : (0 : Int32).toInt = 0 := rfl
  have e1 : (255 : Int32).toInt = 255 := rfl
  obtain ⟨k, hk⟩ : ∃ k : Nat, x.toInt = k := ⟨x.toInt.toNat, by omega⟩
  have hx : x = Int32.ofNat k := Int32.toInt_inj.mp (by rw [hk, Int32.toInt_ofNat_small (by omega)])
  rw [hx]
  exact t ⟨k, by omega⟩
end StrChars
namespace StrChars.Road
open Jvm Sem ClassFile Op Lib Jvm.Stand Jvm.Free Jvm.Free.XT
open Jvm.Lib.Cold (StaticIs)
abbrev ST : String := "java/lang/String"
/-- every table word that New1's law asks, flat -/
abbrev words : List Jvm.Cond := [.code New1.yN New1.yB 2 none, .initialized ST, .methodLink ST 27 New4.yN, .instanceMethod New4.yN,
  .code New4.yN New4.yB 6 none, .fieldLink ST 38 ST "COMPACT_STRINGS" "Z", .laysFinal ST ST "value" "[B", .fieldLink ST 9 ST "value" "[B", .laysFinal ST ST "coder" "B", .fieldLink ST 15 ST "coder" "B",
  .methodLink ST 1 Lib.objectInit, .instanceMethod Lib.objectInit, .code Lib.objectInit ⟨#[0xb1]⟩ 1 none, .methodLink ST 177 Cmp3.yN, .static Cmp3.yN, .methodLink ST 47 CodL.yN, .static CodL.yN,
  .code Cmp3.yN Cmp3.yB 6 (some (.array .byte)), .initialized U16, .arrayClass .byte, .methodLink U16 115 Cmp5.yN, .static Cmp5.yN, .code Cmp5.yN Cmp5.yB 7 (some .int), .code CodL.yN CodL.yB 2 (some .byte)]
theorem tab_of {a : Array Value} {s : State} (h : ∀ w ∈ words, w.before a s = true) : New1.tab.before a s = true := by
  have h5 : Cmp5.tab.before a s = true := unparts (wk h (.code Cmp5.yN Cmp5.yB 7 (some .int))) (wks h (.initialized Cmp5.yN.cls :: Cmp5.site))
  have hc : CodL.tab.before a s = true := unparts (wk h (.code CodL.yN CodL.yB 2 (some .byte))) (wks h (.initialized CodL.yN.cls :: CodL.site))
  have q5 : ∀ w ∈ Cmp5.tab :: words, w.before a s = true := fun w hw => (List.mem_cons.mp hw).elim (fun e => e ▸ h5) (h w)
  have h3 : Cmp3.tab.before a s = true := unparts (wk q5 (.code Cmp3.yN Cmp3.yB 6 (some (.array .byte)))) (wks q5 (.initialized Cmp3.yN.cls :: Cmp3.site))
  have q3 : ∀ w ∈ Cmp3.tab :: CodL.tab :: words, w.before a s = true := fun w hw => (List.mem_cons.mp hw).elim (fun e => e ▸ h3) fun hw => (List.mem_cons.mp hw).elim (fun e => e ▸ hc) (h w)
  have h4 : New4.tab.before a s = true := unparts (wk q3 (.code New4.yN New4.yB 6 none)) (wks q3 (.initialized New4.yN.cls :: New4.site))
  have q4 : ∀ w ∈ New4.tab :: words, w.before a s = true := fun w hw => (List.mem_cons.mp hw).elim (fun e => e ▸ h4) (h w)
  exact unparts (wk q4 (.code New1.yN New1.yB 2 none)) (wks q4 (.initialized New1.yN.cls :: New1.site))
/-- the words ride from the start Z to the walk's own state -/
theorem moved {Z s : State} {a0 args : Array Value} (hZ : Z.Warmed39 s.vm) (hw : ∀ d ∈ words, d.before a0 Z = true) : ∀ d ∈ words, d.before args s = true := fun d hd => by
  have q := hw d hd
  have t : ∀ d ∈ words, d = .arrayClass .byte ∨ (d.onTables && d.keepsFace) = true := by decide +kernel
  rcases t d hd with rfl | t
  · exact RoadKit.mvA hZ q
  · exact RoadKit.mv hZ q t
/-- WHAT COMES BACK, over the tables of the start Z: h the heap at the call, h' behind it -/
def Q (Z : State) (x : Addr) (A : Cell) (h : Heap) (v : Option Value) (h' : Heap) (L : List Loc) : Prop := v = none ∧ (∀ y ∈ L, y.base = x) ∧ RoadKit.Keep h h' [x] ∧ h'.size = h.size + 1 ∧ RoadKit.Exa Z h' x ST ∧ RoadKit.Fld Z h' x ST "value" "[B" (.ref h.size) ∧ RoadKit.Fld Z h' x ST "coder" "B" (.int 0) ∧
  (∃ V : Cell, RoadKit.Arr Z h' h.size V .byte ∧ V.vm = .none ∧ Z.vm.findClass "[B" = some V.cls ∧ V.slots.size = A.slots.size ∧ ∀ j, j < A.slots.size → V.slots[j]? = some (.int (lo8 (cv A j)))) ∧
  ∀ (O n d : String) (w : Value), RoadKit.Fld Z h x O n d w → RoadKit.slotOf Z O n d ≠ RoadKit.slotOf Z ST "value" "[B" → RoadKit.slotOf Z O n d ≠ RoadKit.slotOf Z ST "coder" "B" → RoadKit.Fld Z h' x O n d w
/-- **new String(chars) AT A CALL, IN THE ROAD'S FORM**: for specialBack behind newO: x the fresh String, b the char[] with the cell A -/
theorem back {p : Program} {l : Launch} {e : Env} {R : Room} {s : State} {args : Array Value} {below : List Frame} {len W : Nat} {Z : State} {a0 : Array Value} {h : Heap} (hZ : Z.Warmed39 s.vm) (hw : ∀ d ∈ words, d.before a0 Z = true) {kI : Nat} (wi : (Jvm.Cond.instantiable ST kI).before a0 Z = true)
    {x b : Addr} {A : Cell} {z : Int32} {v0 c0 : Value} (E : RoadKit.Exa Z h x ST) (V : RoadKit.Fld Z h x ST "value" "[B" v0) (C : RoadKit.Fld Z h x ST "coder" "B" c0) (K : RoadKit.Arr Z h b A .char) (hty : Typed .char A) (S : RoadKit.Sta Z h ST "COMPACT_STRINGS" "Z" (.int z)) (hz : ¬ z = 0)
    (l0 : 0 < A.slots.size) (l2 : A.slots.size ≤ 536870912) (hp : ∀ i, i < A.slots.size → ¬ 255 < cv A i) (hfr : 4 ≤ R.frames) (hlo : W + 65 ≤ R.locals) :
    Back l R p e below s args New1.yN len W (fun P a => a = #[.ref x, .ref b] ∧ P.U.heap = h ∧ P.cells + 1 ≤ R.cells ∧ P.slots + A.slots.size ≤ R.slots)
      (fun P _ v B => ∃ L, Q Z x A h v B.U.heap L ∧ B.locs = P.locs ++ L ∧ B.cells = P.cells + 1 ∧ B.slots = P.slots + A.slots.size) := by
  intro m meth c P g ig mk a X hg hsize hdg hW hn hp'
  obtain ⟨rfl, rfl, r1, r2⟩ := hp'
  have al : Z.vm.Alike P.U.vm := hZ.alike.trans X.warmed.alike
  obtain ⟨D, cfV, kV, iV, fV, hD, gV, stV, knV, obV, asV, slV⟩ := id V
  obtain ⟨D', cfC, kC, iC, fC, hD', gC, stC, -, -, asC, slC⟩ := id C
  cases hD.symm.trans hD'
  obtain ⟨D2, kD, e1, e2, e3, e4, e5⟩ := id E
  cases hD.symm.trans e1
  obtain ⟨c2, k2, i1, i2, i3, -⟩ := Cond.instantiable_spec wi
  cases e2.symm.trans i1
  cases e3.symm.trans i2
  obtain ⟨kU, u1, u2⟩ := al.2.2 _ _ e3
  have hB : Blank ST x D P.U := ⟨hD, ⟨knV, fun q hq => by rw [hq] at obV; cases obV⟩, by rw [al.findClass]; exact e2, kU, u1, by rw [u2]; exact i3, by rw [u2]; exact e5 i3⟩
  have F1 : Found ST "value" "[B" fV P.U := ⟨SBG.found_only al ⟨cfV, kV, iV, gV⟩, stV⟩
  have F2 : Found ST "coder" "B" fC P.U := ⟨SBG.found_only al ⟨cfC, kC, iC, gC⟩, stC⟩
  have hA : Ch b A P.U := ⟨⟨K.1, State.isArrayOf_alike al K.2.1, K.2.2, by omega⟩, hty⟩
  have hS : StaticIs P.U ST "COMPACT_STRINGS" "Z" (.int z) := by
    obtain ⟨cfS, iS, kS, fS, st, cS, t1, t2, t3, t4, t5, t6, t7⟩ := S
    exact StaticIs.there (s := { Z with heap := P.U.heap }) ⟨cfS, iS, kS, fS, st, cS, t1, t2, t3, t4, t5, (fun q => by rw [q] at t6; cases t6), t7⟩ al rfl
  obtain ⟨v, B, X', ⟨⟨hv, E', V', q1, q2, q3, q4, q5, q6, q7, q8, q9, q10, q11⟩, hl, hc, hs⟩, st⟩ := New1.pays x D fV fC b A z (tab_of (moved hZ hw)) hfr hlo m meth c P g ig mk _ X hg hsize hdg hW hn ⟨r1, r2, rfl, hB, F1, F2, hA, hS, hz, l0, l2, hp⟩
  have al' : Z.vm.Alike B.U.vm := hZ.alike.trans X'.warmed.alike
  have hsz : E'.slots.size = D.slots.size := by
    obtain ⟨-, -, -, kB, w1, w2, w3⟩ := q1
    obtain ⟨kB', y1, y2⟩ := al'.2.2 _ _ e3
    rw [q2.2.1] at w1
    cases w1.symm.trans y1
    rw [w3, e5 i3, y2]
  refine ⟨v, B, X', ⟨_, ⟨hv, ?_, ⟨by omega, fun y cy hy hn' => q10 y cy (by simpa using hn') hy, fun y cy hy => ?_⟩, q11, ⟨E', _, q1.1, by rw [q2.2.1]; exact e2, by rw [q2.2.1]; exact e3, by rw [q2.1]; exact obV, fun _ => by rw [hsz]; exact e5 i3⟩,
    ⟨E', cfV, kV, iV, fV, q1.1, gV, stV, by rw [q2.1]; exact knV, by rw [q2.1]; exact obV, by rw [q2.2.1]; exact asV, q3⟩, ⟨E', cfC, kC, iC, fC, q1.1, gC, stC, by rw [q2.1]; exact knV, by rw [q2.1]; exact obV, by rw [q2.2.1]; exact asC, q4⟩,
    ⟨V', ⟨q5.1, State.isArrayOf_alike al'.symm q5.2.1, q5.2.2.1⟩, q6, by rw [← al'.findClass]; exact q7, q8, fun j hj => by have := q9 j hj; rwa [Nat.zero_add] at this⟩, fun O n d w F n1 n2 => ?_⟩, hl, hc, hs⟩, st⟩
  · intro y hy
    simp only [List.mem_cons, List.not_mem_nil, or_false] at hy
    rcases hy with rfl | rfl <;> rfl
  · by_cases q : y = x
    · subst q
      cases hD.symm.trans hy
      exact ⟨E', q1.1, q2.2.1, q2.1, hsz⟩
    · exact ⟨cy, q10 y cy q hy, rfl, rfl, rfl⟩
  · obtain ⟨D3, cf, k, i, f, g1, g2, g3, g4, g5, g6, g7⟩ := F
    cases hD.symm.trans g1
    simp only [RoadKit.slotOf, g2, gV, gC, Option.map_some, Option.getD_some] at n1 n2
    exact ⟨E', cf, k, i, f, q1.1, g2, g3, by rw [q2.1]; exact g4, by rw [q2.1]; exact g5, by rw [q2.2.1]; exact g6, by rw [q2.2.2 f.slot (by simp [n1, n2])]; exact g7⟩
end StrChars.Road
namespace StrChars.Road
open Jvm Sem ClassFile Op Lib Jvm.Stand Jvm.Free Jvm.Free.XT
/-- WHAT COMES BACK, the byte[] as a list of values -/
def QA (Z : State) (x : Addr) (zn : Int32) (cs : List Int32) (h : Heap) (v : Option Value) (h' : Heap) (L : List Loc) : Prop := v = none ∧ (∀ y ∈ L, y.base = x) ∧ RoadKit.Keep h h' [x] ∧ h'.size = h.size + 1 ∧ RoadKit.Exa Z h' x ST ∧ RoadKit.Fld Z h' x ST "value" "[B" (.ref h.size) ∧ RoadKit.Fld Z h' x ST "coder" "B" (.int 0) ∧
  (∃ kb, Z.vm.findClass "[B" = some kb ∧ RoadKit.Arv Z h' h.size kb .byte zn (cs.map fun c => .int (lo8 c)) (.int 0)) ∧
  ∀ (O n d : String) (w : Value), RoadKit.Fld Z h x O n d w → RoadKit.slotOf Z O n d ≠ RoadKit.slotOf Z ST "value" "[B" → RoadKit.slotOf Z O n d ≠ RoadKit.slotOf Z ST "coder" "B" → RoadKit.Fld Z h' x O n d w
/-- **new String(chars) AT A CALL, THE ARRAYS AS LISTS**: the char[] at b holds cs, not empty, no char above 255 -/
theorem backArv {p : Program} {l : Launch} {e : Env} {R : Room} {s : State} {args : Array Value} {below : List Frame} {len W : Nat} {Z : State} {a0 : Array Value} {h : Heap} (hZ : Z.Warmed39 s.vm) (hw : ∀ d ∈ words, d.before a0 Z = true) {kI : Nat} (wi : (Jvm.Cond.instantiable ST kI).before a0 Z = true)
    {x b : Addr} {k : ClassId} {zn z : Int32} {cs : List Int32} {dv v0 c0 : Value} (E : RoadKit.Exa Z h x ST) (V : RoadKit.Fld Z h x ST "value" "[B" v0) (C : RoadKit.Fld Z h x ST "coder" "B" c0) (K : RoadKit.Arv Z h b k .char zn (cs.map Value.int) dv) (S : RoadKit.Sta Z h ST "COMPACT_STRINGS" "Z" (.int z)) (hz : ¬ z = 0)
    (hlen : zn.toNatClampNeg = cs.length) (h0 : 0 < cs.length) (hbig : cs.length ≤ 536870912) (hall : ∀ c ∈ cs, ¬ 255 < c) (hfr : 4 ≤ R.frames) (hlo : W + 65 ≤ R.locals) :
    Back l R p e below s args New1.yN len W (fun P a => a = #[.ref x, .ref b] ∧ P.U.heap = h ∧ P.cells + 1 ≤ R.cells ∧ P.slots + cs.length ≤ R.slots)
      (fun P _ v B => ∃ L, QA Z x zn cs h v B.U.heap L ∧ B.locs = P.locs ++ L ∧ B.cells = P.cells + 1 ∧ B.slots = P.slots + cs.length) := by
  obtain ⟨A, K1, K2, K3, K4, K5, K6⟩ := K
  have e : A.slots.size = cs.length := K3.trans hlen
  have hat : ∀ (i : Nat) (hi : i < cs.length), A.slots[i]? = some (.int cs[i]) := fun i hi => by rw [K5 i (by omega)]; simp [List.getD_eq_getElem?_getD, hi]
  have hcv : ∀ (i : Nat) (hi : i < cs.length), cv A i = cs[i] := fun i hi => by unfold cv; rw [hat i hi]
  have hty : Typed .char A := fun i v hv => by
    have hi : i < A.slots.size := (Array.getElem?_eq_some_iff.mp hv).1
    have q := K5 i hi
    rw [hv] at q
    rw [Option.some.inj q]
    exact K6 i hi
  refine Back.mono (back hZ hw wi E V C K1 hty S hz (by omega) (by omega) (fun i hi => by rw [hcv i (by omega)]; exact hall _ (List.getElem_mem _)) hfr hlo) (fun P a hp => ⟨hp.1, hp.2.1, hp.2.2.1, by rw [e]; exact hp.2.2.2⟩) (fun P a v B hp hq => ?_)
  obtain ⟨L, ⟨q1, q2, q3, q4, q5, q6, q7, ⟨V', v1, v2, v3, v4, v5⟩, q9⟩, hl, hc, hs⟩ := hq
  refine ⟨L, ⟨q1, q2, q3, q4, q5, q6, q7, ⟨V'.cls, v3, V', v1, rfl, by rw [v4, e, hlen], K4, fun i hi => ?_, fun i hi => ?_⟩, q9⟩, hl, hc, by rw [hs, e]⟩
  · have hi' : i < cs.length := by omega
    rw [v5 i (by omega), hcv i hi']; simp [List.getD_eq_getElem?_getD, hi']
  · have hi' : i < cs.length := by omega
    simp only [List.getD_eq_getElem?_getD, List.getElem?_map, List.getElem?_eq_getElem hi', Option.map_some, Option.getD_some]
    exact fits_lo8 _
end StrChars.Road
namespace StrChars.Road
open Jvm Sem ClassFile Op Lib Jvm.Stand Jvm.Free Jvm.Free.XT
/-- WHAT COMES BACK, in the writer's own shape -/
def QV (Z : State) (x : Addr) (N : Int32) (bs : List Int32) (h : Heap) (n0 : Nat) (v : Option Value) (h' : Heap) (L : List Loc) : Prop := v = none ∧ RoadKit.Fr n0 L ∧ RoadKit.Keep h h' [x] ∧ RoadKit.Exa Z h' x ST ∧ RoadKit.Fld Z h' x ST "coder" "B" (.int 0) ∧
  ∃ (t : Addr) (kb : ClassId), n0 ≤ t ∧ h.size ≤ t ∧ ¬ t = x ∧ RoadKit.Fld Z h' x ST "value" "[B" (.ref t) ∧ RoadKit.Arv Z h' t kb .byte N (bs.map Value.int) (.int 0)
/-- **new String(chars) AT A CALL, FOR THE WRITER**: a char[] of n known ints, each 0 to 255 -/
theorem backV {p : Program} {l : Launch} {e : Env} {R : Room} {s : State} {args : Array Value} {below : List Frame} {len W : Nat} {Z : State} {a0 : Array Value} {h : Heap} (hZ : Z.Warmed39 s.vm) (hw : ∀ d ∈ words, d.before a0 Z = true) {kI : Nat} (wi : (Jvm.Cond.instantiable ST kI).before a0 Z = true)
    {x b : Addr} {kC : ClassId} {cs bs : List Int32} {d v0 c0 : Value} {z N : Int32} {n n0 : Nat} (hx0 : n0 ≤ x) (hh0 : n0 ≤ h.size) (E : RoadKit.Exa Z h x ST) (V : RoadKit.Fld Z h x ST "value" "[B" v0) (C : RoadKit.Fld Z h x ST "coder" "B" c0) (K : RoadKit.Arv Z h b kC .char N (cs.map Value.int) d) (S : RoadKit.Sta Z h ST "COMPACT_STRINGS" "Z" (.int z)) (hz : ¬ z = 0)
    (hn : cs.length = n) (hN : N = Int32.ofNat n) (l0 : 0 < n) (l2 : n ≤ 4000) (hp : ∀ c ∈ cs, ¬ c < 0 ∧ ¬ (255 : Int32) < c) (hb : bs = cs.map (fun c => c.toInt8.toInt32)) (hfr : 4 ≤ R.frames) (hlo : W + 65 ≤ R.locals) :
    Back l R p e below s args (⟨"java/lang/String", "<init>", "([C)V"⟩ : MethodName) len W (fun P a => a = #[.ref x, .ref b] ∧ P.U.heap = h ∧ P.cells + 1 ≤ R.cells ∧ P.slots + n ≤ R.slots)
      (fun P _ v B => ∃ L, QV Z x N bs h n0 v B.U.heap L ∧ B.locs = P.locs ++ L ∧ B.cells = P.cells + 1 ∧ B.slots = P.slots + n) := by
  subst hn hN hb
  refine Back.mono (backArv hZ hw wi E V C K S hz (n32 (by omega)) l0 (by omega) (fun c hc => (hp c hc).2) hfr hlo) (fun P a hp => hp) (fun P a v B hp hq => ?_)
  obtain ⟨L, ⟨q1, q2, q3, q4, q5, q6, q7, ⟨kb, v1, v2⟩, q9⟩, hl, hc, hs⟩ := hq
  exact ⟨L, ⟨q1, fun y hy => by rw [q2 y hy]; exact hx0, q3, q5, q7, h.size, kb, hh0, Nat.le_refl _, Nat.ne_of_gt E.lt, q6, by rw [List.map_map]; exact v2⟩, hl, hc, hs⟩
end StrChars.Road
namespace StrChars
open Jvm Sem ClassFile Op Lib Jvm.Stand Jvm.Free.XT Jvm.Free.ALB Jvm.Free.JM Jvm.Free
open Jvm.Lib.Cold (StaticIs)
def hi8 (x : Int32) : Int32 := lo8 (x >>> ((8 : Int32) &&& 31))
/-- what StringUTF16.getChar makes of two bytes -/
def pairCh (u v : Int32) : Int32 := (((u &&& 255) <<< ((0 : Int32) &&& 31)) ||| ((v &&& 255) <<< ((8 : Int32) &&& 31))).toUInt32.toUInt16.toUInt32.toInt32
theorem shr0 (c : Int32) : c >>> ((0 : Int32) &&& 31) = c := by
  have e : ((0 : Int32) &&& 31) = 0 := by decide
  rw [e]
  apply Int32.toBitVec_inj.mp
  rw [Int32.toBitVec_shiftRight]
  have e1 : ((0 : Int32).toBitVec.smod 32) = 0#32 := by decide
  rw [e1, BitVec.sshiftRight_eq']
  exact BitVec.sshiftRight_zero
theorem lo8_and (x : Int32) : (lo8 x &&& 255).toBitVec.toNat = x.toBitVec.toNat % 256 := by
  have h : (lo8 x).toBitVec = (x.toBitVec.signExtend 8).signExtend 32 := by rw [lo8, Int8.toBitVec_toInt32, Int32.toBitVec_toInt8]
  rw [Int32.toBitVec_and, BitVec.toNat_and, h]
  have e : ((x.toBitVec.signExtend 8).signExtend 32).toNat % 256 = x.toBitVec.toNat % 256 := by
    rw [BitVec.toNat_signExtend]
    have hlt := x.toBitVec.isLt
    simp only [BitVec.toNat_setWidth, BitVec.toNat_signExtend]
    split <;> split <;> omega
  rw [← e]
  exact Nat.and_two_pow_sub_one_eq_mod _ 8
theorem pair_says {c : Int32} (h0 : ¬ c < 0) (h1 : ¬ 65535 < c) : pairCh (lo8 c) (hi8 c) = c := by
  rw [Int32.lt_iff_toInt_lt] at h0 h1
  have e0 : (0 : Int32).toInt = 0 := rfl
  have e1 : (65535 : Int32).toInt = 65535 := rfl
  have hc : c.toInt = c.toBitVec.toNat := by
    have := c.toBitVec.isLt
    have e : c.toInt = c.toBitVec.toInt := rfl
    rw [e] at h0 h1
    rw [e]
    rw [BitVec.toInt_eq_toNat_cond] at h0 h1 ⊢
    split at h0 <;> split <;> omega
  have hn : c.toBitVec.toNat < 65536 := by omega
  have a1 := lo8_and c
  have a2 : (hi8 c &&& 255).toBitVec.toNat = c.toBitVec.toNat / 256 := by
    rw [hi8, lo8_and]
    have e : ((8 : Int32) &&& 31) = 8 := by decide
    rw [e, Int32.toBitVec_shiftRight]
    have e2 : ((8 : Int32).toBitVec.smod 32) = 8#32 := by decide
    rw [e2, BitVec.sshiftRight_eq', BitVec.toNat_sshiftRight_of_msb_false (by rw [BitVec.msb_eq_false_iff_two_mul_lt]; omega)]
    show c.toBitVec.toNat >>> 8 % 256 = _
    rw [Nat.shiftRight_eq_div_pow]
    omega
  unfold pairCh
  apply Int32.toBitVec_inj.mp
  apply BitVec.eq_of_toNat_eq
  have f0 : ((0 : Int32) &&& 31) = 0 := by decide
  have f8 : ((8 : Int32) &&& 31) = 8 := by decide
  rw [f0, f8]
  have g : (((lo8 c &&& 255) <<< (0 : Int32)) ||| ((hi8 c &&& 255) <<< (8 : Int32))).toBitVec.toNat = c.toBitVec.toNat := by
    rw [Int32.toBitVec_or, Int32.toBitVec_shiftLeft, Int32.toBitVec_shiftLeft]
    have s0 : ((0 : Int32).toBitVec.smod 32) = 0#32 := by decide
    have s8 : ((8 : Int32).toBitVec.smod 32) = 8#32 := by decide
    rw [s0, s8, BitVec.toNat_or]
    simp only [BitVec.shiftLeft_eq', BitVec.toNat_shiftLeft, a1, a2]
    show (c.toBitVec.toNat % 256) <<< 0 % 2 ^ 32 ||| (c.toBitVec.toNat / 256) <<< 8 % 2 ^ 32 = _
    rw [Nat.shiftLeft_zero, Nat.mod_eq_of_lt (show c.toBitVec.toNat % 256 < 2 ^ 32 by omega), Nat.mod_eq_of_lt (show (c.toBitVec.toNat / 256) <<< 8 < 2 ^ 32 by rw [Nat.shiftLeft_eq]; omega), Nat.or_comm, ← Nat.shiftLeft_add_eq_or_of_lt (by omega), Nat.shiftLeft_eq]
    omega
  show BitVec.toNat (((((lo8 c &&& 255) <<< (0 : Int32)) ||| ((hi8 c &&& 255) <<< (8 : Int32))).toBitVec.setWidth 16).setWidth 32) = _
  rw [BitVec.toNat_setWidth, BitVec.toNat_setWidth, g]
  omega
end StrChars
namespace StrChars
open Jvm Sem ClassFile Op Lib Jvm.Stand Jvm.Free.XT Jvm.Free.ALB Jvm.Free.JM Jvm.Free
open Jvm.Lib.Cold (StaticIs)
theorem shr1 {n : Nat} (h : 2 * n < 2 ^ 31) : Int32.ofNat (2 * n) >>> ((1 : Int32) &&& 31) = Int32.ofNat n := by
  have e : ((1 : Int32) &&& 31) = 1 := by decide
  rw [e]
  apply Int32.toBitVec_inj.mp
  rw [Int32.toBitVec_shiftRight]
  have e1 : ((1 : Int32).toBitVec.smod 32) = 1#32 := by decide
  have hm : (BitVec.ofNat 32 (2 * n)).toNat = 2 * n := by rw [BitVec.toNat_ofNat, Nat.mod_eq_of_lt (by omega)]
  rw [e1, BitVec.sshiftRight_eq']
  apply BitVec.eq_of_toNat_eq
  show ((BitVec.ofNat 32 (2 * n)).sshiftRight 1).toNat = (BitVec.ofNat 32 n).toNat
  rw [BitVec.toNat_sshiftRight_of_msb_false (by rw [BitVec.msb_eq_false_iff_two_mul_lt, hm]; omega), hm, BitVec.toNat_ofNat, Nat.shiftRight_eq_div_pow]
  omega
/-- the array's cell V codes the n chars f 0 .. f (n - 1) by the coder cd, as the JDK does: coder 1 just where some char is above 255 -/
def Cod (cd : Int32) (n : Nat) (f : Nat → Int32) (V : Cell) : Prop := (cd = 0 ∧ V.slots.size = n ∧ ∀ j, j < n → V.slots[j]? = some (.int (lo8 (f j))) ∧ ¬ 255 < f j) ∨ (cd = 1 ∧ V.slots.size = 2 * n ∧ (∀ j, j < n → V.slots[2 * j]? = some (.int (lo8 (f j))) ∧ V.slots[2 * j + 1]? = some (.int (hi8 (f j)))) ∧ ∃ j, j < n ∧ 255 < f j)
theorem Cod.cd {cd : Int32} {n : Nat} {f : Nat → Int32} {V : Cell} (h : Cod cd n f V) : cd = 0 ∨ cd = 1 := h.imp (fun q => q.1) fun q => q.1
theorem Cod.len {cd : Int32} {n : Nat} {f : Nat → Int32} {V : Cell} (h : Cod cd n f V) (hs : V.slots.size < 2 ^ 31) : Int32.ofNat V.slots.size >>> (cd &&& 31) = Int32.ofNat n := by
  rcases h with ⟨rfl, h, -⟩ | ⟨rfl, h, -⟩
  · rw [shr0, h]
  · rw [h, shr1 (by omega)]
/-- **x is a String of the n chars f 0 .. f (n - 1)**, Latin-1 or UTF-16; its array at t has the cell V -/
def Txt (x t : Addr) (V : Cell) (cd : Int32) (n : Nat) (f : Nat → Int32) (U : State) : Prop := Exact "java/lang/String" x U ∧ Has x "java/lang/String" "value" "[B" (.ref t) U ∧ Has x "java/lang/String" "coder" "B" (.int cd) U ∧ XT.Arr .byte t V U ∧ Cod cd n f V ∧ ∀ j, j < n → ¬ f j < 0 ∧ ¬ 65535 < f j
theorem Txt.mv {x t : Addr} {V : Cell} {cd : Int32} {n : Nat} {f : Nat → Int32} {U U' : State} (h : Txt x t V cd n f U) (hal : U.vm.Alike U'.vm) (hh : U'.heap = U.heap) : Txt x t V cd n f U' := ⟨h.1.mv hal hh, h.2.1.mv hal hh, h.2.2.1.mv hal hh, h.2.2.2.1.mv hal hh, h.2.2.2.2⟩
namespace Cdr
def yN : MethodName := ⟨"java/lang/String", "coder", "()B"⟩
abbrev yB : ByteArray := jdk_42_method_152_code
theorem d0 : decode yB 0 = .ok (.getstatic 38, 3) := by decide +kernel
theorem d3 : decode yB 3 = .ok (.ifCond (.eq) 10, 3) := by decide +kernel
theorem d6 : decode yB 6 = .ok (.aload_n 0, 1) := by decide +kernel
theorem d7 : decode yB 7 = .ok (.getfield 15, 3) := by decide +kernel
theorem d10 : decode yB 10 = .ok (.goto 4, 3) := by decide +kernel
theorem d14 : decode yB 14 = .ok (.ireturn, 1) := by decide +kernel
def site : List Cond := [.fieldLink "java/lang/String" 38 "java/lang/String" "COMPACT_STRINGS" "Z", .fieldLink "java/lang/String" 15 "java/lang/String" "coder" "B"]
def tab : Cond := tabOf yN yB 1 (some .byte) site
def P (x : Addr) (cd z : Int32) (args : Array Value) (s : State) : Prop := args = #[.ref x] ∧ Has x "java/lang/String" "coder" "B" (.int cd) s ∧ (cd = 0 ∨ cd = 1) ∧ StaticIs s "java/lang/String" "COMPACT_STRINGS" "Z" (.int z) ∧ ¬ z = 0
def E (cd : Int32) (r : Option Value) (s u : State) : Prop := XT.PureE (some (.int cd)) r s u
theorem law (l : Launch) (x : Addr) (cd z : Int32) : Law l yN 1 0 0 0 yB 1 (some .byte) site (P x cd z) (E cd) [] 0 0 := by
  refine Law.of_walk (plainFor_of_name (by decide +kernel)) (by decide +kernel) (by decide +kernel) (by decide) (fun _ _ h => by rw [h.1]; rfl) (fun _ U U' hal hh h => ⟨h.1, h.2.1.mv hal hh, h.2.2.1, h.2.2.2.1.there hal hh, h.2.2.2.2⟩) (fun r U U' V V' h1 hal h2 h => XT.PureE.mv r U U' V V' h1 hal h2 h) ?_
  intro p e s m args below meth c s₁ X0 hexec hbytes hml hret hlk hnm hown hh0 W hP
  obtain ⟨rfl, hx, hc, s1, hz⟩ := hP
  have c1 : Steps p.tables e below (s₁.setTop (entryFrame m #[.ref x] 1)) (s₁.setTop (mkF m 0 #[.val (.ref x)] [])) := entry rfl
  obtain ⟨T2, X2, q2, st2⟩ := X0.sget hexec hown (wk W (.fieldLink "java/lang/String" 38 "java/lang/String" "COMPACT_STRINGS" "Z")) s1 (fun _ _ h => by rw [hh0]; exact h) (g := (mkF m 0 #[.val (.ref x)] [])) rfl (hb hbytes d0)
  have hh2 := q2.trans hh0
  have c3 : Steps p.tables e below (s₁.setTop (entryFrame m #[.ref x] 1)) (T2.setTop (mkF m 7 #[.val (.ref x)] [.ref x])) := (c1.trans (st2 _ (Steps.refl _))).trans (by
    refine XS.ifNo X2.here hexec rfl (hb hbytes d3) rfl (i0_eq_f hz) ?_
    refine XS.aloadN X2.here hexec rfl (hb hbytes d6) rfl rfl ?_
    exact Steps.refl _)
  obtain ⟨T4, X4, q4, st4⟩ := X2.hget hexec hown (wk W (.fieldLink "java/lang/String" 15 "java/lang/String" "coder" "B")) (hx.mv X2.warmed.alike hh2) (g := (mkF m 7 #[.val (.ref x)] [.ref x])) rfl (rest := []) rfl (hb hbytes d7)
  have c5 : Steps p.tables e below (s₁.setTop (entryFrame m #[.ref x] 1)) (T4.setTop (mkF m 14 #[.val (.ref x)] [.int cd])) := (c3.trans (st4 _ (Steps.refl _))).trans (by
    refine XS.goto X4.here hexec rfl (pc0 := 10) rfl (hb hbytes d10) (by decide) rfl ?_
    exact Steps.refl _)
  exact ⟨T4, some (.int cd), _, _, _, X4, rfl, rfl, rfl, (fun h => by cases h), ⟨rfl, q4.trans hh2⟩, fun fs hl => c5.trans (X4.ireturnOut hexec hret (by rcases hc with rfl | rfl <;> rfl) (Or.inr (Or.inr (Or.inl rfl))) (hb hbytes d14) hl)⟩
end Cdr
namespace Len
def yN : MethodName := ⟨"java/lang/String", "length", "()I"⟩
abbrev yB : ByteArray := jdk_42_method_54_code
theorem d0 : decode yB 0 = .ok (.aload_n 0, 1) := by decide +kernel
theorem d1 : decode yB 1 = .ok (.getfield 9, 3) := by decide +kernel
theorem d4 : decode yB 4 = .ok (.arraylength, 1) := by decide +kernel
theorem d5 : decode yB 5 = .ok (.aload_n 0, 1) := by decide +kernel
theorem d6 : decode yB 6 = .ok (.invokevirtual 335, 3) := by decide +kernel
theorem d9 : decode yB 9 = .ok (.ishr, 1) := by decide +kernel
theorem d10 : decode yB 10 = .ok (.ireturn, 1) := by decide +kernel
def site : List Cond := [.fieldLink "java/lang/String" 9 "java/lang/String" "value" "[B", Cdr.tab] ++ virtW "java/lang/String" 335 "java/lang/String" Cdr.yN Cdr.yN
def tab : Cond := tabOf yN yB 1 (some .int) site
def P (x t : Addr) (V : Cell) (cd : Int32) (n : Nat) (f : Nat → Int32) (z : Int32) (args : Array Value) (s : State) : Prop := args = #[.ref x] ∧ Txt x t V cd n f s ∧ StaticIs s "java/lang/String" "COMPACT_STRINGS" "Z" (.int z) ∧ ¬ z = 0
def E (n : Nat) (r : Option Value) (s u : State) : Prop := XT.PureE (some (.int (Int32.ofNat n))) r s u
/-- length() of a String of n chars, in either coding -/
theorem law (l : Launch) (x t : Addr) (V : Cell) (cd : Int32) (n : Nat) (f : Nat → Int32) (z : Int32) : Law l yN 1 0 1 13 yB 1 (some .int) site (P x t V cd n f z) (E n) [] 0 0 := by
  refine Law.of_walk (plainFor_of_name (by decide +kernel)) (by decide +kernel) (by decide +kernel) (by decide) (fun _ _ h => by rw [h.1]; rfl) (fun _ U U' hal hh h => ⟨h.1, h.2.1.mv hal hh, h.2.2.1.there hal hh, h.2.2.2⟩) (fun r U U' V V' h1 hal h2 h => XT.PureE.mv r U U' V V' h1 hal h2 h) ?_
  intro p e s m args below meth c s₁ X0 hexec hbytes hml hret hlk hnm hown hh0 W hP
  obtain ⟨rfl, hx, s1, hz⟩ := hP
  have v31 := hx.2.2.2.1.2.2.2
  have c1 : Steps p.tables e below (s₁.setTop (entryFrame m #[.ref x] 1)) (s₁.setTop (mkF m 1 #[.val (.ref x)] [.ref x])) := Steps.trans (entry rfl) (by
    show Steps p.tables e below (s₁.setTop (mkF m 0 #[.val (.ref x)] [])) _
    refine XS.aloadN X0.here hexec rfl (hb hbytes d0) rfl rfl ?_
    exact Steps.refl _)
  obtain ⟨T2, X2, q2, st2⟩ := X0.hget hexec hown (wk W (.fieldLink "java/lang/String" 9 "java/lang/String" "value" "[B")) (hx.mv X0.warmed.alike hh0).2.1 (g := (mkF m 1 #[.val (.ref x)] [.ref x])) rfl (rest := []) rfl (hb hbytes d1)
  have hh2 := q2.trans hh0
  have hx2 := hx.mv X2.warmed.alike hh2
  have c3 : Steps p.tables e below (s₁.setTop (entryFrame m #[.ref x] 1)) (T2.setTop (mkF m 6 #[.val (.ref x)] [.ref x, .int (Int32.ofNat V.slots.size)])) := (c1.trans (st2 _ (Steps.refl _))).trans (by
    refine X2.alen hexec hx2.2.2.2.1 rfl rfl (hb hbytes d4) ?_
    refine XS.aloadN X2.here hexec rfl (hb hbytes d5) rfl rfl ?_
    exact Steps.refl _)
  obtain ⟨v4, T4, X4, E4, g4⟩ := X2.callV hexec (Cdr.law l x cd z) hown (wks W (virtW "java/lang/String" 335 "java/lang/String" Cdr.yN Cdr.yN)) rfl (by decide) (wk W Cdr.tab) (W := 1) (Nat.le_of_ble_eq_true rfl) (Nat.le_of_ble_eq_true rfl) (Nat.le_refl _) (Nat.le_refl _) (hx2.1.fc X2.warmed.alike) hx2.1.is (g := (mkF m 6 #[.val (.ref x)] [.ref x, .int (Int32.ofNat V.slots.size)])) rfl (by rw [hml]; rfl) c3 (argsL := []) (rest := [.int (Int32.ofNat V.slots.size)]) rfl rfl (by show 2 * 0 + (1 + 0) ≤ _; decide) (hb hbytes d6) (⟨rfl, hx2.2.2.1, hx.2.2.2.2.1.cd, s1.there X2.warmed.alike hh2, hz⟩)
  obtain ⟨rfl, q4⟩ := E4
  have c5 : Steps p.tables e below (s₁.setTop (entryFrame m #[.ref x] 1)) (T4.setTop (mkF m 10 #[.val (.ref x)] [.int (Int32.ofNat V.slots.size >>> (cd &&& 31))])) := Steps.trans g4 (by
    refine ishr X4.here hexec rfl (hb hbytes d9) rfl ?_
    exact Steps.refl _)
  rw [hx.2.2.2.2.1.len v31] at c5
  exact ⟨T4, some (.int (Int32.ofNat n)), _, _, _, X4, rfl, rfl, rfl, (fun h => by cases h), ⟨rfl, q4.trans hh2⟩, fun fs hl => c5.trans (X4.ireturnOut hexec hret rfl (Or.inl rfl) (hb hbytes d10) hl)⟩
theorem pays {l : Launch} {R : Room} {p : Program} {e : Env} {below : List Frame} {s : State} {sargs : Array Value} {len W : Nat} (x t : Addr) (V : Cell) (cd : Int32) (n : Nat) (f : Nat → Int32) (z : Int32) (htab : tab.before sargs s = true) (hfr : 2 ≤ R.frames) (hlo : W + 25 ≤ R.locals) :
    Back l R p e below s sargs yN len W (fun A₁ a₁ => A₁.cells + 0 ≤ R.cells ∧ A₁.slots + 0 ≤ R.slots ∧ P x t V cd n f z a₁ A₁.U) (fun A₁ _ v₁ B₁ => E n v₁ A₁.U B₁.U ∧ B₁.locs = A₁.locs ++ [] ∧ B₁.cells = A₁.cells + 0 ∧ B₁.slots = A₁.slots + 0) :=
  (law l x t V cd n f z).pays htab hfr (by omega)
end Len
end StrChars
namespace StrChars.Road
open Jvm Sem ClassFile Op Lib Jvm.Stand Jvm.Free Jvm.Free.XT
open Jvm.Lib.Cold (StaticIs)
theorem consq {a : Array Value} {s : State} {c : Jvm.Cond} {L : List Jvm.Cond} (h0 : c.before a s = true) (h : ∀ w ∈ L, w.before a s = true) : ∀ w ∈ c :: L, w.before a s = true := fun w hw => (List.mem_cons.mp hw).elim (fun e => e ▸ h0) (h w)
/-- the words of String.length(), either coding -/
abbrev wordsLen : List Jvm.Cond := [.code Len.yN Len.yB 1 (some .int), .initialized ST, .fieldLink ST 9 ST "value" "[B", .fieldLink ST 38 ST "COMPACT_STRINGS" "Z", .fieldLink ST 15 ST "coder" "B", .code Cdr.yN Cdr.yB 1 (some .byte), .methodLink ST 335 Cdr.yN, .declares Cdr.yN, .selects ST Cdr.yN Cdr.yN, .instanceMethod Cdr.yN]
theorem tabLen_of {a : Array Value} {s : State} (h : ∀ w ∈ wordsLen, w.before a s = true) : Len.tab.before a s = true := by
  have hc : Cdr.tab.before a s = true := unparts (wk h (.code Cdr.yN Cdr.yB 1 (some .byte))) (wks h (.initialized Cdr.yN.cls :: Cdr.site))
  have q := consq hc h
  exact unparts (wk q (.code Len.yN Len.yB 1 (some .int))) (wks q (.initialized Len.yN.cls :: Len.site))
theorem movedLen {Z s : State} {a0 args : Array Value} (hZ : Z.Warmed39 s.vm) (hw : ∀ d ∈ wordsLen, d.before a0 Z = true) : ∀ d ∈ wordsLen, d.before args s = true := fun d hd => by
  have q := hw d hd
  have t : ∀ d ∈ wordsLen, d = .arrayClass .byte ∨ (d.onTables && d.keepsFace) = true := by decide +kernel
  rcases t d hd with rfl | t
  · exact RoadKit.mvA hZ q
  · exact RoadKit.mv hZ q t
/-- the bytes of the chars cs, low before high -/
def wideBytes : List Int32 → List Value
  | [] => []
  | c :: cs => .int (lo8 c) :: .int (hi8 c) :: wideBytes cs
theorem wide_lo (d : Value) : ∀ (cs : List Int32) (j : Nat), j < cs.length → (wideBytes cs).getD (2 * j) d = .int (lo8 (cs.getD j 0))
  | [], j, h => absurd h (Nat.not_lt_zero j)
  | c :: cs, 0, _ => rfl
  | c :: cs, j + 1, h => by
    have q := wide_lo d cs j (by simpa using h)
    rw [show 2 * (j + 1) = 2 * j + 1 + 1 from by omega]
    simpa [wideBytes] using q
theorem wide_hi (d : Value) : ∀ (cs : List Int32) (j : Nat), j < cs.length → (wideBytes cs).getD (2 * j + 1) d = .int (hi8 (cs.getD j 0))
  | [], j, h => absurd h (Nat.not_lt_zero j)
  | c :: cs, 0, _ => rfl
  | c :: cs, j + 1, h => by
    have q := wide_hi d cs j (by simpa using h)
    rw [show 2 * (j + 1) + 1 = 2 * j + 1 + 1 + 1 from by omega]
    simpa [wideBytes] using q
theorem low_at (d : Value) (cs : List Int32) (j : Nat) (h : j < cs.length) : (cs.map fun c => Value.int (lo8 c)).getD j d = .int (lo8 (cs.getD j 0)) := by
  simp [List.getD_eq_getElem?_getD, h]
/-- an array of N2 bytes vs codes the chars cs by the coder cd -/
def CodA (cs : List Int32) (cd N2 : Int32) (vs : List Value) : Prop := (cd = 0 ∧ N2 = Int32.ofNat cs.length ∧ vs = (cs.map fun c => Value.int (lo8 c)) ∧ ∀ c ∈ cs, ¬ 255 < c) ∨ (cd = 1 ∧ N2 = Int32.ofNat (2 * cs.length) ∧ vs = wideBytes cs ∧ ∃ c ∈ cs, 255 < c)
theorem CodA.cod {cs : List Int32} {cd N2 : Int32} {vs : List Value} {V : Cell} (h : CodA cs cd N2 vs) (hn : 2 * cs.length < 2 ^ 31) (hs : V.slots.size = N2.toNatClampNeg) (hv : RoadKit.Has V vs (.int 0)) : Cod cd cs.length (fun j => cs.getD j 0) V := by
  rcases h with ⟨rfl, rfl, rfl, h⟩ | ⟨rfl, rfl, rfl, c, hc, hw⟩
  · rw [n32 (by omega)] at hs
    exact Or.inl ⟨rfl, hs, fun j hj => ⟨by rw [hv j (by omega), low_at _ _ _ hj], by
      have e : cs.getD j 0 = cs[j] := by simp [List.getD_eq_getElem?_getD, hj]
      show ¬ 255 < cs.getD j 0
      rw [e]; exact h _ (List.getElem_mem _)⟩⟩
  · rw [n32 (by omega)] at hs
    obtain ⟨j, hj, rfl⟩ := List.getElem_of_mem hc
    exact Or.inr ⟨rfl, hs, fun j hj => ⟨by rw [hv _ (by omega), wide_lo _ _ _ hj], by rw [hv _ (by omega), wide_hi _ _ _ hj]⟩, j, hj, by
      have e : cs.getD j 0 = cs[j] := by simp [List.getD_eq_getElem?_getD, hj]
      show 255 < cs.getD j 0
      rw [e]; exact hw⟩
/-- an object of exactly java/lang/String, its two fields found: as the laws ask it -/
theorem strObj {Z U : State} {a0 : Array Value} {kI : Nat} (wi : (Jvm.Cond.instantiable ST kI).before a0 Z = true) (al : Z.vm.Alike U.vm) {x : Addr} {v0 c0 : Value} (E : RoadKit.Exa Z U.heap x ST) (V : RoadKit.Fld Z U.heap x ST "value" "[B" v0) (C : RoadKit.Fld Z U.heap x ST "coder" "B" c0) :
    ∃ (D : Cell) (fV fC : Field), Blank ST x D U ∧ Found ST "value" "[B" fV U ∧ Found ST "coder" "B" fC U ∧ D.slots[fV.slot]? = some v0 ∧ D.slots[fC.slot]? = some c0 ∧ RoadKit.slotOf Z ST "value" "[B" = fV.slot ∧ RoadKit.slotOf Z ST "coder" "B" = fC.slot := by
  obtain ⟨D, cfV, kV, iV, fV, hD, gV, stV, knV, obV, asV, slV⟩ := V
  obtain ⟨D', cfC, kC, iC, fC, hD', gC, stC, -, -, asC, slC⟩ := C
  cases hD.symm.trans hD'
  obtain ⟨D2, kD, e1, e2, e3, e4, e5⟩ := E
  cases hD.symm.trans e1
  obtain ⟨c2, k2, i1, i2, i3, -⟩ := Cond.instantiable_spec wi
  cases e2.symm.trans i1
  cases e3.symm.trans i2
  obtain ⟨kU, u1, u2⟩ := al.2.2 _ _ e3
  exact ⟨D, fV, fC, ⟨hD, ⟨knV, fun q hq => by rw [hq] at obV; cases obV⟩, by rw [al.findClass]; exact e2, kU, u1, by rw [u2]; exact i3, by rw [u2]; exact e5 i3⟩, ⟨SBG.found_only al ⟨cfV, kV, iV, gV⟩, stV⟩, ⟨SBG.found_only al ⟨cfC, kC, iC, gC⟩, stC⟩, slV, slC, by simp [RoadKit.slotOf, gV], by simp [RoadKit.slotOf, gC]⟩
theorem sta_is {Z U : State} (al : Z.vm.Alike U.vm) {C n d : String} {v : Value} (S : RoadKit.Sta Z U.heap C n d v) : StaticIs U C n d v := by
  obtain ⟨cfS, iS, kS, fS, st, cS, t1, t2, t3, t4, t5, t6, t7⟩ := S
  exact StaticIs.there (s := { Z with heap := U.heap }) ⟨cfS, iS, kS, fS, st, cS, t1, t2, t3, t4, t5, (fun q => by rw [q] at t6; cases t6), t7⟩ al rfl
/-- **length() OF SUCH A STRING** -/
theorem lenW {p : Program} {l : Launch} {e : Env} {R : Room} {s : State} {args : Array Value} {below : List Frame} {len W : Nat} {Z : State} {a0 : Array Value} {h : Heap} (hZ : Z.Warmed39 s.vm) (hw : ∀ d ∈ wordsLen, d.before a0 Z = true) {kI : Nat} (wi : (Jvm.Cond.instantiable ST kI).before a0 Z = true)
    {x t : Addr} {kb : ClassId} {cs : List Int32} {cd N2 z : Int32} {vs : List Value} (E : RoadKit.Exa Z h x ST) (V : RoadKit.Fld Z h x ST "value" "[B" (.ref t)) (C : RoadKit.Fld Z h x ST "coder" "B" (.int cd)) (K : RoadKit.Arv Z h t kb .byte N2 vs (.int 0)) (hc : CodA cs cd N2 vs) (hb : ∀ c ∈ cs, ¬ c < 0 ∧ ¬ (65535 : Int32) < c)
    (S : RoadKit.Sta Z h ST "COMPACT_STRINGS" "Z" (.int z)) (hz : ¬ z = 0) (l2 : cs.length ≤ 4000) (hfr : 2 ≤ R.frames) (hlo : W + 25 ≤ R.locals) :
    Back l R p e below s args (⟨"java/lang/String", "length", "()I"⟩ : MethodName) len W (fun P a => a = #[.ref x] ∧ P.U.heap = h ∧ P.cells + 0 ≤ R.cells ∧ P.slots + 0 ≤ R.slots)
      (fun P _ v B => ∃ L, (v = some (.int (Int32.ofNat cs.length)) ∧ L = [] ∧ B.U.heap = h) ∧ B.locs = P.locs ++ L ∧ B.cells = P.cells + 0 ∧ B.slots = P.slots + 0) := by
  obtain ⟨A, K1, K2, K3, K4, K5, K6⟩ := K
  have hcod := hc.cod (by omega) K3 K5
  intro m meth c P g ig mk a X hg hsize hdg hW hn hp'
  obtain ⟨rfl, rfl, r1, r2⟩ := hp'
  have al : Z.vm.Alike P.U.vm := hZ.alike.trans X.warmed.alike
  obtain ⟨D, fV, fC, hB, F1, F2, g1, g2, -, -⟩ := strObj wi al E V C
  have hx : Txt x t A cd cs.length (fun j => cs.getD j 0) P.U := ⟨⟨_, hB.2.2.1, D, hB.1, rfl, by cases q : D.vm <;> first | rfl | exact absurd q (hB.2.1.2 _)⟩, Has.of hB F1 g1, Has.of hB F2 g2, ⟨K1.1, State.isArrayOf_alike al K1.2.1, K1.2.2, by rcases hcod with ⟨-, q, -⟩ | ⟨-, q, -⟩ <;> omega⟩, hcod, fun j hj => by
    have e : cs.getD j 0 = cs[j] := by simp [List.getD_eq_getElem?_getD, hj]
    show ¬ cs.getD j 0 < 0 ∧ ¬ 65535 < cs.getD j 0
    rw [e]; exact hb _ (List.getElem_mem _)⟩
  obtain ⟨v, B, X', ⟨⟨hv, hh⟩, hl, hk, hs⟩, st⟩ := Len.pays x t A cd cs.length (fun j => cs.getD j 0) z (tabLen_of (movedLen hZ hw)) hfr hlo m meth c P g ig mk _ X hg hsize hdg hW hn ⟨r1, r2, rfl, hx, sta_is al S, hz⟩
  exact ⟨v, B, X', ⟨[], ⟨hv, rfl, hh⟩, hl, hk, hs⟩, st⟩
end StrChars.Road
namespace StrChars
open Jvm Sem ClassFile Op Lib Jvm.Stand Jvm.Free.XT Jvm.Free.ALB Jvm.Free.JM Jvm.Free
open Jvm.Lib.Cold (StaticIs)
/-- what place i of a byte[]'s cell holds -/
def yv (A : Cell) (i : Nat) : Int32 := match A.slots[i]? with | some (.int x) => x | _ => 0
theorem yv_get {a : Addr} {A : Cell} {U : State} (h : XT.Arr .byte a A U) (ht : Typed .byte A) {i : Nat} (hi : i < A.slots.size) : A.slots[i]? = some (.int (yv A i)) := by
  have e := Array.getElem?_eq_getElem hi
  have f := ht i _ e
  unfold yv; rw [e]
  generalize A.slots[i] = v at f
  cases v <;> simp [fits] at f ⊢
/-- the two arrays are equal, place for place -/
def EqC (A B : Cell) : Prop := A.slots.size = B.slots.size ∧ ∀ i, i < A.slots.size → yv A i = yv B i
/-- a boolean that says whether p -/
def Says01 (q : Prop) (r : Option Value) (s u : State) : Prop := ∃ v : Int32, r = some (.int v) ∧ u.heap = s.heap ∧ ((v = 1 ∧ q) ∨ (v = 0 ∧ ¬ q))
theorem Says01.mv {q : Prop} : ∀ r (U U' V V' : State), U'.heap = U.heap → V.vm.Alike V'.vm → V'.heap = V.heap → Says01 q r U V → Says01 q r U' V' :=
  fun r U U' V V' h1 _ h2 ⟨v, a, b, c⟩ => ⟨v, a, by rw [h1, h2]; exact b, c⟩
namespace LEq
def yN : MethodName := ⟨"java/lang/StringLatin1", "equals", "([B[B)Z"⟩
abbrev yB : ByteArray := jdk_43_method_13_code
theorem d0 : decode yB 0 = .ok (.aload_n 0, 1) := by decide +kernel
theorem d1 : decode yB 1 = .ok (.arraylength, 1) := by decide +kernel
theorem d2 : decode yB 2 = .ok (.aload_n 1, 1) := by decide +kernel
theorem d3 : decode yB 3 = .ok (.arraylength, 1) := by decide +kernel
theorem d4 : decode yB 4 = .ok (.if_icmp (.ne) 30, 3) := by decide +kernel
theorem d7 : decode yB 7 = .ok (.iconst 0, 1) := by decide +kernel
theorem d8 : decode yB 8 = .ok (.istore_n 2, 1) := by decide +kernel
theorem d9 : decode yB 9 = .ok (.iload_n 2, 1) := by decide +kernel
theorem d10 : decode yB 10 = .ok (.aload_n 0, 1) := by decide +kernel
theorem d11 : decode yB 11 = .ok (.arraylength, 1) := by decide +kernel
theorem d12 : decode yB 12 = .ok (.if_icmp (.ge) 20, 3) := by decide +kernel
theorem d15 : decode yB 15 = .ok (.aload_n 0, 1) := by decide +kernel
theorem d16 : decode yB 16 = .ok (.iload_n 2, 1) := by decide +kernel
theorem d17 : decode yB 17 = .ok (.baload, 1) := by decide +kernel
theorem d18 : decode yB 18 = .ok (.aload_n 1, 1) := by decide +kernel
theorem d19 : decode yB 19 = .ok (.iload_n 2, 1) := by decide +kernel
theorem d20 : decode yB 20 = .ok (.baload, 1) := by decide +kernel
theorem d21 : decode yB 21 = .ok (.if_icmp (.eq) 5, 3) := by decide +kernel
theorem d24 : decode yB 24 = .ok (.iconst 0, 1) := by decide +kernel
theorem d25 : decode yB 25 = .ok (.ireturn, 1) := by decide +kernel
theorem d26 : decode yB 26 = .ok (.iinc 2 1, 3) := by decide +kernel
theorem d29 : decode yB 29 = .ok (.goto (-20), 3) := by decide +kernel
theorem d32 : decode yB 32 = .ok (.iconst 1, 1) := by decide +kernel
theorem d33 : decode yB 33 = .ok (.ireturn, 1) := by decide +kernel
theorem d34 : decode yB 34 = .ok (.iconst 0, 1) := by decide +kernel
theorem d35 : decode yB 35 = .ok (.ireturn, 1) := by decide +kernel
def site : List Cond := []
def tab : Cond := tabOf yN yB 3 (some .boolean) site
def P (a : Addr) (A : Cell) (b : Addr) (B : Cell) (args : Array Value) (s : State) : Prop := args = #[.ref a, .ref b] ∧ XT.Arr .byte a A s ∧ Typed .byte A ∧ XT.Arr .byte b B s ∧ Typed .byte B
/-- whether two byte[] are equal, place for place -/
theorem law (l : Launch) (a : Addr) (A : Cell) (b : Addr) (B : Cell) : Law l yN 2 2 0 0 yB 3 (some .boolean) site (P a A b B) (Says01 (EqC A B)) [] 0 0 := by
  refine Law.of_walk (plainFor_of_name (by decide +kernel)) (by decide +kernel) (by decide +kernel) (by decide) (fun _ _ h => by rw [h.1]; rfl) (fun _ U U' hal hh h => ⟨h.1, h.2.1.mv hal hh, h.2.2.1, h.2.2.2.1.mv hal hh, h.2.2.2.2⟩) (fun r U U' V V' h1 hal h2 h => Says01.mv r U U' V V' h1 hal h2 h) ?_
  intro p e s m args below meth c s₁ X0 hexec hbytes hml hret hlk hnm hown hh0 W hP
  obtain ⟨rfl, hA, tA, hB, tB⟩ := hP
  have a31 := hA.2.2.2
  have b31 := hB.2.2.2
  have hA0 := hA.mv X0.warmed.alike hh0
  have hB0 := hB.mv X0.warmed.alike hh0
  have c1 : Steps p.tables e below (s₁.setTop (entryFrame m #[.ref a, .ref b] 3)) (s₁.setTop (mkF m 0 #[.val (.ref a), .val (.ref b), .unset] [])) := entry rfl
  have c2 : Steps p.tables e below (s₁.setTop (entryFrame m #[.ref a, .ref b] 3)) (s₁.setTop (mkF m 4 #[.val (.ref a), .val (.ref b), .unset] [.int (Int32.ofNat B.slots.size), .int (Int32.ofNat A.slots.size)])) := c1.trans (by
    refine XS.aloadN X0.here hexec rfl (hb hbytes d0) rfl rfl ?_
    refine X0.alen hexec hA0 rfl rfl (hb hbytes d1) ?_
    refine XS.aloadN X0.here hexec rfl (hb hbytes d2) rfl rfl ?_
    refine X0.alen hexec hB0 rfl rfl (hb hbytes d3) ?_
    exact Steps.refl _)
  by_cases hs : A.slots.size = B.slots.size
  · have c3 : Steps p.tables e below (s₁.setTop (entryFrame m #[.ref a, .ref b] 3)) (s₁.setTop (mkF m 9 #[.val (.ref a), .val (.ref b), .val (.int 0)] [])) := c2.trans (by
      refine XS.icmpNo X0.here hexec rfl (hb hbytes d4) rfl (ii_ne_f (by rw [hs])) ?_
      refine iconstV X0.here hexec rfl 0 (hb hbytes d7) (by decide) ?_
      refine XS.istoreN X0.here hexec rfl (hb hbytes d8) rfl rfl ?_
      exact Steps.refl _)
    have loop : ∀ (r i : Nat), i + r = A.slots.size → (∀ j, j < i → yv A j = yv B j) → Steps p.tables e below (s₁.setTop (entryFrame m #[.ref a, .ref b] 3)) (s₁.setTop (mkF m 9 #[.val (.ref a), .val (.ref b), .val (.int (Int32.ofNat i))] [])) → ∃ (pc : Nat) (Ls : Array Slot) (v : Int32), (pc = 25 ∨ pc = 33) ∧ ((v = 1 ∧ EqC A B) ∨ (v = 0 ∧ ¬ EqC A B)) ∧ Steps p.tables e below (s₁.setTop (entryFrame m #[.ref a, .ref b] 3)) (s₁.setTop (mkF m pc Ls [.int v])) := by
      intro r
      induction r with
      | zero =>
        intro i hi he cl
        exact ⟨33, _, 1, Or.inr rfl, Or.inl ⟨rfl, hs, fun j hj => he j (by omega)⟩, cl.trans (by
          refine XS.iloadN X0.here hexec rfl (hb hbytes d9) rfl ?_
          refine XS.aloadN X0.here hexec rfl (hb hbytes d10) rfl rfl ?_
          refine X0.alen hexec hA0 rfl rfl (hb hbytes d11) ?_
          refine XS.icmpYes X0.here hexec rfl (pc0 := 12) rfl (hb hbytes d12) rfl (ii_ge_t (nlt32 (by omega) (by omega))) (by decide) rfl ?_
          refine iconstV X0.here hexec rfl 1 (hb hbytes d32) (by decide) ?_
          exact Steps.refl _)⟩
      | succ r ih =>
        intro i hi he cl
        have c4 : Steps p.tables e below (s₁.setTop (entryFrame m #[.ref a, .ref b] 3)) (s₁.setTop (mkF m 21 #[.val (.ref a), .val (.ref b), .val (.int (Int32.ofNat i))] [.int (yv B i), .int (yv A i)])) := cl.trans (by
          refine XS.iloadN X0.here hexec rfl (hb hbytes d9) rfl ?_
          refine XS.aloadN X0.here hexec rfl (hb hbytes d10) rfl rfl ?_
          refine X0.alen hexec hA0 rfl rfl (hb hbytes d11) ?_
          refine XS.icmpNo X0.here hexec rfl (hb hbytes d12) rfl (ii_ge_f (lt32 (by omega) (by omega))) ?_
          refine XS.aloadN X0.here hexec rfl (hb hbytes d15) rfl rfl ?_
          refine XS.iloadN X0.here hexec rfl (hb hbytes d16) rfl ?_
          refine X0.aget hexec hA0 rfl (yv_get hA tA (i := i) (by omega)) rfl rfl (hb hbytes d17) ?_
          refine XS.aloadN X0.here hexec rfl (hb hbytes d18) rfl rfl ?_
          refine XS.iloadN X0.here hexec rfl (hb hbytes d19) rfl ?_
          refine X0.aget hexec hB0 rfl (yv_get hB tB (i := i) (by omega)) rfl rfl (hb hbytes d20) ?_
          exact Steps.refl _)
        by_cases hv : yv A i = yv B i
        · have c5 : Steps p.tables e below (s₁.setTop (entryFrame m #[.ref a, .ref b] 3)) (s₁.setTop (mkF m 9 #[.val (.ref a), .val (.ref b), .val (.int (Int32.ofNat i + 1))] [])) := c4.trans (by
            refine XS.icmpYes X0.here hexec rfl (pc0 := 21) rfl (hb hbytes d21) rfl (ii_eq_t hv) (by decide) rfl ?_
            refine iincV X0.here hexec rfl 1 (hb hbytes d26) (by decide) rfl rfl ?_
            refine XS.goto X0.here hexec rfl (pc0 := 29) rfl (hb hbytes d29) (by decide) rfl ?_
            exact Steps.refl _)
          rw [succ32] at c5
          exact ih (i + 1) (by omega) (fun j hj => by
            by_cases e : j = i
            · rw [e]; exact hv
            · exact he j (by omega)) c5
        · exact ⟨25, _, 0, Or.inl rfl, Or.inr ⟨rfl, fun q => hv (q.2 i (by omega))⟩, c4.trans (by
            refine XS.icmpNo X0.here hexec rfl (hb hbytes d21) rfl (ii_eq_f hv) ?_
            refine iconstV X0.here hexec rfl 0 (hb hbytes d24) (by decide) ?_
            exact Steps.refl _)⟩
    obtain ⟨pc, Ls, v, hpc, hv, cz⟩ := loop A.slots.size 0 (by omega) (fun j hj => absurd hj (Nat.not_lt_zero j)) c3
    have nv : narrow .boolean (.int v) = .int v := by rcases hv with ⟨rfl, -⟩ | ⟨rfl, -⟩ <;> rfl
    rcases hpc with rfl | rfl
    · exact ⟨s₁, some (.int v), _, _, _, X0, rfl, rfl, rfl, (fun h => by cases h), ⟨v, rfl, hh0, hv⟩, fun fs hl => cz.trans (X0.ireturnOut hexec hret nv (Or.inr (Or.inl rfl)) (hb hbytes d25) hl)⟩
    · exact ⟨s₁, some (.int v), _, _, _, X0, rfl, rfl, rfl, (fun h => by cases h), ⟨v, rfl, hh0, hv⟩, fun fs hl => cz.trans (X0.ireturnOut hexec hret nv (Or.inr (Or.inl rfl)) (hb hbytes d33) hl)⟩
  · have c3 : Steps p.tables e below (s₁.setTop (entryFrame m #[.ref a, .ref b] 3)) (s₁.setTop (mkF m 35 #[.val (.ref a), .val (.ref b), .unset] [.int 0])) := c2.trans (by
      refine XS.icmpYes X0.here hexec rfl (pc0 := 4) rfl (hb hbytes d4) rfl (ii_ne_t (ne32 a31 b31 hs)) (by decide) rfl ?_
      refine iconstV X0.here hexec rfl 0 (hb hbytes d34) (by decide) ?_
      exact Steps.refl _)
    exact ⟨s₁, some (.int 0), _, _, _, X0, rfl, rfl, rfl, (fun h => by cases h), ⟨0, rfl, hh0, Or.inr ⟨rfl, fun q => hs q.1⟩⟩, fun fs hl => c3.trans (X0.ireturnOut hexec hret rfl (Or.inr (Or.inl rfl)) (hb hbytes d35) hl)⟩
end LEq
theorem Cod.ty {cd : Int32} {n : Nat} {f : Nat → Int32} {V : Cell} (h : Cod cd n f V) : Typed .byte V := fun i v hv => by
  have hi : i < V.slots.size := (Array.getElem?_eq_some_iff.mp hv).1
  rcases h with ⟨-, k1, k2⟩ | ⟨-, k1, k2, -⟩
  · rw [(k2 i (by omega)).1] at hv; cases hv; exact fits_lo8 _
  · rcases Nat.mod_two_eq_zero_or_one i with e | e
    · obtain ⟨j, rfl⟩ : ∃ j, i = 2 * j := ⟨i / 2, by omega⟩
      rw [(k2 j (by omega)).1] at hv; cases hv; exact fits_lo8 _
    · obtain ⟨j, rfl⟩ : ∃ j, i = 2 * j + 1 := ⟨i / 2, by omega⟩
      rw [(k2 j (by omega)).2] at hv; cases hv; exact fits_lo8 _
/-- the same text -/
def SameT (n : Nat) (f : Nat → Int32) (k : Nat) (g : Nat → Int32) : Prop := n = k ∧ ∀ j, j < n → f j = g j
theorem lo8_inj {x y : Int32} (h0 : ¬ x < 0) (h1 : ¬ 255 < x) (k0 : ¬ y < 0) (k1 : ¬ 255 < y) (h : lo8 x = lo8 y) : x = y := by
  rw [← lo8_mask h0 h1, ← lo8_mask k0 k1, h]
/-- arrays coded by one coder are equal just where the texts are -/
theorem Cod.eqv {cd : Int32} {n k : Nat} {f g : Nat → Int32} {V V' : Cell} (h : Cod cd n f V) (h' : Cod cd k g V') (hf : ∀ j, j < n → ¬ f j < 0 ∧ ¬ 65535 < f j) (hg : ∀ j, j < k → ¬ g j < 0 ∧ ¬ 65535 < g j) : EqC V V' ↔ SameT n f k g := by
  have yvv : ∀ {W : Cell} {i : Nat} {x : Int32}, W.slots[i]? = some (.int x) → yv W i = x := fun q => by unfold yv; rw [q]
  rcases h with ⟨rfl, k1, k2⟩ | ⟨rfl, k1, k2, -⟩
  · rcases h' with ⟨-, m1, m2⟩ | ⟨e, -⟩
    · constructor
      · rintro ⟨e1, e2⟩
        refine ⟨by omega, fun j hj => ?_⟩
        have q := e2 j (by omega)
        rw [yvv (k2 j hj).1, yvv (m2 j (by omega)).1] at q
        exact lo8_inj (hf j hj).1 (k2 j hj).2 (hg j (by omega)).1 (m2 j (by omega)).2 q
      · rintro ⟨rfl, e2⟩
        refine ⟨by omega, fun j hj => ?_⟩
        rw [yvv (k2 j (by omega)).1, yvv (m2 j (by omega)).1, e2 j (by omega)]
    · exact absurd e (by decide)
  · rcases h' with ⟨e, -⟩ | ⟨-, m1, m2, -⟩
    · exact absurd e (by decide)
    · constructor
      · rintro ⟨e1, e2⟩
        refine ⟨by omega, fun j hj => ?_⟩
        have q1 := e2 (2 * j) (by omega)
        have q2 := e2 (2 * j + 1) (by omega)
        rw [yvv (k2 j hj).1, yvv (m2 j (by omega)).1] at q1
        rw [yvv (k2 j hj).2, yvv (m2 j (by omega)).2] at q2
        rw [← pair_says (hf j hj).1 (hf j hj).2, ← pair_says (hg j (by omega)).1 (hg j (by omega)).2, q1, q2]
      · rintro ⟨rfl, e2⟩
        refine ⟨by omega, fun i hi => ?_⟩
        rcases Nat.mod_two_eq_zero_or_one i with e | e
        · obtain ⟨j, rfl⟩ : ∃ j, i = 2 * j := ⟨i / 2, by omega⟩
          rw [yvv (k2 j (by omega)).1, yvv (m2 j (by omega)).1, e2 j (by omega)]
        · obtain ⟨j, rfl⟩ : ∃ j, i = 2 * j + 1 := ⟨i / 2, by omega⟩
          rw [yvv (k2 j (by omega)).2, yvv (m2 j (by omega)).2, e2 j (by omega)]
/-- two codings differ: so do the texts -/
theorem Cod.dif {cd cd' : Int32} {n k : Nat} {f g : Nat → Int32} {V V' : Cell} (h : Cod cd n f V) (h' : Cod cd' k g V') (hne : ¬ cd = cd') : ¬ SameT n f k g := by
  rintro ⟨rfl, e⟩
  rcases h with ⟨rfl, -, k2⟩ | ⟨rfl, -, -, j, hj, hw⟩
  · rcases h' with ⟨rfl, -⟩ | ⟨-, -, -, j, hj, hw⟩
    · exact hne rfl
    · exact (k2 j hj).2 (by rw [e j hj]; exact hw)
  · rcases h' with ⟨-, -, m2⟩ | ⟨rfl, -⟩
    · exact (m2 j hj).2 (by rw [← e j hj]; exact hw)
    · exact hne rfl
/-- an object of exactly C is an instance of C -/
theorem cinst {p : Program} {l : Launch} {e : Env} {R : Room} {s : State} {m : MethodId} {args : Array Value} {below : List Frame} {meth : Method} {c : Code} {T : State} {locs : List Loc} {cells slots : Nat} (X : Stand p l e R s m args below meth c T locs cells slots) (hexec : p.tables.exec = Jvm.exec) {own C : String} {index : Nat} (hown : s.vm.findClass own = some m.cls) (hlink : (Cond.classLink own index C).before args s = true) {a : Addr} (hE : Exact C a T)
    {g : JFrame} (hg : g.method = m) {rest : List Value} (hstack : g.stack = .ref a :: rest) (hdg : decode c.code g.pc = .ok (.instanceof index, 3)) :
    ∃ T', Stand p l e R s m args below meth c T' locs cells slots ∧ T'.heap = T.heap ∧ ∀ target, Steps p.tables e below (T'.setTop { g with pc := g.pc + 3, stack := .int 1 :: rest }) target → Steps p.tables e below (T.setTop g) target := by
  obtain ⟨cB, h1, D, h2, h3, h4⟩ := hE
  have h1' : s.vm.findClass C = some cB := by rw [← X.warmed.alike.findClass]; exact h1
  obtain ⟨vm', X', st⟩ := X.instanceofYes hexec hown hlink h2 h4 h1' (by rw [h3]; exact Jvm.Free.SB.assignable_self _ _) hg hstack hdg
  exact ⟨_, X', rfl, st⟩
theorem cself {p : Program} {l : Launch} {e : Env} {R : Room} {s : State} {m : MethodId} {args : Array Value} {below : List Frame} {meth : Method} {c : Code} {T : State} {locs : List Loc} {cells slots : Nat} (X : Stand p l e R s m args below meth c T locs cells slots) (hexec : p.tables.exec = Jvm.exec) {own C : String} {index : Nat} (hown : s.vm.findClass own = some m.cls) (hlink : (Cond.classLink own index C).before args s = true) {a : Addr} (hE : Exact C a T)
    {g : JFrame} (hg : g.method = m) {rest : List Value} (hstack : g.stack = .ref a :: rest) (hdg : decode c.code g.pc = .ok (.checkcast index, 3)) :
    ∃ T', Stand p l e R s m args below meth c T' locs cells slots ∧ T'.heap = T.heap ∧ ∀ target, Steps p.tables e below (T'.setTop { g with pc := g.pc + 3, stack := .ref a :: rest }) target → Steps p.tables e below (T.setTop g) target := by
  obtain ⟨cB, h1, D, h2, h3, h4⟩ := hE
  have h1' : s.vm.findClass C = some cB := by rw [← X.warmed.alike.findClass]; exact h1
  obtain ⟨vm', X', st⟩ := X.checkcastYes hexec hown hlink h2 h4 h1' (by rw [h3]; exact Jvm.Free.SB.assignable_self _ _) hg hstack hdg
  exact ⟨_, X', rfl, fun t h => st t (by rw [← hstack] at h; exact h)⟩
namespace SEq
def yN : MethodName := ⟨"java/lang/String", "equals", "(Ljava/lang/Object;)Z"⟩
abbrev yB : ByteArray := jdk_42_method_66_code
theorem d0 : decode yB 0 = .ok (.aload_n 0, 1) := by decide +kernel
theorem d1 : decode yB 1 = .ok (.aload_n 1, 1) := by decide +kernel
theorem d2 : decode yB 2 = .ok (.if_acmp (.ne) 5, 3) := by decide +kernel
theorem d5 : decode yB 5 = .ok (.iconst 1, 1) := by decide +kernel
theorem d6 : decode yB 6 = .ok (.ireturn, 1) := by decide +kernel
theorem d7 : decode yB 7 = .ok (.aload_n 1, 1) := by decide +kernel
theorem d8 : decode yB 8 = .ok (.instanceof 10, 3) := by decide +kernel
theorem d11 : decode yB 11 = .ok (.ifCond (.eq) 43, 3) := by decide +kernel
theorem d14 : decode yB 14 = .ok (.aload_n 1, 1) := by decide +kernel
theorem d15 : decode yB 15 = .ok (.checkcast 10, 3) := by decide +kernel
theorem d18 : decode yB 18 = .ok (.astore_n 2, 1) := by decide +kernel
theorem d19 : decode yB 19 = .ok (.getstatic 38, 3) := by decide +kernel
theorem d22 : decode yB 22 = .ok (.ifCond (.eq) 14, 3) := by decide +kernel
theorem d25 : decode yB 25 = .ok (.aload_n 0, 1) := by decide +kernel
theorem d26 : decode yB 26 = .ok (.getfield 15, 3) := by decide +kernel
theorem d29 : decode yB 29 = .ok (.aload_n 2, 1) := by decide +kernel
theorem d30 : decode yB 30 = .ok (.getfield 15, 3) := by decide +kernel
theorem d33 : decode yB 33 = .ok (.if_icmp (.ne) 21, 3) := by decide +kernel
theorem d36 : decode yB 36 = .ok (.aload_n 0, 1) := by decide +kernel
theorem d37 : decode yB 37 = .ok (.getfield 9, 3) := by decide +kernel
theorem d40 : decode yB 40 = .ok (.aload_n 2, 1) := by decide +kernel
theorem d41 : decode yB 41 = .ok (.getfield 9, 3) := by decide +kernel
theorem d44 : decode yB 44 = .ok (.invokestatic 541, 3) := by decide +kernel
theorem d47 : decode yB 47 = .ok (.ifCond (.eq) 7, 3) := by decide +kernel
theorem d50 : decode yB 50 = .ok (.iconst 1, 1) := by decide +kernel
theorem d51 : decode yB 51 = .ok (.goto 4, 3) := by decide +kernel
theorem d54 : decode yB 54 = .ok (.iconst 0, 1) := by decide +kernel
theorem d55 : decode yB 55 = .ok (.ireturn, 1) := by decide +kernel
def site : List Cond := [.classLink "java/lang/String" 10 "java/lang/String", .fieldLink "java/lang/String" 38 "java/lang/String" "COMPACT_STRINGS" "Z", .fieldLink "java/lang/String" 15 "java/lang/String" "coder" "B", .fieldLink "java/lang/String" 9 "java/lang/String" "value" "[B", LEq.tab] ++ staticW "java/lang/String" 541 LEq.yN
def tab : Cond := tabOf yN yB 3 (some .boolean) site
def P (x t : Addr) (V : Cell) (cd : Int32) (n : Nat) (f : Nat → Int32) (y t' : Addr) (V' : Cell) (cd' : Int32) (k : Nat) (g : Nat → Int32) (z : Int32) (args : Array Value) (s : State) : Prop := args = #[.ref x, .ref y] ∧ Txt x t V cd n f s ∧ Txt y t' V' cd' k g s ∧ StaticIs s "java/lang/String" "COMPACT_STRINGS" "Z" (.int z) ∧ ¬ z = 0
/-- equals(Object) of two Strings: whether the texts are the same -/
theorem law (l : Launch) (x t : Addr) (V : Cell) (cd : Int32) (n : Nat) (f : Nat → Int32) (y t' : Addr) (V' : Cell) (cd' : Int32) (k : Nat) (g : Nat → Int32) (z : Int32) : Law l yN 2 1 1 14 yB 3 (some .boolean) site (P x t V cd n f y t' V' cd' k g z) (Says01 (SameT n f k g)) [] 0 0 := by
  refine Law.of_walk (plainFor_of_name (by decide +kernel)) (by decide +kernel) (by decide +kernel) (by decide) (fun _ _ h => by rw [h.1]; rfl) (fun _ U U' hal hh h => ⟨h.1, h.2.1.mv hal hh, h.2.2.1.mv hal hh, h.2.2.2.1.there hal hh, h.2.2.2.2⟩) (fun r U U' V V' h1 hal h2 h => Says01.mv r U U' V V' h1 hal h2 h) ?_
  intro p e s m args below meth c s₁ X0 hexec hbytes hml hret hlk hnm hown hh0 W hP
  obtain ⟨rfl, hx, hy, s1, hz⟩ := hP
  have c1 : Steps p.tables e below (s₁.setTop (entryFrame m #[.ref x, .ref y] 3)) (s₁.setTop (mkF m 2 #[.val (.ref x), .val (.ref y), .unset] [.ref y, .ref x])) := Steps.trans (entry rfl) (by
    show Steps p.tables e below (s₁.setTop (mkF m 0 #[.val (.ref x), .val (.ref y), .unset] [])) _
    refine XS.aloadN X0.here hexec rfl (hb hbytes d0) rfl rfl ?_
    refine XS.aloadN X0.here hexec rfl (hb hbytes d1) rfl rfl ?_
    exact Steps.refl _)
  by_cases hxy : x = y
  · have c2 : Steps p.tables e below (s₁.setTop (entryFrame m #[.ref x, .ref y] 3)) (s₁.setTop (mkF m 6 #[.val (.ref x), .val (.ref y), .unset] [.int 1])) := c1.trans (by
      refine acmpNo X0.here hexec rfl (hb hbytes d2) rfl rfl rfl (by simp [acmp, hxy]) ?_
      refine iconstV X0.here hexec rfl 1 (hb hbytes d5) (by decide) ?_
      exact Steps.refl _)
    subst hxy
    have ec : cd = cd' := by
      obtain ⟨D, fd, a1, a2, a3⟩ := hx.2.2.1
      obtain ⟨D', fd', b1, b2, b3⟩ := hy.2.2.1
      cases a1.symm.trans b1
      obtain ⟨q1, q2, q3, q4⟩ := a2.1
      obtain ⟨r1, r2, r3, r4⟩ := b2.1
      cases q4.symm.trans r4
      cases a3.symm.trans b3; rfl
    have et : t = t' := by
      obtain ⟨D, fd, a1, a2, a3⟩ := hx.2.1
      obtain ⟨D', fd', b1, b2, b3⟩ := hy.2.1
      cases a1.symm.trans b1
      obtain ⟨q1, q2, q3, q4⟩ := a2.1
      obtain ⟨r1, r2, r3, r4⟩ := b2.1
      cases q4.symm.trans r4
      cases a3.symm.trans b3; rfl
    subst ec et
    have ev : V = V' := by cases hx.2.2.2.1.1.symm.trans hy.2.2.2.1.1; rfl
    subst ev
    have hs : SameT n f k g := (Cod.eqv hx.2.2.2.2.1 hy.2.2.2.2.1 hx.2.2.2.2.2 hy.2.2.2.2.2).mp ⟨rfl, fun _ _ => rfl⟩
    exact ⟨s₁, some (.int 1), _, _, _, X0, rfl, rfl, rfl, (fun h => by cases h), ⟨1, rfl, hh0, Or.inl ⟨rfl, hs⟩⟩, fun fs hl => c2.trans (X0.ireturnOut hexec hret rfl (Or.inr (Or.inl rfl)) (hb hbytes d6) hl)⟩
  · have c2 : Steps p.tables e below (s₁.setTop (entryFrame m #[.ref x, .ref y] 3)) (s₁.setTop (mkF m 8 #[.val (.ref x), .val (.ref y), .unset] [.ref y])) := c1.trans (by
      refine acmpYes X0.here hexec rfl (pc0 := 2) rfl (hb hbytes d2) rfl rfl rfl (by simp [acmp, hxy]) (by decide) rfl ?_
      refine XS.aloadN X0.here hexec rfl (hb hbytes d7) rfl rfl ?_
      exact Steps.refl _)
    obtain ⟨T3, X3, q3, st3⟩ := cinst X0 hexec hown (wk W (.classLink "java/lang/String" 10 "java/lang/String")) (hy.mv X0.warmed.alike hh0).1 (g := (mkF m 8 #[.val (.ref x), .val (.ref y), .unset] [.ref y])) rfl (rest := []) rfl (hb hbytes d8)
    have hh3 := q3.trans hh0
    have c4 : Steps p.tables e below (s₁.setTop (entryFrame m #[.ref x, .ref y] 3)) (T3.setTop (mkF m 15 #[.val (.ref x), .val (.ref y), .unset] [.ref y])) := (c2.trans (st3 _ (Steps.refl _))).trans (by
      refine XS.ifNo X3.here hexec rfl (hb hbytes d11) rfl (i0_eq_f (by decide)) ?_
      refine XS.aloadN X3.here hexec rfl (hb hbytes d14) rfl rfl ?_
      exact Steps.refl _)
    obtain ⟨T5, X5, q5, st5⟩ := cself X3 hexec hown (wk W (.classLink "java/lang/String" 10 "java/lang/String")) (hy.mv X3.warmed.alike hh3).1 (g := (mkF m 15 #[.val (.ref x), .val (.ref y), .unset] [.ref y])) rfl (rest := []) rfl (hb hbytes d15)
    have hh5 := q5.trans hh3
    have c6 : Steps p.tables e below (s₁.setTop (entryFrame m #[.ref x, .ref y] 3)) (T5.setTop (mkF m 19 #[.val (.ref x), .val (.ref y), .val (.ref y)] [])) := (c4.trans (st5 _ (Steps.refl _))).trans (by
      refine XS.astoreN X5.here hexec rfl (hb hbytes d18) rfl rfl rfl ?_
      exact Steps.refl _)
    obtain ⟨T7, X7, q7, st7⟩ := X5.sget hexec hown (wk W (.fieldLink "java/lang/String" 38 "java/lang/String" "COMPACT_STRINGS" "Z")) s1 (fun _ _ h => by rw [hh5]; exact h) (g := (mkF m 19 #[.val (.ref x), .val (.ref y), .val (.ref y)] [])) rfl (hb hbytes d19)
    have hh7 := q7.trans hh5
    have c8 : Steps p.tables e below (s₁.setTop (entryFrame m #[.ref x, .ref y] 3)) (T7.setTop (mkF m 26 #[.val (.ref x), .val (.ref y), .val (.ref y)] [.ref x])) := (c6.trans (st7 _ (Steps.refl _))).trans (by
      refine XS.ifNo X7.here hexec rfl (hb hbytes d22) rfl (i0_eq_f hz) ?_
      refine XS.aloadN X7.here hexec rfl (hb hbytes d25) rfl rfl ?_
      exact Steps.refl _)
    obtain ⟨T9, X9, q9, st9⟩ := X7.hget hexec hown (wk W (.fieldLink "java/lang/String" 15 "java/lang/String" "coder" "B")) (hx.mv X7.warmed.alike hh7).2.2.1 (g := (mkF m 26 #[.val (.ref x), .val (.ref y), .val (.ref y)] [.ref x])) rfl (rest := []) rfl (hb hbytes d26)
    have hh9 := q9.trans hh7
    have c10 : Steps p.tables e below (s₁.setTop (entryFrame m #[.ref x, .ref y] 3)) (T9.setTop (mkF m 30 #[.val (.ref x), .val (.ref y), .val (.ref y)] [.ref y, .int cd])) := (c8.trans (st9 _ (Steps.refl _))).trans (by
      refine XS.aloadN X9.here hexec rfl (hb hbytes d29) rfl rfl ?_
      exact Steps.refl _)
    obtain ⟨T11, X11, q11, st11⟩ := X9.hget hexec hown (wk W (.fieldLink "java/lang/String" 15 "java/lang/String" "coder" "B")) (hy.mv X9.warmed.alike hh9).2.2.1 (g := (mkF m 30 #[.val (.ref x), .val (.ref y), .val (.ref y)] [.ref y, .int cd])) rfl (rest := [.int cd]) rfl (hb hbytes d30)
    have hh11 := q11.trans hh9
    have c12 : Steps p.tables e below (s₁.setTop (entryFrame m #[.ref x, .ref y] 3)) (T11.setTop (mkF m 33 #[.val (.ref x), .val (.ref y), .val (.ref y)] [.int cd', .int cd])) := c10.trans (st11 _ (Steps.refl _))
    by_cases hcd : cd = cd'
    · subst hcd
      have c13 : Steps p.tables e below (s₁.setTop (entryFrame m #[.ref x, .ref y] 3)) (T11.setTop (mkF m 37 #[.val (.ref x), .val (.ref y), .val (.ref y)] [.ref x])) := c12.trans (by
        refine XS.icmpNo X11.here hexec rfl (hb hbytes d33) rfl (ii_ne_f rfl) ?_
        refine XS.aloadN X11.here hexec rfl (hb hbytes d36) rfl rfl ?_
        exact Steps.refl _)
      obtain ⟨T14, X14, q14, st14⟩ := X11.hget hexec hown (wk W (.fieldLink "java/lang/String" 9 "java/lang/String" "value" "[B")) (hx.mv X11.warmed.alike hh11).2.1 (g := (mkF m 37 #[.val (.ref x), .val (.ref y), .val (.ref y)] [.ref x])) rfl (rest := []) rfl (hb hbytes d37)
      have hh14 := q14.trans hh11
      have c15 : Steps p.tables e below (s₁.setTop (entryFrame m #[.ref x, .ref y] 3)) (T14.setTop (mkF m 41 #[.val (.ref x), .val (.ref y), .val (.ref y)] [.ref y, .ref t])) := (c13.trans (st14 _ (Steps.refl _))).trans (by
        refine XS.aloadN X14.here hexec rfl (hb hbytes d40) rfl rfl ?_
        exact Steps.refl _)
      obtain ⟨T16, X16, q16, st16⟩ := X14.hget hexec hown (wk W (.fieldLink "java/lang/String" 9 "java/lang/String" "value" "[B")) (hy.mv X14.warmed.alike hh14).2.1 (g := (mkF m 41 #[.val (.ref x), .val (.ref y), .val (.ref y)] [.ref y, .ref t])) rfl (rest := [.ref t]) rfl (hb hbytes d41)
      have hh16 := q16.trans hh14
      have c17 : Steps p.tables e below (s₁.setTop (entryFrame m #[.ref x, .ref y] 3)) (T16.setTop (mkF m 44 #[.val (.ref x), .val (.ref y), .val (.ref y)] [.ref t', .ref t])) := c15.trans (st16 _ (Steps.refl _))
      obtain ⟨v18, T18, X18, E18, g18⟩ := X16.callS hexec (LEq.law l t V t' V') hown (wks W (staticW "java/lang/String" 541 LEq.yN)) (wk W LEq.tab) (W := 0) (Nat.le_of_ble_eq_true rfl) (Nat.le_of_ble_eq_true rfl) (Nat.le_refl _) (Nat.le_refl _) (g := (mkF m 44 #[.val (.ref x), .val (.ref y), .val (.ref y)] [.ref t', .ref t])) rfl (by rw [hml]; rfl) c17 (argsL := [.ref t, .ref t']) (rest := []) rfl rfl (by show 2 * 0 + 0 ≤ _; decide) (hb hbytes d44) (⟨rfl, hx.2.2.2.1.mv X16.warmed.alike hh16, hx.2.2.2.2.1.ty, hy.2.2.2.1.mv X16.warmed.alike hh16, hy.2.2.2.2.1.ty⟩)
      obtain ⟨v, rfl, q18, hv⟩ := E18
      have iff := Cod.eqv hx.2.2.2.2.1 hy.2.2.2.2.1 hx.2.2.2.2.2 hy.2.2.2.2.2
      rcases hv with ⟨rfl, he⟩ | ⟨rfl, he⟩
      · have c19 : Steps p.tables e below (s₁.setTop (entryFrame m #[.ref x, .ref y] 3)) (T18.setTop (mkF m 55 #[.val (.ref x), .val (.ref y), .val (.ref y)] [.int 1])) := Steps.trans g18 (by
          refine XS.ifNo X18.here hexec rfl (hb hbytes d47) rfl (i0_eq_f (by decide)) ?_
          refine iconstV X18.here hexec rfl 1 (hb hbytes d50) (by decide) ?_
          refine XS.goto X18.here hexec rfl (pc0 := 51) rfl (hb hbytes d51) (by decide) rfl ?_
          exact Steps.refl _)
        exact ⟨T18, some (.int 1), _, _, _, X18, rfl, rfl, rfl, (fun h => by cases h), ⟨1, rfl, q18.trans hh16, Or.inl ⟨rfl, iff.mp he⟩⟩, fun fs hl => c19.trans (X18.ireturnOut hexec hret rfl (Or.inr (Or.inl rfl)) (hb hbytes d55) hl)⟩
      · have c19 : Steps p.tables e below (s₁.setTop (entryFrame m #[.ref x, .ref y] 3)) (T18.setTop (mkF m 55 #[.val (.ref x), .val (.ref y), .val (.ref y)] [.int 0])) := Steps.trans g18 (by
          refine XS.ifYes X18.here hexec rfl (pc0 := 47) rfl (hb hbytes d47) rfl (i0_eq_t rfl) (by decide) rfl ?_
          refine iconstV X18.here hexec rfl 0 (hb hbytes d54) (by decide) ?_
          exact Steps.refl _)
        exact ⟨T18, some (.int 0), _, _, _, X18, rfl, rfl, rfl, (fun h => by cases h), ⟨0, rfl, q18.trans hh16, Or.inr ⟨rfl, fun q => he (iff.mpr q)⟩⟩, fun fs hl => c19.trans (X18.ireturnOut hexec hret rfl (Or.inr (Or.inl rfl)) (hb hbytes d55) hl)⟩
    · have c13 : Steps p.tables e below (s₁.setTop (entryFrame m #[.ref x, .ref y] 3)) (T11.setTop (mkF m 55 #[.val (.ref x), .val (.ref y), .val (.ref y)] [.int 0])) := c12.trans (by
        refine XS.icmpYes X11.here hexec rfl (pc0 := 33) rfl (hb hbytes d33) rfl (ii_ne_t hcd) (by decide) rfl ?_
        refine iconstV X11.here hexec rfl 0 (hb hbytes d54) (by decide) ?_
        exact Steps.refl _)
      exact ⟨T11, some (.int 0), _, _, _, X11, rfl, rfl, rfl, (fun h => by cases h), ⟨0, rfl, hh11, Or.inr ⟨rfl, Cod.dif hx.2.2.2.2.1 hy.2.2.2.2.1 hcd⟩⟩, fun fs hl => c13.trans (X11.ireturnOut hexec hret rfl (Or.inr (Or.inl rfl)) (hb hbytes d55) hl)⟩
theorem pays {l : Launch} {R : Room} {p : Program} {e : Env} {below : List Frame} {s : State} {sargs : Array Value} {len W : Nat} (x t : Addr) (V : Cell) (cd : Int32) (n : Nat) (f : Nat → Int32) (y t' : Addr) (V' : Cell) (cd' : Int32) (k : Nat) (g : Nat → Int32) (z : Int32) (htab : tab.before sargs s = true) (hfr : 2 ≤ R.frames) (hlo : W + 28 ≤ R.locals) :
    Back l R p e below s sargs yN len W (fun A₁ a₁ => A₁.cells + 0 ≤ R.cells ∧ A₁.slots + 0 ≤ R.slots ∧ P x t V cd n f y t' V' cd' k g z a₁ A₁.U) (fun A₁ _ v₁ B₁ => Says01 (SameT n f k g) v₁ A₁.U B₁.U ∧ B₁.locs = A₁.locs ++ [] ∧ B₁.cells = A₁.cells + 0 ∧ B₁.slots = A₁.slots + 0) :=
  (law l x t V cd n f y t' V' cd' k g z).pays htab hfr (by omega)
end SEq
end StrChars
namespace StrChars.Road
open Jvm Sem ClassFile Op Lib Jvm.Stand Jvm.Free Jvm.Free.XT
open Jvm.Lib.Cold (StaticIs)
/-- the words of String.equals(Object) -/
abbrev wordsEq : List Jvm.Cond := [.code SEq.yN SEq.yB 3 (some .boolean), .initialized ST, .classLink ST 10 ST, .fieldLink ST 38 ST "COMPACT_STRINGS" "Z", .fieldLink ST 15 ST "coder" "B", .fieldLink ST 9 ST "value" "[B", .methodLink ST 541 LEq.yN, .static LEq.yN, .code LEq.yN LEq.yB 3 (some .boolean), .initialized "java/lang/StringLatin1"]
theorem tabEq_of {a : Array Value} {s : State} (h : ∀ w ∈ wordsEq, w.before a s = true) : SEq.tab.before a s = true := by
  have hl : LEq.tab.before a s = true := unparts (wk h (.code LEq.yN LEq.yB 3 (some .boolean))) (wks h (.initialized LEq.yN.cls :: LEq.site))
  have q := consq hl h
  exact unparts (wk q (.code SEq.yN SEq.yB 3 (some .boolean))) (wks q (.initialized SEq.yN.cls :: SEq.site))
theorem movedEq {Z s : State} {a0 args : Array Value} (hZ : Z.Warmed39 s.vm) (hw : ∀ d ∈ wordsEq, d.before a0 Z = true) : ∀ d ∈ wordsEq, d.before args s = true := fun d hd => by
  have t : ∀ d ∈ wordsEq, (d.onTables && d.keepsFace) = true := by decide +kernel
  exact RoadKit.mv hZ (hw d hd) (t d hd)
/-- the road's facts of a String, as the laws ask it -/
theorem txt_of {Z U : State} {a0 : Array Value} {kI : Nat} (wi : (Jvm.Cond.instantiable ST kI).before a0 Z = true) (al : Z.vm.Alike U.vm) {x t : Addr} {kb : ClassId} {cs : List Int32} {cd N2 : Int32} {vs : List Value} (E : RoadKit.Exa Z U.heap x ST) (V : RoadKit.Fld Z U.heap x ST "value" "[B" (.ref t)) (C : RoadKit.Fld Z U.heap x ST "coder" "B" (.int cd)) (K : RoadKit.Arv Z U.heap t kb .byte N2 vs (.int 0)) (hc : CodA cs cd N2 vs) (hb : ∀ c ∈ cs, ¬ c < 0 ∧ ¬ (65535 : Int32) < c) (l2 : cs.length ≤ 4000) :
    ∃ A, Txt x t A cd cs.length (fun j => cs.getD j 0) U := by
  obtain ⟨A, K1, K2, K3, K4, K5, K6⟩ := K
  have hcod := hc.cod (by omega) K3 K5
  obtain ⟨D, fV, fC, hB, F1, F2, g1, g2, -, -⟩ := strObj wi al E V C
  exact ⟨A, ⟨_, hB.2.2.1, D, hB.1, rfl, by cases q : D.vm <;> first | rfl | exact absurd q (hB.2.1.2 _)⟩, Has.of hB F1 g1, Has.of hB F2 g2, ⟨K1.1, State.isArrayOf_alike al K1.2.1, K1.2.2, by rcases hcod with ⟨-, q, -⟩ | ⟨-, q, -⟩ <;> omega⟩, hcod, fun j hj => by
    have e : cs.getD j 0 = cs[j] := by simp [List.getD_eq_getElem?_getD, hj]
    show ¬ cs.getD j 0 < 0 ∧ ¬ 65535 < cs.getD j 0
    rw [e]; exact hb _ (List.getElem_mem _)⟩
theorem same_list (cs ds : List Int32) : SameT cs.length (fun j => cs.getD j 0) ds.length (fun j => ds.getD j 0) ↔ cs = ds := by
  constructor
  · rintro ⟨e, q⟩
    refine List.ext_getElem e fun j h1 h2 => ?_
    have := q j h1
    simpa [List.getD_eq_getElem?_getD, h1, h2] using this
  · rintro rfl
    exact ⟨rfl, fun _ _ => rfl⟩
/-- **equals(Object) OF TWO SUCH STRINGS**: 1 just where the chars are the same -/
theorem eqW {p : Program} {l : Launch} {e : Env} {R : Room} {s : State} {args : Array Value} {below : List Frame} {len W : Nat} {Z : State} {a0 : Array Value} {h : Heap} (hZ : Z.Warmed39 s.vm) (hw : ∀ d ∈ wordsEq, d.before a0 Z = true) {kI : Nat} (wi : (Jvm.Cond.instantiable ST kI).before a0 Z = true)
    {x t : Addr} {kb : ClassId} {cs : List Int32} {cd N2 : Int32} {vs : List Value} (E : RoadKit.Exa Z h x ST) (V : RoadKit.Fld Z h x ST "value" "[B" (.ref t)) (C : RoadKit.Fld Z h x ST "coder" "B" (.int cd)) (K : RoadKit.Arv Z h t kb .byte N2 vs (.int 0)) (hc : CodA cs cd N2 vs) (hb : ∀ c ∈ cs, ¬ c < 0 ∧ ¬ (65535 : Int32) < c) (l2 : cs.length ≤ 4000)
    {y t' : Addr} {kb' : ClassId} {ds : List Int32} {cd' N2' : Int32} {vs' : List Value} (E' : RoadKit.Exa Z h y ST) (V' : RoadKit.Fld Z h y ST "value" "[B" (.ref t')) (C' : RoadKit.Fld Z h y ST "coder" "B" (.int cd')) (K' : RoadKit.Arv Z h t' kb' .byte N2' vs' (.int 0)) (hc' : CodA ds cd' N2' vs') (hb' : ∀ c ∈ ds, ¬ c < 0 ∧ ¬ (65535 : Int32) < c) (l2' : ds.length ≤ 4000)
    {z : Int32} (S : RoadKit.Sta Z h ST "COMPACT_STRINGS" "Z" (.int z)) (hz : ¬ z = 0) (hfr : 2 ≤ R.frames) (hlo : W + 28 ≤ R.locals) :
    Back l R p e below s args (⟨"java/lang/String", "equals", "(Ljava/lang/Object;)Z"⟩ : MethodName) len W (fun P a => a = #[.ref x, .ref y] ∧ P.U.heap = h ∧ P.cells + 0 ≤ R.cells ∧ P.slots + 0 ≤ R.slots)
      (fun P _ v B => ∃ L, (((v = some (.int 1) ∧ cs = ds) ∨ (v = some (.int 0) ∧ ¬ cs = ds)) ∧ L = [] ∧ B.U.heap = h) ∧ B.locs = P.locs ++ L ∧ B.cells = P.cells + 0 ∧ B.slots = P.slots + 0) := by
  intro m meth c P g ig mk a X hg hsize hdg hW hn hp'
  obtain ⟨rfl, rfl, r1, r2⟩ := hp'
  have al : Z.vm.Alike P.U.vm := hZ.alike.trans X.warmed.alike
  obtain ⟨A, hx⟩ := txt_of wi al E V C K hc hb l2
  obtain ⟨A', hy⟩ := txt_of wi al E' V' C' K' hc' hb' l2'
  obtain ⟨v, B, X', ⟨⟨w, hv, hh, hq⟩, hl, hk, hs⟩, st⟩ := SEq.pays x t A cd cs.length (fun j => cs.getD j 0) y t' A' cd' ds.length (fun j => ds.getD j 0) z (tabEq_of (movedEq hZ hw)) hfr hlo m meth c P g ig mk _ X hg hsize hdg hW hn ⟨r1, r2, rfl, hx, hy, sta_is al S, hz⟩
  refine ⟨v, B, X', ⟨[], ⟨?_, rfl, hh⟩, hl, hk, hs⟩, st⟩
  rcases hq with ⟨rfl, q⟩ | ⟨rfl, q⟩
  · exact Or.inl ⟨hv, (same_list cs ds).mp q⟩
  · exact Or.inr ⟨hv, fun e => q ((same_list cs ds).mpr e)⟩
end StrChars.Road
namespace StrChars.Road
open Jvm Sem ClassFile Op Lib Jvm.Stand Jvm.Free Jvm.Free.XT
open Jvm.Lib.Cold (StaticIs)
/-- what backV says of its String, as the contracts of this text ask it: cs's low bytes, coder 0 -/
theorem codOf {cs : List Int32} {n : Nat} (hn : cs.length = n) (hb : ∀ c ∈ cs, ¬ 255 < c) : CodA cs 0 (Int32.ofNat n) ((cs.map lo8).map Value.int) := Or.inl ⟨rfl, by rw [hn], by simp [List.map_map, Function.comp_def], hb⟩
end StrChars.Road
end Jvm.Pilot.@@N@@

namespace Jvm.Pilot.@@N@@
open Jvm Jvm.ClassFile Sem Op Lib Jvm.Free Jvm.Stand Jvm.LawKit Jvm.RoadKit Bundle Jvm.Pilot.@@N@@.Jvm.D
theorem mI {α : Type} {l : List α} {a : α} (i : Nat) (h : l[i]? = some a) : a ∈ l := List.mem_of_getElem? h
set_option maxRecDepth 65536
set_option maxHeartbeats 40000000
abbrev HW (a0 : Array Value) (Z : State) : Prop := ∀ d ∈ tables_1, d.before a0 Z = true
theorem lE {a b : Nat} (h : Nat.ble a b = true) : a ≤ b := Nat.le_of_ble_eq_true h
theorem own_hw {a b : Nat} (h : 2 * 0 + a = b) : 2 * 0 + a ≤ b := Nat.le_of_eq h
abbrev Sx (p : Program) (e : Env) (b : List Frame) (T : State) (m : MethodId) (pc : Nat) (L : Array Slot) (S : List Value) (t : State) : Prop := Steps p.tables e b (T.setTop (mkF m pc L S)) t
abbrev Pr (p : Program) (e : Env) (b : List Frame) (T : State) (m : MethodId) (pc : Nat) (L : Array Slot) (S : List Value) (s₁ : State) (f : JFrame) : Prop := ∀ t, Steps p.tables e b (T.setTop (mkF m pc L S)) t → Steps p.tables e b (s₁.setTop f) t
section
variable {a0 : Array Value} {Z : State} (hw : ∀ d ∈ tables_1, d.before a0 Z = true)
def w0_ := hw _ (List.mem_of_getElem? (i := 0) rfl)
def w1_ := hw _ (List.mem_of_getElem? (i := 1) rfl)
def w2_ := hw _ (List.mem_of_getElem? (i := 2) rfl)
def w3_ := hw _ (List.mem_of_getElem? (i := 3) rfl)
def w4_ := hw _ (List.mem_of_getElem? (i := 4) rfl)
def w5_ := hw _ (List.mem_of_getElem? (i := 5) rfl)
def w6_ := hw _ (List.mem_of_getElem? (i := 6) rfl)
def w7_ := hw _ (List.mem_of_getElem? (i := 7) rfl)
def w8_ := hw _ (List.mem_of_getElem? (i := 8) rfl)
def w9_ := hw _ (List.mem_of_getElem? (i := 9) rfl)
def w10_ := hw _ (List.mem_of_getElem? (i := 10) rfl)
def w11_ := hw _ (List.mem_of_getElem? (i := 11) rfl)
def w12_ := hw _ (List.mem_of_getElem? (i := 12) rfl)
def w13_ := hw _ (List.mem_of_getElem? (i := 13) rfl)
def w14_ := hw _ (List.mem_of_getElem? (i := 14) rfl)
def w15_ := hw _ (List.mem_of_getElem? (i := 15) rfl)
def w16_ := hw _ (List.mem_of_getElem? (i := 16) rfl)
def w17_ := hw _ (List.mem_of_getElem? (i := 17) rfl)
def w18_ := hw _ (List.mem_of_getElem? (i := 18) rfl)
def w19_ := hw _ (List.mem_of_getElem? (i := 19) rfl)
def w20_ := hw _ (List.mem_of_getElem? (i := 20) rfl)
def w21_ := hw _ (List.mem_of_getElem? (i := 21) rfl)
def w22_ := hw _ (List.mem_of_getElem? (i := 22) rfl)
def w23_ := hw _ (List.mem_of_getElem? (i := 23) rfl)
def w24_ := hw _ (List.mem_of_getElem? (i := 24) rfl)
def w25_ := hw _ (List.mem_of_getElem? (i := 25) rfl)
def w30_ := hw _ (List.mem_of_getElem? (i := 30) rfl)
def w31_ := hw _ (List.mem_of_getElem? (i := 31) rfl)
def w32_ := hw _ (List.mem_of_getElem? (i := 32) rfl)
def w33_ := hw _ (List.mem_of_getElem? (i := 33) rfl)
def w38_ := hw _ (List.mem_of_getElem? (i := 38) rfl)
def w45_ := hw _ (List.mem_of_getElem? (i := 45) rfl)
def w46_ := hw _ (List.mem_of_getElem? (i := 46) rfl)
def w47_ := hw _ (List.mem_of_getElem? (i := 47) rfl)
def w48_ := hw _ (List.mem_of_getElem? (i := 48) rfl)
def w49_ := hw _ (List.mem_of_getElem? (i := 49) rfl)
def w50_ := hw _ (List.mem_of_getElem? (i := 50) rfl)
def w51_ := hw _ (List.mem_of_getElem? (i := 51) rfl)
def w52_ := hw _ (List.mem_of_getElem? (i := 52) rfl)
def w53_ := hw _ (List.mem_of_getElem? (i := 53) rfl)
def w54_ := hw _ (List.mem_of_getElem? (i := 54) rfl)
def w55_ := hw _ (List.mem_of_getElem? (i := 55) rfl)
def w56_ := hw _ (List.mem_of_getElem? (i := 56) rfl)
def w57_ := hw _ (List.mem_of_getElem? (i := 57) rfl)
def w58_ := hw _ (List.mem_of_getElem? (i := 58) rfl)
def w59_ := hw _ (List.mem_of_getElem? (i := 59) rfl)
def w60_ := hw _ (List.mem_of_getElem? (i := 60) rfl)
def w61_ := hw _ (List.mem_of_getElem? (i := 61) rfl)
def w62_ := hw _ (List.mem_of_getElem? (i := 62) rfl)
def w63_ := hw _ (List.mem_of_getElem? (i := 63) rfl)
def w64_ := hw _ (List.mem_of_getElem? (i := 64) rfl)
def w65_ := hw _ (List.mem_of_getElem? (i := 65) rfl)
def w66_ := hw _ (List.mem_of_getElem? (i := 66) rfl)
def w67_ := hw _ (List.mem_of_getElem? (i := 67) rfl)
def w68_ := hw _ (List.mem_of_getElem? (i := 68) rfl)
def w69_ := hw _ (List.mem_of_getElem? (i := 69) rfl)
def w70_ := hw _ (List.mem_of_getElem? (i := 70) rfl)
def w71_ := hw _ (List.mem_of_getElem? (i := 71) rfl)
def w72_ := hw _ (List.mem_of_getElem? (i := 72) rfl)
def w73_ := hw _ (List.mem_of_getElem? (i := 73) rfl)
def w74_ := hw _ (List.mem_of_getElem? (i := 74) rfl)
def w77_ := hw _ (List.mem_of_getElem? (i := 77) rfl)
def w78_ := hw _ (List.mem_of_getElem? (i := 78) rfl)
def w79_ := hw _ (List.mem_of_getElem? (i := 79) rfl)
def w80_ := hw _ (List.mem_of_getElem? (i := 80) rfl)
def w81_ := hw _ (List.mem_of_getElem? (i := 81) rfl)
def w82_ := hw _ (List.mem_of_getElem? (i := 82) rfl)
def w83_ := hw _ (List.mem_of_getElem? (i := 83) rfl)
def w84_ := hw _ (List.mem_of_getElem? (i := 84) rfl)
def w85_ := hw _ (List.mem_of_getElem? (i := 85) rfl)
def w88_ := hw _ (List.mem_of_getElem? (i := 88) rfl)
def w89_ := hw _ (List.mem_of_getElem? (i := 89) rfl)
def w90_ := hw _ (List.mem_of_getElem? (i := 90) rfl)
def w91_ := hw _ (List.mem_of_getElem? (i := 91) rfl)
def w92_ := hw _ (List.mem_of_getElem? (i := 92) rfl)
def w93_ := hw _ (List.mem_of_getElem? (i := 93) rfl)
def w94_ := hw _ (List.mem_of_getElem? (i := 94) rfl)
def w95_ := hw _ (List.mem_of_getElem? (i := 95) rfl)
def w97_ := hw _ (List.mem_of_getElem? (i := 97) rfl)
def w98_ := hw _ (List.mem_of_getElem? (i := 98) rfl)
def w99_ := hw _ (List.mem_of_getElem? (i := 99) rfl)
def w100_ := hw _ (List.mem_of_getElem? (i := 100) rfl)
def w101_ := hw _ (List.mem_of_getElem? (i := 101) rfl)
def w103_ := hw _ (List.mem_of_getElem? (i := 103) rfl)
def w104_ := hw _ (List.mem_of_getElem? (i := 104) rfl)
def w105_ := hw _ (List.mem_of_getElem? (i := 105) rfl)
def w106_ := hw _ (List.mem_of_getElem? (i := 106) rfl)
def w107_ := hw _ (List.mem_of_getElem? (i := 107) rfl)
def w108_ := hw _ (List.mem_of_getElem? (i := 108) rfl)
def w109_ := hw _ (List.mem_of_getElem? (i := 109) rfl)
def w110_ := hw _ (List.mem_of_getElem? (i := 110) rfl)
def w111_ := hw _ (List.mem_of_getElem? (i := 111) rfl)
def w112_ := hw _ (List.mem_of_getElem? (i := 112) rfl)
def w113_ := hw _ (List.mem_of_getElem? (i := 113) rfl)
def w114_ := hw _ (List.mem_of_getElem? (i := 114) rfl)
def w115_ := hw _ (List.mem_of_getElem? (i := 115) rfl)
def w116_ := hw _ (List.mem_of_getElem? (i := 116) rfl)
def w117_ := hw _ (List.mem_of_getElem? (i := 117) rfl)
def w118_ := hw _ (List.mem_of_getElem? (i := 118) rfl)
def w119_ := hw _ (List.mem_of_getElem? (i := 119) rfl)
def w120_ := hw _ (List.mem_of_getElem? (i := 120) rfl)
def w121_ := hw _ (List.mem_of_getElem? (i := 121) rfl)
def w122_ := hw _ (List.mem_of_getElem? (i := 122) rfl)
def w123_ := hw _ (List.mem_of_getElem? (i := 123) rfl)
def w124_ := hw _ (List.mem_of_getElem? (i := 124) rfl)
def w125_ := hw _ (List.mem_of_getElem? (i := 125) rfl)
def w126_ := hw _ (List.mem_of_getElem? (i := 126) rfl)
def w127_ := hw _ (List.mem_of_getElem? (i := 127) rfl)
def w128_ := hw _ (List.mem_of_getElem? (i := 128) rfl)
def w129_ := hw _ (List.mem_of_getElem? (i := 129) rfl)
def w130_ := hw _ (List.mem_of_getElem? (i := 130) rfl)
def w131_ := hw _ (List.mem_of_getElem? (i := 131) rfl)
def w132_ := hw _ (List.mem_of_getElem? (i := 132) rfl)
def w133_ := hw _ (List.mem_of_getElem? (i := 133) rfl)
def w134_ := hw _ (List.mem_of_getElem? (i := 134) rfl)
def w135_ := hw _ (List.mem_of_getElem? (i := 135) rfl)
def w136_ := hw _ (List.mem_of_getElem? (i := 136) rfl)
def w137_ := hw _ (List.mem_of_getElem? (i := 137) rfl)
def w138_ := hw _ (List.mem_of_getElem? (i := 138) rfl)
def w139_ := hw _ (List.mem_of_getElem? (i := 139) rfl)
def w140_ := hw _ (List.mem_of_getElem? (i := 140) rfl)
def w141_ := hw _ (List.mem_of_getElem? (i := 141) rfl)
def w142_ := hw _ (List.mem_of_getElem? (i := 142) rfl)
def w143_ := hw _ (List.mem_of_getElem? (i := 143) rfl)
def w144_ := hw _ (List.mem_of_getElem? (i := 144) rfl)
def w145_ := hw _ (List.mem_of_getElem? (i := 145) rfl)
def w146_ := hw _ (List.mem_of_getElem? (i := 146) rfl)
def w147_ := hw _ (List.mem_of_getElem? (i := 147) rfl)
def w148_ := hw _ (List.mem_of_getElem? (i := 148) rfl)
def w149_ := hw _ (List.mem_of_getElem? (i := 149) rfl)
def w150_ := hw _ (List.mem_of_getElem? (i := 150) rfl)
def w151_ := hw _ (List.mem_of_getElem? (i := 151) rfl)
def w152_ := hw _ (List.mem_of_getElem? (i := 152) rfl)
def w153_ := hw _ (List.mem_of_getElem? (i := 153) rfl)
def w154_ := hw _ (List.mem_of_getElem? (i := 154) rfl)
def w155_ := hw _ (List.mem_of_getElem? (i := 155) rfl)
def w156_ := hw _ (List.mem_of_getElem? (i := 156) rfl)
def w157_ := hw _ (List.mem_of_getElem? (i := 157) rfl)
def w158_ := hw _ (List.mem_of_getElem? (i := 158) rfl)
def w159_ := hw _ (List.mem_of_getElem? (i := 159) rfl)
def w160_ := hw _ (List.mem_of_getElem? (i := 160) rfl)
def w161_ := hw _ (List.mem_of_getElem? (i := 161) rfl)
def w162_ := hw _ (List.mem_of_getElem? (i := 162) rfl)
def w163_ := hw _ (List.mem_of_getElem? (i := 163) rfl)
def w164_ := hw _ (List.mem_of_getElem? (i := 164) rfl)
def w166_ := hw _ (List.mem_of_getElem? (i := 166) rfl)
def w167_ := hw _ (List.mem_of_getElem? (i := 167) rfl)
def w168_ := hw _ (List.mem_of_getElem? (i := 168) rfl)
def w169_ := hw _ (List.mem_of_getElem? (i := 169) rfl)
def w170_ := hw _ (List.mem_of_getElem? (i := 170) rfl)
def w171_ := hw _ (List.mem_of_getElem? (i := 171) rfl)
def w172_ := hw _ (List.mem_of_getElem? (i := 172) rfl)
def w173_ := hw _ (List.mem_of_getElem? (i := 173) rfl)
def w174_ := hw _ (List.mem_of_getElem? (i := 174) rfl)
def w175_ := hw _ (List.mem_of_getElem? (i := 175) rfl)
def w176_ := hw _ (List.mem_of_getElem? (i := 176) rfl)
def w177_ := hw _ (List.mem_of_getElem? (i := 177) rfl)
def w178_ := hw _ (List.mem_of_getElem? (i := 178) rfl)
def w179_ := hw _ (List.mem_of_getElem? (i := 179) rfl)
def w180_ := hw _ (List.mem_of_getElem? (i := 180) rfl)
def w181_ := hw _ (List.mem_of_getElem? (i := 181) rfl)
def w182_ := hw _ (List.mem_of_getElem? (i := 182) rfl)
def w183_ := hw _ (List.mem_of_getElem? (i := 183) rfl)
def w184_ := hw _ (List.mem_of_getElem? (i := 184) rfl)
def w185_ := hw _ (List.mem_of_getElem? (i := 185) rfl)
def w186_ := hw _ (List.mem_of_getElem? (i := 186) rfl)
def w187_ := hw _ (List.mem_of_getElem? (i := 187) rfl)
def w188_ := hw _ (List.mem_of_getElem? (i := 188) rfl)
def w189_ := hw _ (List.mem_of_getElem? (i := 189) rfl)
def w190_ := hw _ (List.mem_of_getElem? (i := 190) rfl)
def w191_ := hw _ (List.mem_of_getElem? (i := 191) rfl)
def w192_ := hw _ (List.mem_of_getElem? (i := 192) rfl)
def w193_ := hw _ (List.mem_of_getElem? (i := 193) rfl)
def w194_ := hw _ (List.mem_of_getElem? (i := 194) rfl)
def w195_ := hw _ (List.mem_of_getElem? (i := 195) rfl)
def w196_ := hw _ (List.mem_of_getElem? (i := 196) rfl)
def w197_ := hw _ (List.mem_of_getElem? (i := 197) rfl)
def w198_ := hw _ (List.mem_of_getElem? (i := 198) rfl)
def w199_ := hw _ (List.mem_of_getElem? (i := 199) rfl)
def w200_ := hw _ (List.mem_of_getElem? (i := 200) rfl)
def w201_ := hw _ (List.mem_of_getElem? (i := 201) rfl)
def w202_ := hw _ (List.mem_of_getElem? (i := 202) rfl)
def w203_ := hw _ (List.mem_of_getElem? (i := 203) rfl)
def w204_ := hw _ (List.mem_of_getElem? (i := 204) rfl)
def w205_ := hw _ (List.mem_of_getElem? (i := 205) rfl)
def w206_ := hw _ (List.mem_of_getElem? (i := 206) rfl)
def w207_ := hw _ (List.mem_of_getElem? (i := 207) rfl)
def w208_ := hw _ (List.mem_of_getElem? (i := 208) rfl)
def w209_ := hw _ (List.mem_of_getElem? (i := 209) rfl)
def w210_ := hw _ (List.mem_of_getElem? (i := 210) rfl)
def w211_ := hw _ (List.mem_of_getElem? (i := 211) rfl)
def w212_ := hw _ (List.mem_of_getElem? (i := 212) rfl)
def w213_ := hw _ (List.mem_of_getElem? (i := 213) rfl)
def w214_ := hw _ (List.mem_of_getElem? (i := 214) rfl)
def w215_ := hw _ (List.mem_of_getElem? (i := 215) rfl)
def w216_ := hw _ (List.mem_of_getElem? (i := 216) rfl)
def w217_ := hw _ (List.mem_of_getElem? (i := 217) rfl)
def w218_ := hw _ (List.mem_of_getElem? (i := 218) rfl)
def w219_ := hw _ (List.mem_of_getElem? (i := 219) rfl)
def w220_ := hw _ (List.mem_of_getElem? (i := 220) rfl)
def w221_ := hw _ (List.mem_of_getElem? (i := 221) rfl)
def w228_ := hw _ (List.mem_of_getElem? (i := 228) rfl)
def w229_ := hw _ (List.mem_of_getElem? (i := 229) rfl)
def w230_ := hw _ (List.mem_of_getElem? (i := 230) rfl)
def w232_ := hw _ (List.mem_of_getElem? (i := 232) rfl)
def w233_ := hw _ (List.mem_of_getElem? (i := 233) rfl)
def w234_ := hw _ (List.mem_of_getElem? (i := 234) rfl)
def w235_ := hw _ (List.mem_of_getElem? (i := 235) rfl)
def w236_ := hw _ (List.mem_of_getElem? (i := 236) rfl)
end
abbrev Y0_ : MethodName := ⟨"com/example/foreground_courier/foregroundcourier/CacheStatsToStringPinLaw", "digits", "(J)I"⟩
abbrev Y1_ : MethodName := ⟨"com/example/foreground_courier/foregroundcourier/CacheStatsToStringPinLaw", "width", "(I)I"⟩
abbrev Y2_ : MethodName := ⟨"com/example/foreground_courier/foregroundcourier/CacheStatsToStringPinLaw", "putNum", "([CII)I"⟩
abbrev Y3_ : MethodName := ⟨"com/example/foreground_courier/foregroundcourier/CacheStats", "<init>", "(III)V"⟩
abbrev Y4_ : MethodName := ⟨"java/lang/AbstractStringBuilder", "<init>", "(I)V"⟩
abbrev Y5_ : MethodName := ⟨"java/lang/StringBuilder", "<init>", "()V"⟩
abbrev Y6_ : MethodName := ⟨"java/lang/Math", "max", "(II)I"⟩
abbrev Y7_ : MethodName := ⟨"jdk/internal/util/ArraysSupport", "newLength", "(III)I"⟩
abbrev Y8_ : MethodName := ⟨"java/lang/AbstractStringBuilder", "newCapacity", "(I)I"⟩
abbrev Y9_ : MethodName := ⟨"java/lang/Math", "min", "(II)I"⟩
abbrev Y10_ : MethodName := ⟨"java/util/Arrays", "copyOf", "([BI)[B"⟩
abbrev Y11_ : MethodName := ⟨"java/lang/AbstractStringBuilder", "ensureCapacityInternal", "(I)V"⟩
abbrev Y12_ : MethodName := ⟨"java/lang/String", "coder", "()B"⟩
abbrev Y13_ : MethodName := ⟨"java/lang/AbstractStringBuilder", "inflateIfNeededFor", "(Ljava/lang/String;)V"⟩
abbrev Y14_ : MethodName := ⟨"java/lang/String", "getBytes", "([BIB)V"⟩
abbrev Y15_ : MethodName := ⟨"java/lang/AbstractStringBuilder", "putStringAt", "(ILjava/lang/String;)V"⟩
abbrev Y16_ : MethodName := ⟨"java/lang/AbstractStringBuilder", "append", "(Ljava/lang/String;)Ljava/lang/AbstractStringBuilder;"⟩
abbrev Y17_ : MethodName := ⟨"java/lang/String", "length", "()I"⟩
abbrev Y18_ : MethodName := ⟨"java/lang/StringBuilder", "append", "(Ljava/lang/String;)Ljava/lang/StringBuilder;"⟩
abbrev Y19_ : MethodName := ⟨"java/lang/Integer", "stringSize", "(I)I"⟩
abbrev Y20_ : MethodName := ⟨"java/lang/AbstractStringBuilder", "isLatin1", "()Z"⟩
abbrev Y21_ : MethodName := ⟨"java/lang/Integer", "getChars", "(II[B)I"⟩
abbrev Y22_ : MethodName := ⟨"java/lang/AbstractStringBuilder", "append", "(I)Ljava/lang/AbstractStringBuilder;"⟩
abbrev Y23_ : MethodName := ⟨"java/lang/StringBuilder", "append", "(I)Ljava/lang/StringBuilder;"⟩
abbrev Y24_ : MethodName := ⟨"java/lang/AbstractStringBuilder", "getValue", "()[B"⟩
abbrev Y25_ : MethodName := ⟨"java/lang/AbstractStringBuilder", "length", "()I"⟩
abbrev Y26_ : MethodName := ⟨"java/lang/StringBuilder", "length", "()I"⟩
abbrev Y27_ : MethodName := ⟨"java/util/Arrays", "checkLength", "(II)V"⟩
abbrev Y28_ : MethodName := ⟨"java/util/Arrays", "copyOfRangeByte", "([BII)[B"⟩
abbrev Y29_ : MethodName := ⟨"java/util/Arrays", "copyOfRange", "([BII)[B"⟩
abbrev Y30_ : MethodName := ⟨"java/lang/String", "<init>", "(Ljava/lang/AbstractStringBuilder;Ljava/lang/Void;)V"⟩
abbrev Y31_ : MethodName := ⟨"java/lang/String", "<init>", "(Ljava/lang/StringBuilder;)V"⟩
abbrev Y32_ : MethodName := ⟨"java/lang/StringBuilder", "toString", "()Ljava/lang/String;"⟩
abbrev Y33_ : MethodName := ⟨"com/example/foreground_courier/foregroundcourier/CacheStats", "toString", "()Ljava/lang/String;"⟩
abbrev Y34_ : MethodName := ⟨"java/lang/String", "<init>", "([C)V"⟩
abbrev Y35_ : MethodName := ⟨"java/lang/String", "equals", "(Ljava/lang/Object;)Z"⟩
abbrev K1_ : List Int32 := ([67, 97, 99, 104, 101, 83, 116, 97, 116, 115, 91, 114, 101, 113, 117, 101, 115, 116, 115, 61] : List Int32)
abbrev K2_ : List Int32 := ([44, 32, 110, 101, 116, 119, 111, 114, 107, 61] : List Int32)
abbrev K3_ : List Int32 := ([44, 32, 104, 105, 116, 115, 61] : List Int32)
abbrev K4_ : List Int32 := ([93] : List Int32)
abbrev C0_ := method_2_code
abbrev C1_ := method_3_code
abbrev C2_ := method_4_code
abbrev C3_ := prog_1_method_5_code
abbrev C4_ := jdk_68_method_6_code
abbrev C5_ := jdk_67_method_7_code
abbrev C6_ := jdk_68_method_2_code
abbrev C7_ := jdk_67_method_1_code
abbrev C8_ := prog_1_method_1_code
abbrev C9_ := jdk_68_method_9_code
abbrev C10_ := jdk_48_method_27_code
abbrev C11_ := jdk_68_method_64_code
abbrev C12_ := jdk_67_method_93_code
abbrev C13_ := jdk_68_method_73_code
abbrev C14_ := jdk_68_method_10_code
abbrev C15_ := jdk_33_method_12_code
abbrev C16_ := jdk_68_method_22_code
abbrev C17_ := jdk_42_method_53_code
abbrev C18_ := jdk_33_method_13_code
abbrev C19_ := jdk_68_method_71_code
abbrev C20_ := jdk_29_method_65_code
abbrev C21_ := jdk_67_method_42_code
abbrev C22_ := jdk_67_method_15_code
abbrev C23_ := jdk_68_method_68_code
abbrev C24_ := jdk_68_method_32_code
abbrev C25_ := jdk_29_method_69_code
abbrev C26_ := jdk_65_method_133_code
abbrev C27_ := jdk_65_method_131_code
abbrev C28_ := jdk_42_method_147_code
abbrev C29_ := jdk_42_method_150_code
abbrev C30_ := jdk_42_method_152_code
abbrev C31_ := jdk_65_method_132_code
abbrev C32_ := jdk_65_method_121_code
theorem own_cat {v : Value} (h : v.isRef = true) : v.category = 1 := by cases v <;> first | rfl | cases h
theorem own_and255 (x : Int32) : ∃ k : Fin 256, x &&& 255 = Int32.ofNat k.val := by
  have h : (x &&& 255).toBitVec.toNat < 256 := by
    simp only [Int32.toBitVec_and, BitVec.toNat_and]
    exact Nat.lt_succ_of_le Nat.and_le_right
  refine ⟨⟨_, h⟩, ?_⟩
  apply Int32.toBitVec_inj.mp
  show _ = BitVec.ofNat 32 _
  rw [BitVec.ofNat_toNat]; simp
theorem own_lat (x : Int32) : ¬ (((x &&& (255 : Int32))).toUInt32.toUInt16.toUInt32.toInt32) < 0 ∧ ¬ (255 : Int32) < (((x &&& (255 : Int32))).toUInt32.toUInt16.toUInt32.toInt32) := by
  obtain ⟨k, e⟩ := own_and255 x
  have t : ∀ k : Fin 256, ¬ ((Int32.ofNat k.val).toUInt32.toUInt16.toUInt32.toInt32) < 0 ∧ ¬ (255 : Int32) < ((Int32.ofNat k.val).toUInt32.toUInt16.toUInt32.toInt32) := by decide +kernel
  rw [e]; exact t k
theorem own_lat7 (x : Int32) : ¬ (((x &&& (127 : Int32))).toUInt32.toUInt16.toUInt32.toInt32) < 0 ∧ ¬ (255 : Int32) < (((x &&& (127 : Int32))).toUInt32.toUInt16.toUInt32.toInt32) := by
  have e : x &&& (127 : Int32) = (x &&& (127 : Int32)) &&& 255 := by rw [Int32.and_assoc]; rfl
  rw [e]; exact own_lat _
theorem own_nar_i2c (x : Int32) : nar .char (x.toUInt32.toUInt16.toUInt32.toInt32) = x.toUInt32.toUInt16.toUInt32.toInt32 := by simp only [nar, UInt32.toUInt32_toInt32, UInt16.toUInt16_toUInt32]
theorem own_nar_i2b (x : Int32) : nar .byte (x.toInt8.toInt32) = x.toInt8.toInt32 := by simp [nar]
theorem own_nar_lat {x : Int32} (h : ¬ x < 0 ∧ ¬ (255 : Int32) < x) : nar .char x = x := by
  have e0 : (0 : Int32).toInt = 0 := rfl
  have e1 : (255 : Int32).toInt = 255 := rfl
  have h1 := h.1
  have h2 := h.2
  rw [Int32.lt_iff_toInt_lt, e0] at h1
  rw [Int32.lt_iff_toInt_lt, e1] at h2
  have e : x = Int32.ofNat x.toInt.toNat := by
    apply Int32.toInt_inj.mp
    rw [Int32.toInt_ofNat_small (by omega)]; omega
  have t : ∀ k : Fin 256, nar .char (Int32.ofNat k.val) = Int32.ofNat k.val := by decide +kernel
  rw [e]; exact t ⟨x.toInt.toNat, by omega⟩
theorem own_up (cs : List Int32) (h : ∀ c ∈ cs, ¬ c < 0 ∧ ¬ (255 : Int32) < c) : ∀ c ∈ cs, ¬ c < 0 ∧ ¬ (65535 : Int32) < c := fun c hc => ⟨(h c hc).1, fun q => (h c hc).2 (by rw [Int32.lt_iff_toInt_lt] at q ⊢; have e1 : (65535 : Int32).toInt = 65535 := rfl; have e2 : (255 : Int32).toInt = 255 := rfl; omega)⟩
theorem own_sub {a b : Int32} {p : Int32 → Prop} (h : a = b) (hp : p b) : p a := by rw [h]; exact hp
theorem own_cons {a b : Int32} {l m : List Int32} (h : a = b) (h2 : l = m) : a :: l = b :: m := by rw [h, h2]
theorem own_and3 (x : Int32) : x &&& (3 : Int32) = 0 ∨ x &&& (3 : Int32) = 1 ∨ x &&& (3 : Int32) = 2 ∨ x &&& (3 : Int32) = 3 := by
  have h : (x &&& 3).toBitVec.toNat < 4 := by
    simp only [Int32.toBitVec_and, BitVec.toNat_and]
    exact Nat.lt_succ_of_le Nat.and_le_right
  have e : x &&& 3 = Int32.ofNat (x &&& 3).toBitVec.toNat := by
    apply Int32.toBitVec_inj.mp
    show _ = BitVec.ofNat 32 _
    rw [BitVec.ofNat_toNat]; simp
  rw [e]
  generalize (x &&& 3).toBitVec.toNat = n at h
  have : n = 0 ∨ n = 1 ∨ n = 2 ∨ n = 3 := by omega
  rcases this with rfl | rfl | rfl | rfl <;> simp
theorem own_three3 {x : Int32} (h0 : ¬ (x &&& (3 : Int32)) = (0 : Int32)) (h1 : ¬ (x &&& (3 : Int32)) = (1 : Int32)) (h2 : ¬ (x &&& (3 : Int32)) = (2 : Int32)) : (x &&& (3 : Int32)) = (3 : Int32) := by
  rcases own_and3 x with h | h | h | h
  · exact absurd h h0
  · exact absurd h h1
  · exact absurd h h2
  · exact h
section Own
variable {p : Program} {l : Launch} {e : Env} {R : Room} {s : State} {m : MethodId} {args : Array Value} {below : List Frame} {meth : Method} {c : Code} {T : State} {locs : List Loc} (cells slots rc rs C S : Nat) {Z : State} {h : Heap}
theorem own_cb {Q : Option Value → Heap → List Loc → Prop} {P : Option Value → Pt → Prop} (H : ∃ (v : Option Value) (vm₁ : Vm) (B : Pt), s.WarmedH vm₁ ∧ Stand p l e R s m args below meth c B.U B.locs B.cells B.slots ∧ (∃ L, Q v B.U.heap L ∧ B.locs = locs ++ L ∧ B.cells = cells + rc ∧ B.slots = slots + rs) ∧ P v B)
    (hc : cells + rc = C) (hs : slots + rs = S) : ∃ (v : Option Value) (T' : State) (L : List Loc), Stand p l e R s m args below meth c T' (locs ++ L) C S ∧ Q v T'.heap L ∧ P v (T', locs ++ L, C, S) := by
  obtain ⟨v, vm₁, ⟨T', L', k', n'⟩, -, X, ⟨L, hQ, h1, h2, h3⟩, hP⟩ := H
  dsimp only [Pt.U, Pt.locs, Pt.cells, Pt.slots] at X hQ h1 h2 h3
  subst h1 h2 h3 hc hs
  exact ⟨v, T', L, X, hQ, hP⟩
theorem own_cb0 {Q : Option Value → Pt → List Loc → Prop} {P : Option Value → Pt → Prop} (H : ∃ (v : Option Value) (vm₁ : Vm) (B : Pt), s.WarmedH vm₁ ∧ Stand p l e R s m args below meth c B.U B.locs B.cells B.slots ∧ (∃ L, Q v B L ∧ B.locs = locs ++ L ∧ B.cells = cells + rc ∧ B.slots = slots + rs) ∧ P v B)
    (hc : cells + rc = C) (hs : slots + rs = S) : ∃ (v : Option Value) (T' : State) (L : List Loc), Stand p l e R s m args below meth c T' (locs ++ L) C S ∧ Q v (T', locs ++ L, C, S) L ∧ P v (T', locs ++ L, C, S) := by
  obtain ⟨v, vm₁, ⟨T', L', k', n'⟩, -, X, ⟨L, hQ, h1, h2, h3⟩, hP⟩ := H
  dsimp only [Pt.U, Pt.locs, Pt.cells, Pt.slots] at X h1 h2 h3
  subst h1 h2 h3 hc hs
  exact ⟨v, T', L, X, hQ, hP⟩
theorem own_cbS {EL : List (String × Nat)} {vm0 : Vm} {k0 : Nat} {own : String} {Q : Option Value → Heap → List Loc → Prop} {P : Option Value → Pt → Prop} (H : ∃ (v : Option Value) (vm₁ : Vm) (B : Pt), (s.setVm vm0).WarmedH vm₁ ∧ Stand p l e R ((s.setVm vm0).setVm B.U.vm) m args below meth c B.U B.locs B.cells B.slots ∧ (s.setVm vm0).Since B.U.vm B.U.heap.size ∧ T.heap.size ≤ B.U.heap.size ∧ (∃ L, Q v B.U.heap L ∧ B.locs = locs ++ L ∧ B.cells = cells + rc ∧ B.slots = slots + rs ∧ CHr Z EL vm0 h B.U.vm B.U.heap) ∧ P v B)
    (hc : cells + rc = C) (hs : slots + rs = S) (hS : s.Since vm0 k0) (hk : k0 ≤ T.heap.size) (hZ : Z.Warmed39 vm0) (ho : vm0.findClass own = some m.cls) : ∃ (v : Option Value) (T' : State) (L : List Loc), Stand p l e R (s.setVm T'.vm) m args below meth c T' (locs ++ L) C S ∧ Q v T'.heap L ∧ s.Since T'.vm T'.heap.size ∧ Z.Warmed39 T'.vm ∧ T'.vm.findClass own = some m.cls ∧ CHr Z EL vm0 h T'.vm T'.heap ∧ P v (T', locs ++ L, C, S) := by
  obtain ⟨v, vm₁, ⟨T', L', k', n'⟩, -, X, hS2, hg, ⟨L, hQ, h1, h2, h3, hC⟩, hP⟩ := H
  dsimp only [Pt.U, Pt.locs, Pt.cells, Pt.slots] at X hQ h1 h2 h3 hS2 hg hC
  subst h1 h2 h3 hc hs
  exact ⟨v, T', L, X, hQ, hS.trans hS2 (Nat.le_trans hk hg), State.Warmed39.trans (t := s.setVm vm0) hZ hS2.1, by rw [hS2.1.alike.findClass]; exact ho, hC, hP⟩
theorem own_gl {cells slots n0 : Nat} (X : Stand p l e R s m args below meth c T locs cells slots) (N : Fr n0 locs) : ∃ L, Stand p l e R s m args below meth c T L cells slots ∧ Fr n0 L := ⟨_, X, N⟩
theorem own_lvG {cells slots : Nat} {h : Heap} {s₁ : State} {fr : JFrame} {Q : Option Value → Heap → List Loc → Prop} (X : Stand p l e R s m args below meth c T locs cells slots) (hlocks : meth.locks = false) {v : Option Value} (hv : meth.sig.returnType = none → v = none) (hE : T.heap = h) (hQ : Q v h locs) (hk : (Nat.ble cells R.cells && Nat.ble slots R.slots) = true)
    (H : ∀ fs, (∀ (f : JFrame) (acts : List Action), f.method = m → f.locked = none → f.entered = [] → (doReturn e (T.setTop f) acts v).1 = T.setFrames fs) → Steps p.tables e below (s₁.setTop fr) (T.setFrames fs)) :
    ∃ s₂ o, Steps p.tables e below (s₁.setTop fr) s₂ ∧ s₂.status = .running ∧ Ended s₂ below o ∧ ∃ v L, o = .returned v ∧ Q v s₂.heap L ∧ FrameEnd s o s₂ L R.cells R.slots := by
  obtain ⟨fs, hr, hrun, hended, hW, hsame⟩ := X.leave hv hlocks
  rw [Bool.and_eq_true] at hk
  subst hE
  exact ⟨_, _, H fs hr, hrun, hended, _, _, rfl, hQ, ⟨_, rfl⟩, hW, hsame.mono (Nat.le_of_ble_eq_true hk.1) (Nat.le_of_ble_eq_true hk.2)⟩
theorem own_lvF {cells slots : Nat} {h : Heap} {s₁ : State} {fr : JFrame} {Q : Option Value → Heap → List Loc → Prop} {y : MethodName} {S : Spec} {cd : ByteArray} {ml : Nat} {t : FieldType} {s' sa : State} {a' : Array Value} {b' : List Frame} (X : Stand p l e R s m args below meth c T locs cells slots) (B : BodyLoose p l y S cd ml (some t) e s' m a' b' meth c sa) (v : Value) (hE : T.heap = h) (hQ : Q (some v) h locs) (hk : (Nat.ble cells R.cells && Nat.ble slots R.slots) = true)
    (H : ∀ fs, (∀ (f : JFrame) (acts : List Action), f.method = m → f.locked = none → f.entered = [] → (doReturn e (T.setTop f) acts (some v)).1 = T.setFrames fs) → Steps p.tables e below (s₁.setTop fr) (T.setFrames fs)) :
    ∃ s₂ o, Steps p.tables e below (s₁.setTop fr) s₂ ∧ s₂.status = .running ∧ Ended s₂ below o ∧ ∃ v L, o = .returned v ∧ Q v s₂.heap L ∧ FrameEnd s o s₂ L R.cells R.slots :=
  own_lvG X B.notSynchronized (v := some v) (fun h => by rw [B.returns] at h; cases h) hE hQ hk H
theorem own_lvN {cells slots : Nat} {h : Heap} {s₁ : State} {fr : JFrame} {Q : Option Value → Heap → List Loc → Prop} {y : MethodName} {S : Spec} {cd : ByteArray} {ml : Nat} {rt : Option FieldType} {s' sa : State} {a' : Array Value} {b' : List Frame} (X : Stand p l e R s m args below meth c T locs cells slots) (B : BodyLoose p l y S cd ml rt e s' m a' b' meth c sa) (hE : T.heap = h) (hQ : Q none h locs) (hk : (Nat.ble cells R.cells && Nat.ble slots R.slots) = true)
    (H : ∀ fs, (∀ (f : JFrame) (acts : List Action), f.method = m → f.locked = none → f.entered = [] → (doReturn e (T.setTop f) acts none).1 = T.setFrames fs) → Steps p.tables e below (s₁.setTop fr) (T.setFrames fs)) :
    ∃ s₂ o, Steps p.tables e below (s₁.setTop fr) s₂ ∧ s₂.status = .running ∧ Ended s₂ below o ∧ ∃ v L, o = .returned v ∧ Q v s₂.heap L ∧ FrameEnd s o s₂ L R.cells R.slots :=
  own_lvG X B.notSynchronized (v := none) (fun _ => rfl) hE hQ hk H
theorem own_lvW {cells slots : Nat} {h h0 : Heap} {s₁ : State} {fr : JFrame} {Q : Option Value → Heap → List Loc → Prop} {EL : List (String × Nat)} {vm1 : Vm} {n : Nat} (X : Stand p l e R (s.setVm vm1) m args below meth c T locs cells slots) (hlocks : meth.locks = false) (hS : s.Since vm1 n) (hk0 : n ≤ h.size) {v : Option Value} (hv : meth.sig.returnType = none → v = none) (hE : T.heap = h) (hh : s.heap = h0) (hQ : Q v h locs) (hC : CHr Z EL s.vm h0 T.vm h) (hk : cells ≤ R.cells) (hn : slots ≤ R.slots)
    (H : ∀ fs, (∀ (f : JFrame) (acts : List Action), f.method = m → f.locked = none → f.entered = [] → (doReturn e (T.setTop f) acts v).1 = T.setFrames fs) → Steps p.tables e below (s₁.setTop fr) (T.setFrames fs)) :
    ∃ s₂ o, Steps p.tables e below (s₁.setTop fr) s₂ ∧ s₂.status = .running ∧ Ended s₂ below o ∧ ∃ v L, o = .returned v ∧ Q v s₂.heap L ∧ CHr Z EL s.vm s.heap s₂.vm s₂.heap ∧ ReturnedEndW s o s₂ L R.cells R.slots := by
  subst hE hh
  obtain ⟨fs, hr, hrun, hended, hEnd⟩ := X.leaveW (s := s) hS hk0 hv hlocks
  exact ⟨_, _, H fs hr, hrun, hended, _, _, rfl, hQ, hC, hEnd.1, hEnd.2.1, hEnd.2.2.1, hEnd.2.2.2.mono hk hn⟩
end Own
abbrev Rm (f c s l : Nat) : Room := { frames := f, cells := c, slots := s, locals := l }
abbrev MF (l : Launch) (Z : State) (y : MethodName) (cd : ByteArray) (ml : Nat) (rt : Option FieldType) (R : Room) (a : Array Value) (h0 : Heap) (Q : Option Value → Heap → List Loc → Prop) : Prop :=
  MetFree l y (head1 [Jvm.Cond.code y cd ml rt] R) (fun b U => b = a ∧ Z.Warmed39 U.vm ∧ U.heap = h0) (fun _ _ _ _ _ => True) (fun _ U o U' => ∃ v L, o = .returned v ∧ Q v U'.heap L ∧ FrameEnd U o U' L R.cells R.slots)
theorem own_sFm {l : Launch} {Z : State} {y : MethodName} {cd : ByteArray} {ml : Nat} {rt : Option FieldType} {R : Room} {a : Array Value} {h0 : Heap} {Q : Option Value → Heap → List Loc → Prop} {K : String} {L0 : Array Slot} (hpn : plainFor y = true) (hK : y.cls = K) (hE : ∀ m, entryFrame m a ml = mkF m 0 L0 [])
    (H : ∀ p e s m below meth c s₁, BodyLoose p l y (head1 [Jvm.Cond.code y cd ml rt] R) cd ml rt e s m a below meth c s₁ → Z.Warmed39 s.vm → s.heap = h0 → p.tables.exec = Jvm.exec → c.code = cd → c.maxLocals = ml → s.vm.findClass K = some m.cls → meth.name = y.name → Stand p l e R s m a below meth c s₁ [] 0 0 → s₁.heap = h0 → (∀ t, Steps p.tables e below (s₁.setTop (mkF m 0 L0 [])) t → Steps p.tables e below (s₁.setTop (entryFrame m a ml)) t) →
      ∃ s₂ o, Steps p.tables e below (s₁.setTop (entryFrame m a ml)) s₂ ∧ s₂.status = .running ∧ Ended s₂ below o ∧ ∃ v L, o = .returned v ∧ Q v s₂.heap L ∧ FrameEnd s o s₂ L R.cells R.slots) : MF l Z y cd ml rt R a h0 Q := by
  subst hK
  refine MetFree.of_bodySF hpn hisR ?_
  intro p e s m args below meth c s₁ Bd hml0 hP hK
  obtain ⟨rfl, hZ, hh⟩ := hP
  exact H p e s m below meth c s₁ Bd hZ hh Bd.exec Bd.bytes hml0 (findClass_of_methodNamed Bd.named) (name_of_methodNamed Bd.named Bd.method).1 (Stand.of_body Bd) (by rw [← hh, Bd.state]; rfl) (fun t k => castTop (hE m) k)
theorem own_sF {l : Launch} {Z : State} {y : MethodName} {cd : ByteArray} {ml : Nat} {rt : Option FieldType} {R : Room} {a : Array Value} {h0 : Heap} {Q : Option Value → Heap → List Loc → Prop} {K : String} {L0 : Array Slot} (hpn : plainName K = true) (hK : y.cls = K) (hE : ∀ m, entryFrame m a ml = mkF m 0 L0 [])
    (H : ∀ p e s m below meth c s₁, BodyLoose p l y (head1 [Jvm.Cond.code y cd ml rt] R) cd ml rt e s m a below meth c s₁ → Z.Warmed39 s.vm → s.heap = h0 → p.tables.exec = Jvm.exec → c.code = cd → c.maxLocals = ml → s.vm.findClass K = some m.cls → meth.name = y.name → Stand p l e R s m a below meth c s₁ [] 0 0 → s₁.heap = h0 → (∀ t, Steps p.tables e below (s₁.setTop (mkF m 0 L0 [])) t → Steps p.tables e below (s₁.setTop (entryFrame m a ml)) t) →
      ∃ s₂ o, Steps p.tables e below (s₁.setTop (entryFrame m a ml)) s₂ ∧ s₂.status = .running ∧ Ended s₂ below o ∧ ∃ v L, o = .returned v ∧ Q v s₂.heap L ∧ FrameEnd s o s₂ L R.cells R.slots) : MF l Z y cd ml rt R a h0 Q := own_sFm (plainFor_of_name (hK ▸ hpn)) hK hE H
section Own3
variable {p : Program} {l : Launch} {e : Env} {R : Room} {s : State} {m : MethodId} {args : Array Value} {below : List Frame} {meth : Method} {c : Code} {T : State} {locs : List Loc} {cells slots : Nat} {Z : State} {h : Heap} {own C : String} {index : Nat} {y z : MethodName} {bytes : ByteArray} {maxL : Nat} {ret : Option FieldType} {rm : Room} {Q : Option Value → Heap → List Loc → Prop} {argsL : List Value} {ps : List FieldType} {r : Option FieldType} {a0 : Array Value}
abbrev own_num (rm R : Room) (rest : List Value) (maxL cells slots : Nat) : Bool := Nat.ble (rm.frames + 1) R.frames && (Nat.ble ((rest.map fun v => v.category).sum + (maxL + 11) + rm.locals) R.locals && (Nat.ble (cells + rm.cells) R.cells && Nat.ble (slots + rm.slots) R.slots))
theorem own_numE {rest : List Value} (h : own_num rm R rest maxL cells slots = true) : rm.frames + 1 ≤ R.frames ∧ (rest.map fun v => v.category).sum + (maxL + 11) + rm.locals ≤ R.locals ∧ cells + rm.cells ≤ R.cells ∧ slots + rm.slots ≤ R.slots := by
  simp only [own_num, Bool.and_eq_true] at h
  exact ⟨Nat.le_of_ble_eq_true h.1, Nat.le_of_ble_eq_true h.2.1, Nat.le_of_ble_eq_true h.2.2.1, Nat.le_of_ble_eq_true h.2.2.2⟩
theorem own_cS (C' S' : Nat) (rest : List Value) (pc : Nat) (Ls : Array Slot) (X : Stand p l e R s m args below meth c T locs cells slots) (hx : p.tables.exec = Jvm.exec) (hZ : Z.Warmed39 s.vm) (hown : s.vm.findClass own = some m.cls) (w1 : (Cond.methodLink own index y).before a0 Z = true) (w2 : (Cond.static y).before a0 Z = true) (w3 : (Cond.initialized y.cls).before a0 Z = true) (w4 : (Cond.code y bytes maxL ret).before a0 Z = true)
    (hM : MF l Z y bytes maxL ret rm argsL.toArray h Q) (pd : parseMethodDescriptor y.desc = some ⟨ps, r⟩) (hsz : Ls.size = c.maxLocals) (hd : decode c.code pc = .ok (.invokestatic index, 3)) (hE : T.heap = h) (hl : argsL.length = ps.length) (hc : cells + rm.cells = C') (hs : slots + rm.slots = S') (hn : own_num rm R rest maxL cells slots = true) (hy : y.cls ≠ "java/lang/invoke/MethodHandle" ∧ y.cls ≠ "java/lang/invoke/VarHandle") :
    ∃ (v : Option Value) (T' : State) (L : List Loc), Stand p l e R s m args below meth c T' (locs ++ L) C' S' ∧ Q v T'.heap L ∧ ∀ target, Steps p.tables e below (T'.setTop (mkF m (pc + 3) Ls (v.toList ++ rest))) target → Steps p.tables e below (T.setTop (mkF m pc Ls (argsL.reverse ++ rest))) target := by
  obtain ⟨n1, n2, n3, n4⟩ := own_numE hn
  exact own_cb cells slots rm.cells rm.slots C' S' (Jvm.LawKit.callS X hx hown (mvT hZ w1) (mvT hZ w2) (mvT hZ w3) (mvT hZ w4) hy (backOf (W := (rest.map fun v => v.category).sum) hM hZ w4 w3 n1 n2) (g := mkF m pc Ls (argsL.reverse ++ rest)) rfl hsz (argsL := argsL) (rest := rest) (lenOf pd hl) rfl (Nat.le_of_eq (Nat.zero_add _)) hd (fun _ _ => ⟨rfl, hE, n3, n4⟩)) hc hs
theorem own_cI (C' S' : Nat) (rest : List Value) (pc : Nat) (Ls : Array Slot) {a : Addr} (X : Stand p l e R s m args below meth c T locs cells slots) (hx : p.tables.exec = Jvm.exec) (hZ : Z.Warmed39 s.vm) (hown : s.vm.findClass own = some m.cls) (w1 : (Cond.methodLink own index y).before a0 Z = true) (w2 : (Cond.instanceMethod y).before a0 Z = true) (w3 : (Cond.initialized y.cls).before a0 Z = true) (w4 : (Cond.code y bytes maxL none).before a0 Z = true)
    (hM : MF l Z y bytes maxL none rm (.ref a :: argsL).toArray h Q) (pd : parseMethodDescriptor y.desc = some ⟨ps, r⟩) (hsz : Ls.size = c.maxLocals) (hd : decode c.code pc = .ok (.invokespecial index, 3)) (hE : T.heap = h) (hl : argsL.length = ps.length) (hc : cells + rm.cells = C') (hs : slots + rm.slots = S') (hn : own_num rm R rest maxL cells slots = true) (hy1 : y.name = "<init>") (hy : y.cls ≠ "java/lang/invoke/MethodHandle" ∧ y.cls ≠ "java/lang/invoke/VarHandle") :
    ∃ (v : Option Value) (T' : State) (L : List Loc), Stand p l e R s m args below meth c T' (locs ++ L) C' S' ∧ Q v T'.heap L ∧ ∀ target, Steps p.tables e below (T'.setTop (mkF m (pc + 3) Ls (v.toList ++ rest))) target → Steps p.tables e below (T.setTop (mkF m pc Ls (argsL.reverse ++ .ref a :: rest))) target := by
  obtain ⟨n1, n2, n3, n4⟩ := own_numE hn
  obtain ⟨v, T', L, h1, h2, h3⟩ := own_cb cells slots rm.cells rm.slots C' S' (X.specialBack hx hy1 hown (mvT hZ w1) (mvT hZ w2) (mvT hZ w4) hy (backOf (W := (rest.map fun v => v.category).sum) hM hZ w4 w3 n1 n2) (g := mkF m pc Ls (argsL.reverse ++ .ref a :: rest)) rfl hsz (Steps.refl _) (a := a) (argsL := argsL) (rest := rest) (lenOf pd hl) rfl (Nat.le_of_eq (Nat.zero_add _)) hd (fun _ _ => ⟨rfl, hE, n3, n4⟩)) hc hs
  exact ⟨v, T', L, h1, h2, fun t k => Steps.trans h3 k⟩
theorem own_cV (C' S' : Nat) (rest : List Value) (pc : Nat) (Ls : Array Slot) {b : Addr} (X : Stand p l e R s m args below meth c T locs cells slots) (hx : p.tables.exec = Jvm.exec) (hZ : Z.Warmed39 s.vm) (hown : s.vm.findClass own = some m.cls) (E : Exa Z h b C) (w1 : (Cond.methodLink own index y).before a0 Z = true) (w2 : (Cond.declares y).before a0 Z = true) (hnf : NotFace s y) (ws : (Cond.selects C y z).before a0 Z = true) (wi : (Cond.instanceMethod z).before a0 Z = true) (w3 : (Cond.initialized z.cls).before a0 Z = true) (w4 : (Cond.code z bytes maxL ret).before a0 Z = true)
    (hM : MF l Z z bytes maxL ret rm (.ref b :: argsL).toArray h Q) (pd : parseMethodDescriptor y.desc = some ⟨ps, r⟩) (hsz : Ls.size = c.maxLocals) (hd : decode c.code pc = .ok (.invokevirtual index, 3)) (hE : T.heap = h) (hl : argsL.length = ps.length) (hc : cells + rm.cells = C') (hs : slots + rm.slots = S') (hn : own_num rm R rest maxL cells slots = true) (hy : y.cls ≠ "java/lang/invoke/MethodHandle" ∧ y.cls ≠ "java/lang/invoke/VarHandle") :
    ∃ (v : Option Value) (T' : State) (L : List Loc), Stand p l e R s m args below meth c T' (locs ++ L) C' S' ∧ Q v T'.heap L ∧ ∀ target, Steps p.tables e below (T'.setTop (mkF m (pc + 3) Ls (v.toList ++ rest))) target → Steps p.tables e below (T.setTop (mkF m pc Ls (argsL.reverse ++ .ref b :: rest))) target := by
  obtain ⟨n1, n2, n3, n4⟩ := own_numE hn
  obtain ⟨cq, kq, qa, qb, qc⟩ := isOf hZ hE E
  obtain ⟨v, T', L, h1, h2, h3⟩ := own_cb cells slots rm.cells rm.slots C' S' (X.virtualBack hx hown (mvT hZ w1) (mvT hZ w2) hnf (mvT hZ ws) (mvT hZ wi) hy (backOf (W := (rest.map fun v => v.category).sum) hM hZ w4 w3 n1 n2) qa qc (g := mkF m pc Ls (argsL.reverse ++ .ref b :: rest)) rfl hsz (Steps.refl _) (argsL := argsL) (rest := rest) (lenOf pd hl) rfl (Nat.le_of_eq (Nat.zero_add _)) hd (fun _ _ => ⟨rfl, hE, n3, n4⟩)) hc hs
  exact ⟨v, T', L, h1, h2, fun t k => Steps.trans h3 k⟩
end Own3
section Own4
variable {p : Program} {l : Launch} {e : Env} {R : Room} {s : State} {m : MethodId} {args : Array Value} {below : List Frame} {meth : Method} {c : Code} {T target : State} {locs : List Loc} {cells slots : Nat} {bs : ByteArray} {pc pc' : Nat} {Ls : Array Slot} {st : List Value} {o i : Int} {y : MethodName} {S : Spec} {ml : Nat} {rt : Option FieldType} {s' sa : State} {a' : Array Value} {b' : List Frame}
theorem zi (X : Stand p l e R s m args below meth c T locs cells slots) (B : BodyLoose p l y S bs ml rt e s' m a' b' meth c sa) {k : Nat} {v : Int32} (hd : decode bs pc = .ok (.iload k, 2)) (hl : Ls[k]? = some (.val (.int v))) (hr : Steps p.tables e below (T.setTop (mkF m (pc + 2) Ls (.int v :: st))) target) : Steps p.tables e below (T.setTop (mkF m pc Ls st)) target := XS.iload X.here B.exec rfl (hb B.bytes hd) hl hr
theorem zj (X : Stand p l e R s m args below meth c T locs cells slots) (B : BodyLoose p l y S bs ml rt e s' m a' b' meth c sa) {k : Fin 4} {v : Int32} (hd : decode bs pc = .ok (.iload_n k, 1)) (hl : Ls[k.val]? = some (.val (.int v))) (hr : Steps p.tables e below (T.setTop (mkF m (pc + 1) Ls (.int v :: st))) target) : Steps p.tables e below (T.setTop (mkF m pc Ls st)) target := XS.iloadN X.here B.exec rfl (hb B.bytes hd) hl hr
theorem za (X : Stand p l e R s m args below meth c T locs cells slots) (B : BodyLoose p l y S bs ml rt e s' m a' b' meth c sa) {k : Nat} {v : Value} (hd : decode bs pc = .ok (.aload k, 2)) (hl : Ls[k]? = some (.val v)) (hv : v.isRef = true) (hr : Steps p.tables e below (T.setTop (mkF m (pc + 2) Ls (v :: st))) target) : Steps p.tables e below (T.setTop (mkF m pc Ls st)) target := XS.aload X.here B.exec rfl (hb B.bytes hd) hl hv hr
theorem zb (X : Stand p l e R s m args below meth c T locs cells slots) (B : BodyLoose p l y S bs ml rt e s' m a' b' meth c sa) {k : Fin 4} {v : Value} (hd : decode bs pc = .ok (.aload_n k, 1)) (hl : Ls[k.val]? = some (.val v)) (hv : v.isRef = true) (hr : Steps p.tables e below (T.setTop (mkF m (pc + 1) Ls (v :: st))) target) : Steps p.tables e below (T.setTop (mkF m pc Ls st)) target := XS.aloadN X.here B.exec rfl (hb B.bytes hd) hl hv hr
theorem zc (X : Stand p l e R s m args below meth c T locs cells slots) (B : BodyLoose p l y S bs ml rt e s' m a' b' meth c sa) (hd : decode bs pc = .ok (.iconst i, 1)) (hr : Steps p.tables e below (T.setTop (mkF m (pc + 1) Ls (.int (Int32.ofInt i) :: st))) target) : Steps p.tables e below (T.setTop (mkF m pc Ls st)) target := XS.iconst X.here B.exec rfl (hb B.bytes hd) hr
theorem zd (X : Stand p l e R s m args below meth c T locs cells slots) (B : BodyLoose p l y S bs ml rt e s' m a' b' meth c sa) (hd : decode bs pc = .ok (.bipush i, 2)) (hr : Steps p.tables e below (T.setTop (mkF m (pc + 2) Ls (.int (Int8.ofInt i).toInt32 :: st))) target) : Steps p.tables e below (T.setTop (mkF m pc Ls st)) target := XS.bipush X.here B.exec rfl (hb B.bytes hd) hr
theorem zs (X : Stand p l e R s m args below meth c T locs cells slots) (B : BodyLoose p l y S bs ml rt e s' m a' b' meth c sa) {k : Nat} {v : Int32} {l' : Array Slot} (hd : decode bs pc = .ok (.istore k, 2)) (hl : storeLocals Ls k (.int v) = some l') (hr : Steps p.tables e below (T.setTop (mkF m (pc + 2) l' st)) target) : Steps p.tables e below (T.setTop (mkF m pc Ls (.int v :: st))) target := XS.istore X.here B.exec rfl (hb B.bytes hd) rfl hl hr
theorem zt (X : Stand p l e R s m args below meth c T locs cells slots) (B : BodyLoose p l y S bs ml rt e s' m a' b' meth c sa) {k : Fin 4} {v : Int32} {l' : Array Slot} (hd : decode bs pc = .ok (.istore_n k, 1)) (hl : storeLocals Ls k.val (.int v) = some l') (hr : Steps p.tables e below (T.setTop (mkF m (pc + 1) l' st)) target) : Steps p.tables e below (T.setTop (mkF m pc Ls (.int v :: st))) target := XS.istoreN X.here B.exec rfl (hb B.bytes hd) rfl hl hr
theorem zn (X : Stand p l e R s m args below meth c T locs cells slots) (B : BodyLoose p l y S bs ml rt e s' m a' b' meth c sa) {cd : ClassFile.Cond} {u v : Int32} (hd : decode bs pc = .ok (.if_icmp cd o, 3)) (hc : if_icmp.holds cd u v = false) (hr : Steps p.tables e below (T.setTop (mkF m (pc + 3) Ls st)) target) : Steps p.tables e below (T.setTop (mkF m pc Ls (.int v :: .int u :: st))) target := XS.icmpNo X.here B.exec rfl (hb B.bytes hd) rfl hc hr
theorem zy (X : Stand p l e R s m args below meth c T locs cells slots) (B : BodyLoose p l y S bs ml rt e s' m a' b' meth c sa) {cd : ClassFile.Cond} {u v : Int32} (hd : decode bs pc = .ok (.if_icmp cd o, 3)) (hc : if_icmp.holds cd u v = true) (q : decide (0 ≤ (pc : Int) + o ∧ ((pc : Int) + o).toNat = pc') = true) (hr : Steps p.tables e below (T.setTop (mkF m pc' Ls st)) target) : Steps p.tables e below (T.setTop (mkF m pc Ls (.int v :: .int u :: st))) target := XS.icmpYes X.here B.exec rfl rfl (hb B.bytes hd) rfl hc (of_decide_eq_true q).1 (of_decide_eq_true q).2 hr
theorem zo (X : Stand p l e R s m args below meth c T locs cells slots) (B : BodyLoose p l y S bs ml rt e s' m a' b' meth c sa) {cd : ClassFile.Cond} {u : Int32} (hd : decode bs pc = .ok (.ifCond cd o, 3)) (hc : ifCond.holds cd u = false) (hr : Steps p.tables e below (T.setTop (mkF m (pc + 3) Ls st)) target) : Steps p.tables e below (T.setTop (mkF m pc Ls (.int u :: st))) target := XS.ifNo X.here B.exec rfl (hb B.bytes hd) rfl hc hr
theorem zp (X : Stand p l e R s m args below meth c T locs cells slots) (B : BodyLoose p l y S bs ml rt e s' m a' b' meth c sa) {cd : ClassFile.Cond} {u : Int32} (hd : decode bs pc = .ok (.ifCond cd o, 3)) (hc : ifCond.holds cd u = true) (q : decide (0 ≤ (pc : Int) + o ∧ ((pc : Int) + o).toNat = pc') = true) (hr : Steps p.tables e below (T.setTop (mkF m pc' Ls st)) target) : Steps p.tables e below (T.setTop (mkF m pc Ls (.int u :: st))) target := XS.ifYes X.here B.exec rfl rfl (hb B.bytes hd) rfl hc (of_decide_eq_true q).1 (of_decide_eq_true q).2 hr
theorem zg (X : Stand p l e R s m args below meth c T locs cells slots) (B : BodyLoose p l y S bs ml rt e s' m a' b' meth c sa) (hd : decode bs pc = .ok (.goto o, 3)) (q : decide (0 ≤ (pc : Int) + o ∧ ((pc : Int) + o).toNat = pc') = true) (hr : Steps p.tables e below (T.setTop (mkF m pc' Ls st)) target) : Steps p.tables e below (T.setTop (mkF m pc Ls st)) target := XS.goto X.here B.exec rfl rfl (hb B.bytes hd) (of_decide_eq_true q).1 (of_decide_eq_true q).2 hr
end Own4
abbrev MW (l : Launch) (Z : State) (EL : List (String × Nat)) (y : MethodName) (cd : ByteArray) (ml : Nat) (rt : Option FieldType) (R : Room) (a : Array Value) (h0 : Heap) (Q : Option Value → Heap → List Loc → Prop) : Prop :=
  MetFree l y (head1 [Jvm.Cond.code y cd ml rt] R) (fun b U => b = a ∧ Z.Warmed39 U.vm ∧ U.heap = h0 ∧ CHv Z EL U.vm h0) (fun _ _ _ _ _ => True) (fun _ U o U' => ∃ v L, o = .returned v ∧ Q v U'.heap L ∧ CHr Z EL U.vm U.heap U'.vm U'.heap ∧ ReturnedEndW U o U' L R.cells R.slots)
theorem own_sWm {l : Launch} {Z : State} {EL : List (String × Nat)} {y : MethodName} {cd : ByteArray} {ml : Nat} {rt : Option FieldType} {R : Room} {a : Array Value} {h0 : Heap} {Q : Option Value → Heap → List Loc → Prop} {K : String} {L0 : Array Slot} (hpn : plainFor y = true) (hK : y.cls = K) (hE : ∀ m, entryFrame m a ml = mkF m 0 L0 [])
    (H : ∀ p e s m below meth c s₁, BodyLoose p l y (head1 [Jvm.Cond.code y cd ml rt] R) cd ml rt e s m a below meth c s₁ → Z.Warmed39 s.vm → s.heap = h0 → p.tables.exec = Jvm.exec → c.code = cd → c.maxLocals = ml → s.vm.findClass K = some m.cls → meth.name = y.name → Stand p l e R (s.setVm s.vm) m a below meth c s₁ [] 0 0 → s₁.heap = h0 → (∀ t, Steps p.tables e below (s₁.setTop (mkF m 0 L0 [])) t → Steps p.tables e below (s₁.setTop (entryFrame m a ml)) t) →
      CHv Z EL s.vm h0 → s.Since s.vm h0.size → h0.size ≤ h0.size → CHr Z EL s.vm h0 s.vm h0 →
      ∃ s₂ o, Steps p.tables e below (s₁.setTop (entryFrame m a ml)) s₂ ∧ s₂.status = .running ∧ Ended s₂ below o ∧ ∃ v L, o = .returned v ∧ Q v s₂.heap L ∧ CHr Z EL s.vm s.heap s₂.vm s₂.heap ∧ ReturnedEndW s o s₂ L R.cells R.slots) : MW l Z EL y cd ml rt R a h0 Q := by
  subst hK
  refine MetFree.of_bodySF hpn hisR ?_
  intro p e s m args below meth c s₁ Bd hml0 hP hK
  obtain ⟨rfl, hZ, hh, hC0⟩ := hP
  exact H p e s m below meth c s₁ Bd hZ hh Bd.exec Bd.bytes hml0 (findClass_of_methodNamed Bd.named) (name_of_methodNamed Bd.named Bd.method).1 (Stand.of_body Bd) (by rw [← hh, Bd.state]; rfl) (fun t k => castTop (hE m) k) hC0 ((State.WarmedH.refl s).since _) (Nat.le_refl _) (CHr.refl hC0)
theorem own_sW {l : Launch} {Z : State} {EL : List (String × Nat)} {y : MethodName} {cd : ByteArray} {ml : Nat} {rt : Option FieldType} {R : Room} {a : Array Value} {h0 : Heap} {Q : Option Value → Heap → List Loc → Prop} {K : String} {L0 : Array Slot} (hpn : plainName K = true) (hK : y.cls = K) (hE : ∀ m, entryFrame m a ml = mkF m 0 L0 [])
    (H : ∀ p e s m below meth c s₁, BodyLoose p l y (head1 [Jvm.Cond.code y cd ml rt] R) cd ml rt e s m a below meth c s₁ → Z.Warmed39 s.vm → s.heap = h0 → p.tables.exec = Jvm.exec → c.code = cd → c.maxLocals = ml → s.vm.findClass K = some m.cls → meth.name = y.name → Stand p l e R (s.setVm s.vm) m a below meth c s₁ [] 0 0 → s₁.heap = h0 → (∀ t, Steps p.tables e below (s₁.setTop (mkF m 0 L0 [])) t → Steps p.tables e below (s₁.setTop (entryFrame m a ml)) t) →
      CHv Z EL s.vm h0 → s.Since s.vm h0.size → h0.size ≤ h0.size → CHr Z EL s.vm h0 s.vm h0 →
      ∃ s₂ o, Steps p.tables e below (s₁.setTop (entryFrame m a ml)) s₂ ∧ s₂.status = .running ∧ Ended s₂ below o ∧ ∃ v L, o = .returned v ∧ Q v s₂.heap L ∧ CHr Z EL s.vm s.heap s₂.vm s₂.heap ∧ ReturnedEndW s o s₂ L R.cells R.slots) : MW l Z EL y cd ml rt R a h0 Q := own_sWm (plainFor_of_name (hK ▸ hpn)) hK hE H
theorem own_nf {s : State} {args : Array Value} {y x z : MethodName} {C : String} (h : (Cond.selects C x z).before args s = true) (e : z.cls = y.cls) : NotFace s y := fun r0 h0 => by
  obtain ⟨c2, r2, m2, q1, q2, q3, q4, kP, hkP, hkPi⟩ := Cond.selects_spec h
  have h1 := findClass_of_methodNamed q3
  have h2 := findClass_of_methodNamed h0
  rw [e] at h1
  have e2 : m2.cls = r0.cls := Option.some.inj (h1.symm.trans h2)
  exact ⟨kP, e2 ▸ hkP, hkPi⟩
theorem own_same {s : State} {args : Array Value} {y x z : MethodName} {C : String} (hi : (Cond.instanceMethod y).before args s = true) (h : (Cond.selects C x z).before args s = true) (e : z.cls = y.cls) (hy : y.cls ≠ "java/lang/invoke/MethodHandle" ∧ y.cls ≠ "java/lang/invoke/VarHandle") : (Cond.sameMethod y.cls y.cls y.name y.desc).before args s = true := by
  obtain ⟨mk, methM, hnamed, hmethM, -, -⟩ := Cond.instanceMethod_spec hi
  have hfound : s.methodFound? y.cls y.name y.desc = some mk := State.methodFound?_of_named hnamed hy
  obtain ⟨kr, k1, k2⟩ := own_nf (y := y) h e mk hnamed
  have hc := findClass_of_methodNamed hnamed
  have hn : s.methodNamed? ⟨y.cls, y.name, y.desc⟩ = some mk := hnamed
  simp [Cond.before, Cond.holds, Cond.value, hc, hfound, hn, k1, k2]
theorem own_selQ {s : State} {args : Array Value} {y x z : MethodName} {C : String} (h : (Cond.selects C x z).before args s = true) (e : z.cls = y.cls) (hpriv : s.PrivateAt y) (hinst : (Cond.instanceMethod y).before args s = true) (hy : y.cls ≠ "java/lang/invoke/MethodHandle" ∧ y.cls ≠ "java/lang/invoke/VarHandle") : (Cond.selects y.cls y y).before args s = true := by
  obtain ⟨c2, r2, m2, q1, q2, q3, q4, kP, hkP, hkPi⟩ := Cond.selects_spec h
  have h1 := findClass_of_methodNamed q3
  rw [e] at h1
  exact selects_self_of_private h1 hkP hkPi hpriv hinst hy
theorem own_selP {s : State} {args : Array Value} {y : MethodName} {C : String} (h : (Cond.selects C y y).before args s = true) (hpriv : s.PrivateAt y) (hinst : (Cond.instanceMethod y).before args s = true) (hy : y.cls ≠ "java/lang/invoke/MethodHandle" ∧ y.cls ≠ "java/lang/invoke/VarHandle") : (Cond.selects y.cls y y).before args s = true := by
  obtain ⟨c2, r2, m2, q1, q2, q3, q4, kP, hkP, hkPi⟩ := Cond.selects_spec h
  exact selects_self_of_private (findClass_of_methodNamed q3) hkP hkPi hpriv hinst hy
theorem own_ws {a0 : Array Value} {Z : State} (hw : ∀ d ∈ tables_1, d.before a0 Z = true) : ∀ d ∈ StrChars.Road.words, d.before a0 Z = true := fun d hd => hw d ((by decide +kernel : ∀ d ∈ StrChars.Road.words, d ∈ tables_1) d hd)
theorem own_wl {a0 : Array Value} {Z : State} (hw : ∀ d ∈ tables_1, d.before a0 Z = true) : ∀ d ∈ StrChars.Road.wordsLen, d.before a0 Z = true := fun d hd => hw d ((by decide +kernel : ∀ d ∈ StrChars.Road.wordsLen, d ∈ tables_1) d hd)
theorem own_wq {a0 : Array Value} {Z : State} (hw : ∀ d ∈ tables_1, d.before a0 Z = true) : ∀ d ∈ StrChars.Road.wordsEq, d.before a0 Z = true := fun d hd => hw d ((by decide +kernel : ∀ d ∈ StrChars.Road.wordsEq, d ∈ tables_1) d hd)
theorem own_wS {a0 : Array Value} {Z : State} (hw : ∀ d ∈ tables_1, d.before a0 Z = true) : ∀ d ∈ Bundle.stringAtoms, d.before a0 Z = true := fun d hd => hw d ((by decide +kernel : ∀ d ∈ Bundle.stringAtoms, d ∈ tables_1) d hd)
theorem own_safe_null {Z : State} {EL : List (String × Nat)} {vm : Vm} {h : Heap} {x : Addr} (hal : Z.vm.Alike vm) (E : Exa Z h x "java/lang/String") (F : Fld Z h x "java/lang/String" "value" "[B" .null) : Safe Z EL vm h x := fun B => by
  obtain ⟨cell, k, e1, e2, e3, -, -⟩ := E
  obtain ⟨cell', cf, k', i, f, f1, f2, f3, -, -, -, f7⟩ := F
  cases e1.symm.trans f1
  obtain ⟨p, -, u, a, -, q, -, G, rfl | rfl⟩ := B
  · cases (show h[q.sa]? = some q.sC from G.ha).symm.trans e1
    obtain ⟨cS, ⟨⟨s1, s2, s3, ⟨cv, kv, iv, s4, s4'⟩, -, s6, s7, s8, -⟩, -, -⟩, -⟩ := G
    obtain ⟨kv', z4⟩ := ff_back (U := Wst Z vm h) hal s4
    cases z4.symm.trans f2
    rw [s8] at f7
    cases f7
  · cases (show h[q.sd]? = some q.SA from G.hd).symm.trans e1
    obtain ⟨cS, -, -, hB, -⟩ := G
    have hB : vm.findClass "[B" = some q.SA.cls := hB
    rw [hal.findClass] at hB
    obtain ⟨k1, q1, q2⟩ := Vm.findClass_spec hB
    obtain ⟨k2, q3, q4⟩ := Vm.findClass_spec e2
    cases q1.symm.trans q3
    exact absurd (q2.symm.trans q4) (by decide)
theorem own_EW {a0 : Array Value} {Z : State} (hw : ∀ d ∈ tables_1, d.before a0 Z = true) : EW Z a0 consts_1 := (EW.cons (own := "com/example/foreground_courier/foregroundcourier/CacheStats") (index := 22) (text := "CacheStats[requests=") (w85_ hw) (by decide) (EW.cons (own := "com/example/foreground_courier/foregroundcourier/CacheStats") (index := 31) (text := ", network=") (w180_ hw) (by decide) (EW.cons (own := "com/example/foreground_courier/foregroundcourier/CacheStats") (index := 33) (text := ", hits=") (w181_ hw) (by decide) (EW.cons (own := "com/example/foreground_courier/foregroundcourier/CacheStats") (index := 35) (text := "]") (w182_ hw) (by decide) EW.nil))))
abbrev own_at (l : List Int32) (j : Int32) : Int32 := l.getD j.toNatClampNeg 0
theorem own_atV (l : List Int32) (j : Int32) : (l.map Value.int).getD j.toNatClampNeg (.int 0) = .int (own_at l j) := by
  simp only [own_at, List.getD_eq_getElem?_getD, List.getElem?_map]
  cases l[j.toNatClampNeg]? <;> rfl
theorem own_loop1 {G : Prop} (μ : Int32 → Nat) (I : State → List Loc → Int32 → Prop) (step : ∀ T L i, I T L i → (∀ T' L' i', μ i' < μ i → I T' L' i' → G) → G) (T : State) (L : List Loc) (i : Int32) (h : I T L i) : G := by
  have : ∀ k T L i, μ i = k → I T L i → G := by
    intro k
    induction k using Nat.strongRecOn with
    | ind k ih =>
      intro T L i hk hI
      exact step T L i hI (fun T' L' i' hlt hI' => ih (μ i') (hk ▸ hlt) T' L' i' rfl hI')
  exact this _ T L i rfl h
def own_dgF : Nat → Nat → List Int32
  | 0, n => [Int32.ofNat (48 + n % 10)]
  | f + 1, n => if n < 10 then [Int32.ofNat (48 + n % 10)] else own_dgF f (n / 10) ++ [Int32.ofNat (48 + n % 10)]
def own_digs (n : Nat) : List Int32 := own_dgF 9 n
def own_abs (x : Int32) : Nat := x.toInt.natAbs
def own_dec (x : Int32) : List Int32 := (if x < 0 then [(45 : Int32)] else []) ++ own_digs (own_abs x)
def own_wd (x : Int32) : Int32 := Int32.ofNat (own_dec x).length
theorem own_dk1 {n : Nat} (h2 : n < 10) : own_digs n = ([Int32.ofNat (48 + n % 10)] : List Int32) := by
  rw [own_digs, own_dgF, if_pos (by omega : n < 10)]
theorem own_lk1 {n : Nat} (h2 : n < 10) : (own_digs n).length = 1 := by rw [own_dk1 h2]; rfl
theorem own_dk2 {n : Nat} (h1 : 10 ≤ n) (h2 : n < 100) : own_digs n = ([Int32.ofNat (48 + (n / 10) % 10), Int32.ofNat (48 + n % 10)] : List Int32) := by
  rw [own_digs, own_dgF, if_neg (by omega : ¬ n < 10), own_dgF, if_pos (by omega : n / 10 < 10)]
  rfl
theorem own_lk2 {n : Nat} (h1 : 10 ≤ n) (h2 : n < 100) : (own_digs n).length = 2 := by rw [own_dk2 h1 h2]; rfl
theorem own_dk3 {n : Nat} (h1 : 100 ≤ n) (h2 : n < 1000) : own_digs n = ([Int32.ofNat (48 + (n / 10 / 10) % 10), Int32.ofNat (48 + (n / 10) % 10), Int32.ofNat (48 + n % 10)] : List Int32) := by
  rw [own_digs, own_dgF, if_neg (by omega : ¬ n < 10), own_dgF, if_neg (by omega : ¬ n / 10 < 10), own_dgF, if_pos (by omega : n / 10 / 10 < 10)]
  rfl
theorem own_lk3 {n : Nat} (h1 : 100 ≤ n) (h2 : n < 1000) : (own_digs n).length = 3 := by rw [own_dk3 h1 h2]; rfl
theorem own_dk4 {n : Nat} (h1 : 1000 ≤ n) (h2 : n < 10000) : own_digs n = ([Int32.ofNat (48 + (n / 10 / 10 / 10) % 10), Int32.ofNat (48 + (n / 10 / 10) % 10), Int32.ofNat (48 + (n / 10) % 10), Int32.ofNat (48 + n % 10)] : List Int32) := by
  rw [own_digs, own_dgF, if_neg (by omega : ¬ n < 10), own_dgF, if_neg (by omega : ¬ n / 10 < 10), own_dgF, if_neg (by omega : ¬ n / 10 / 10 < 10), own_dgF, if_pos (by omega : n / 10 / 10 / 10 < 10)]
  rfl
theorem own_lk4 {n : Nat} (h1 : 1000 ≤ n) (h2 : n < 10000) : (own_digs n).length = 4 := by rw [own_dk4 h1 h2]; rfl
theorem own_dk5 {n : Nat} (h1 : 10000 ≤ n) (h2 : n < 100000) : own_digs n = ([Int32.ofNat (48 + (n / 10 / 10 / 10 / 10) % 10), Int32.ofNat (48 + (n / 10 / 10 / 10) % 10), Int32.ofNat (48 + (n / 10 / 10) % 10), Int32.ofNat (48 + (n / 10) % 10), Int32.ofNat (48 + n % 10)] : List Int32) := by
  rw [own_digs, own_dgF, if_neg (by omega : ¬ n < 10), own_dgF, if_neg (by omega : ¬ n / 10 < 10), own_dgF, if_neg (by omega : ¬ n / 10 / 10 < 10), own_dgF, if_neg (by omega : ¬ n / 10 / 10 / 10 < 10), own_dgF, if_pos (by omega : n / 10 / 10 / 10 / 10 < 10)]
  rfl
theorem own_lk5 {n : Nat} (h1 : 10000 ≤ n) (h2 : n < 100000) : (own_digs n).length = 5 := by rw [own_dk5 h1 h2]; rfl
theorem own_dk6 {n : Nat} (h1 : 100000 ≤ n) (h2 : n < 1000000) : own_digs n = ([Int32.ofNat (48 + (n / 10 / 10 / 10 / 10 / 10) % 10), Int32.ofNat (48 + (n / 10 / 10 / 10 / 10) % 10), Int32.ofNat (48 + (n / 10 / 10 / 10) % 10), Int32.ofNat (48 + (n / 10 / 10) % 10), Int32.ofNat (48 + (n / 10) % 10), Int32.ofNat (48 + n % 10)] : List Int32) := by
  rw [own_digs, own_dgF, if_neg (by omega : ¬ n < 10), own_dgF, if_neg (by omega : ¬ n / 10 < 10), own_dgF, if_neg (by omega : ¬ n / 10 / 10 < 10), own_dgF, if_neg (by omega : ¬ n / 10 / 10 / 10 < 10), own_dgF, if_neg (by omega : ¬ n / 10 / 10 / 10 / 10 < 10), own_dgF, if_pos (by omega : n / 10 / 10 / 10 / 10 / 10 < 10)]
  rfl
theorem own_lk6 {n : Nat} (h1 : 100000 ≤ n) (h2 : n < 1000000) : (own_digs n).length = 6 := by rw [own_dk6 h1 h2]; rfl
theorem own_dk7 {n : Nat} (h1 : 1000000 ≤ n) (h2 : n < 10000000) : own_digs n = ([Int32.ofNat (48 + (n / 10 / 10 / 10 / 10 / 10 / 10) % 10), Int32.ofNat (48 + (n / 10 / 10 / 10 / 10 / 10) % 10), Int32.ofNat (48 + (n / 10 / 10 / 10 / 10) % 10), Int32.ofNat (48 + (n / 10 / 10 / 10) % 10), Int32.ofNat (48 + (n / 10 / 10) % 10), Int32.ofNat (48 + (n / 10) % 10), Int32.ofNat (48 + n % 10)] : List Int32) := by
  rw [own_digs, own_dgF, if_neg (by omega : ¬ n < 10), own_dgF, if_neg (by omega : ¬ n / 10 < 10), own_dgF, if_neg (by omega : ¬ n / 10 / 10 < 10), own_dgF, if_neg (by omega : ¬ n / 10 / 10 / 10 < 10), own_dgF, if_neg (by omega : ¬ n / 10 / 10 / 10 / 10 < 10), own_dgF, if_neg (by omega : ¬ n / 10 / 10 / 10 / 10 / 10 < 10), own_dgF, if_pos (by omega : n / 10 / 10 / 10 / 10 / 10 / 10 < 10)]
  rfl
theorem own_lk7 {n : Nat} (h1 : 1000000 ≤ n) (h2 : n < 10000000) : (own_digs n).length = 7 := by rw [own_dk7 h1 h2]; rfl
theorem own_dk8 {n : Nat} (h1 : 10000000 ≤ n) (h2 : n < 100000000) : own_digs n = ([Int32.ofNat (48 + (n / 10 / 10 / 10 / 10 / 10 / 10 / 10) % 10), Int32.ofNat (48 + (n / 10 / 10 / 10 / 10 / 10 / 10) % 10), Int32.ofNat (48 + (n / 10 / 10 / 10 / 10 / 10) % 10), Int32.ofNat (48 + (n / 10 / 10 / 10 / 10) % 10), Int32.ofNat (48 + (n / 10 / 10 / 10) % 10), Int32.ofNat (48 + (n / 10 / 10) % 10), Int32.ofNat (48 + (n / 10) % 10), Int32.ofNat (48 + n % 10)] : List Int32) := by
  rw [own_digs, own_dgF, if_neg (by omega : ¬ n < 10), own_dgF, if_neg (by omega : ¬ n / 10 < 10), own_dgF, if_neg (by omega : ¬ n / 10 / 10 < 10), own_dgF, if_neg (by omega : ¬ n / 10 / 10 / 10 < 10), own_dgF, if_neg (by omega : ¬ n / 10 / 10 / 10 / 10 < 10), own_dgF, if_neg (by omega : ¬ n / 10 / 10 / 10 / 10 / 10 < 10), own_dgF, if_neg (by omega : ¬ n / 10 / 10 / 10 / 10 / 10 / 10 < 10), own_dgF, if_pos (by omega : n / 10 / 10 / 10 / 10 / 10 / 10 / 10 < 10)]
  rfl
theorem own_lk8 {n : Nat} (h1 : 10000000 ≤ n) (h2 : n < 100000000) : (own_digs n).length = 8 := by rw [own_dk8 h1 h2]; rfl
theorem own_dk9 {n : Nat} (h1 : 100000000 ≤ n) (h2 : n < 1000000000) : own_digs n = ([Int32.ofNat (48 + (n / 10 / 10 / 10 / 10 / 10 / 10 / 10 / 10) % 10), Int32.ofNat (48 + (n / 10 / 10 / 10 / 10 / 10 / 10 / 10) % 10), Int32.ofNat (48 + (n / 10 / 10 / 10 / 10 / 10 / 10) % 10), Int32.ofNat (48 + (n / 10 / 10 / 10 / 10 / 10) % 10), Int32.ofNat (48 + (n / 10 / 10 / 10 / 10) % 10), Int32.ofNat (48 + (n / 10 / 10 / 10) % 10), Int32.ofNat (48 + (n / 10 / 10) % 10), Int32.ofNat (48 + (n / 10) % 10), Int32.ofNat (48 + n % 10)] : List Int32) := by
  rw [own_digs, own_dgF, if_neg (by omega : ¬ n < 10), own_dgF, if_neg (by omega : ¬ n / 10 < 10), own_dgF, if_neg (by omega : ¬ n / 10 / 10 < 10), own_dgF, if_neg (by omega : ¬ n / 10 / 10 / 10 < 10), own_dgF, if_neg (by omega : ¬ n / 10 / 10 / 10 / 10 < 10), own_dgF, if_neg (by omega : ¬ n / 10 / 10 / 10 / 10 / 10 < 10), own_dgF, if_neg (by omega : ¬ n / 10 / 10 / 10 / 10 / 10 / 10 < 10), own_dgF, if_neg (by omega : ¬ n / 10 / 10 / 10 / 10 / 10 / 10 / 10 < 10), own_dgF, if_pos (by omega : n / 10 / 10 / 10 / 10 / 10 / 10 / 10 / 10 < 10)]
  rfl
theorem own_lk9 {n : Nat} (h1 : 100000000 ≤ n) (h2 : n < 1000000000) : (own_digs n).length = 9 := by rw [own_dk9 h1 h2]; rfl
theorem own_dk10 {n : Nat} (h1 : 1000000000 ≤ n) (h2 : n < 10000000000) : own_digs n = ([Int32.ofNat (48 + (n / 10 / 10 / 10 / 10 / 10 / 10 / 10 / 10 / 10) % 10), Int32.ofNat (48 + (n / 10 / 10 / 10 / 10 / 10 / 10 / 10 / 10) % 10), Int32.ofNat (48 + (n / 10 / 10 / 10 / 10 / 10 / 10 / 10) % 10), Int32.ofNat (48 + (n / 10 / 10 / 10 / 10 / 10 / 10) % 10), Int32.ofNat (48 + (n / 10 / 10 / 10 / 10 / 10) % 10), Int32.ofNat (48 + (n / 10 / 10 / 10 / 10) % 10), Int32.ofNat (48 + (n / 10 / 10 / 10) % 10), Int32.ofNat (48 + (n / 10 / 10) % 10), Int32.ofNat (48 + (n / 10) % 10), Int32.ofNat (48 + n % 10)] : List Int32) := by
  rw [own_digs, own_dgF, if_neg (by omega : ¬ n < 10), own_dgF, if_neg (by omega : ¬ n / 10 < 10), own_dgF, if_neg (by omega : ¬ n / 10 / 10 < 10), own_dgF, if_neg (by omega : ¬ n / 10 / 10 / 10 < 10), own_dgF, if_neg (by omega : ¬ n / 10 / 10 / 10 / 10 < 10), own_dgF, if_neg (by omega : ¬ n / 10 / 10 / 10 / 10 / 10 < 10), own_dgF, if_neg (by omega : ¬ n / 10 / 10 / 10 / 10 / 10 / 10 < 10), own_dgF, if_neg (by omega : ¬ n / 10 / 10 / 10 / 10 / 10 / 10 / 10 < 10), own_dgF, if_neg (by omega : ¬ n / 10 / 10 / 10 / 10 / 10 / 10 / 10 / 10 < 10), own_dgF]
  rfl
theorem own_lk10 {n : Nat} (h1 : 1000000000 ≤ n) (h2 : n < 10000000000) : (own_digs n).length = 10 := by rw [own_dk10 h1 h2]; rfl
theorem own_dgF_len (f : Nat) : ∀ n, 1 ≤ (own_dgF f n).length ∧ (own_dgF f n).length ≤ f + 1 := by
  induction f with
  | zero => intro n; simp [own_dgF]
  | succ f ih =>
    intro n
    rw [own_dgF]
    split
    · simp
    · have := ih (n / 10); rw [List.length_append]; simp only [List.length_singleton]; omega
theorem own_digs_len (n : Nat) : 1 ≤ (own_digs n).length ∧ (own_digs n).length ≤ 10 := own_dgF_len 9 n
theorem own_dec_len (x : Int32) : 1 ≤ (own_dec x).length ∧ (own_dec x).length ≤ 11 := by
  have := own_digs_len (own_abs x)
  rw [own_dec, List.length_append]
  split <;> simp <;> omega
theorem own_dg_lat (m : Nat) : ¬ Int32.ofNat (48 + m % 10) < 0 ∧ ¬ (127 : Int32) < Int32.ofNat (48 + m % 10) := by
  have e0 : (0 : Int32).toInt = 0 := rfl
  have e1 : (127 : Int32).toInt = 127 := rfl
  rw [Int32.lt_iff_toInt_lt, Int32.lt_iff_toInt_lt, e0, e1, Int32.toInt_ofNat_small (by omega)]; omega
theorem own_dgF_lat (f : Nat) : ∀ n, ∀ c ∈ own_dgF f n, ¬ c < 0 ∧ ¬ (127 : Int32) < c := by
  induction f with
  | zero => intro n c hc; rw [own_dgF, List.mem_singleton] at hc; rw [hc]; exact own_dg_lat n
  | succ f ih =>
    intro n c hc
    rw [own_dgF] at hc
    split at hc
    · rw [List.mem_singleton] at hc; rw [hc]; exact own_dg_lat n
    · rcases List.mem_append.mp hc with q | q
      · exact ih _ c q
      · rw [List.mem_singleton] at q; rw [q]; exact own_dg_lat n
theorem own_dec_lat (x : Int32) : ∀ c ∈ own_dec x, ¬ c < 0 ∧ ¬ (127 : Int32) < c := fun c hc => by
  rcases List.mem_append.mp hc with q | q
  · split at q
    · rw [List.mem_singleton] at q; rw [q]; decide
    · exact absurd q (List.not_mem_nil)
  · exact own_dgF_lat _ _ c q
theorem own_neg32 {x : Int32} (h : ¬ x.toInt < 0) : (-x).toInt = -x.toInt := by
  have b2 := x.toInt_lt
  rw [Int32.toInt_neg, XT.bmod32 (by constructor <;> omega)]
theorem own_64lt (x : Int32) : (x.toInt64 < 0) ↔ x < 0 := by
  have e0 : (0 : Int64).toInt = 0 := rfl
  have e1 : (0 : Int32).toInt = 0 := rfl
  rw [Int64.lt_iff_toInt_lt, Int32.lt_iff_toInt_lt, e0, e1, Int32.toInt_toInt64]
theorem own_neg64 (x : Int32) : (-x.toInt64).toInt = -x.toInt := by
  have b1 := x.le_toInt
  have b2 := x.toInt_lt
  rw [Int64.toInt_neg, Int32.toInt_toInt64, XT.bmod64 (by constructor <;> omega)]
theorem own_n0 {x : Int32} (h : x.toInt64 < 0) : ¬ (-x.toInt64) < 0 := by
  have e0 : (0 : Int64).toInt = 0 := rfl
  rw [Int64.lt_iff_toInt_lt, e0, Int32.toInt_toInt64] at h
  rw [Int64.lt_iff_toInt_lt, e0, own_neg64]; omega
theorem own_nb (x : Int32) : ¬ (2147483648 : Int64) < (-x.toInt64) := by
  have b1 := x.le_toInt
  have e0 : (2147483648 : Int64).toInt = 2147483648 := rfl
  rw [Int64.lt_iff_toInt_lt, e0, own_neg64]; omega
theorem own_pb (x : Int32) : ¬ (2147483648 : Int64) < x.toInt64 := by
  have b1 := x.toInt_lt
  have e0 : (2147483648 : Int64).toInt = 2147483648 := rfl
  rw [Int64.lt_iff_toInt_lt, e0, Int32.toInt_toInt64]; omega
def own_ld (v : Int64) : Int32 := Int32.ofNat (own_digs v.toInt.toNat).length
theorem own_ldk1 {v : Int64} (h0 : ¬ v < 0) (h2 : v < (10 : Int64)) : own_ld v = (1 : Int32) := by
  have e0 : (0 : Int64).toInt = 0 := rfl
  rw [Int64.lt_iff_toInt_lt, e0] at h0
  have e2 : (10 : Int64).toInt = 10 := rfl
  rw [Int64.lt_iff_toInt_lt, e2] at h2
  rw [own_ld, own_lk1 (by omega)]; rfl
theorem own_ssN1 {x : Int32} (h : x < 0) (h2 : (-10 : Int32) < x) : own_wd x = (2 : Int32) := by
  have e0 : (0 : Int32).toInt = 0 := rfl
  have g := h
  rw [Int32.lt_iff_toInt_lt, e0] at g
  have b1 := x.le_toInt
  have b2 := x.toInt_lt
  have eh2 : (-10 : Int32).toInt = -10 := rfl
  rw [Int32.lt_iff_toInt_lt, eh2] at h2
  rw [own_wd, own_dec, if_pos h, List.length_append, own_lk1 (by simp only [own_abs]; omega)]; rfl
theorem own_ssP1 {x : Int32} (h : ¬ x < 0) (h2 : (-10 : Int32) < (-x)) : own_wd x = (1 : Int32) := by
  have e0 : (0 : Int32).toInt = 0 := rfl
  have g := h
  rw [Int32.lt_iff_toInt_lt, e0] at g
  have b1 := x.le_toInt
  have b2 := x.toInt_lt
  have en : (-x).toInt = -x.toInt := own_neg32 g
  have eh2 : (-10 : Int32).toInt = -10 := rfl
  rw [Int32.lt_iff_toInt_lt, eh2, en] at h2
  rw [own_wd, own_dec, if_neg h, List.length_append, own_lk1 (by simp only [own_abs]; omega)]; rfl
theorem own_ldk2 {v : Int64} (h0 : ¬ v < 0) (h1 : ¬ v < (10 : Int64)) (h2 : v < (100 : Int64)) : own_ld v = (2 : Int32) := by
  have e0 : (0 : Int64).toInt = 0 := rfl
  rw [Int64.lt_iff_toInt_lt, e0] at h0
  have e1 : (10 : Int64).toInt = 10 := rfl
  rw [Int64.lt_iff_toInt_lt, e1] at h1
  have e2 : (100 : Int64).toInt = 100 := rfl
  rw [Int64.lt_iff_toInt_lt, e2] at h2
  rw [own_ld, own_lk2 (by omega) (by omega)]; rfl
theorem own_ssN2 {x : Int32} (h : x < 0) (h1 : ¬ (-10 : Int32) < x) (h2 : (-100 : Int32) < x) : own_wd x = (3 : Int32) := by
  have e0 : (0 : Int32).toInt = 0 := rfl
  have g := h
  rw [Int32.lt_iff_toInt_lt, e0] at g
  have b1 := x.le_toInt
  have b2 := x.toInt_lt
  have eh1 : (-10 : Int32).toInt = -10 := rfl
  rw [Int32.lt_iff_toInt_lt, eh1] at h1
  have eh2 : (-100 : Int32).toInt = -100 := rfl
  rw [Int32.lt_iff_toInt_lt, eh2] at h2
  rw [own_wd, own_dec, if_pos h, List.length_append, own_lk2 (by simp only [own_abs]; omega) (by simp only [own_abs]; omega)]; rfl
theorem own_ssP2 {x : Int32} (h : ¬ x < 0) (h1 : ¬ (-10 : Int32) < (-x)) (h2 : (-100 : Int32) < (-x)) : own_wd x = (2 : Int32) := by
  have e0 : (0 : Int32).toInt = 0 := rfl
  have g := h
  rw [Int32.lt_iff_toInt_lt, e0] at g
  have b1 := x.le_toInt
  have b2 := x.toInt_lt
  have en : (-x).toInt = -x.toInt := own_neg32 g
  have eh1 : (-10 : Int32).toInt = -10 := rfl
  rw [Int32.lt_iff_toInt_lt, eh1, en] at h1
  have eh2 : (-100 : Int32).toInt = -100 := rfl
  rw [Int32.lt_iff_toInt_lt, eh2, en] at h2
  rw [own_wd, own_dec, if_neg h, List.length_append, own_lk2 (by simp only [own_abs]; omega) (by simp only [own_abs]; omega)]; rfl
theorem own_ldk3 {v : Int64} (h0 : ¬ v < 0) (h1 : ¬ v < (100 : Int64)) (h2 : v < (1000 : Int64)) : own_ld v = (3 : Int32) := by
  have e0 : (0 : Int64).toInt = 0 := rfl
  rw [Int64.lt_iff_toInt_lt, e0] at h0
  have e1 : (100 : Int64).toInt = 100 := rfl
  rw [Int64.lt_iff_toInt_lt, e1] at h1
  have e2 : (1000 : Int64).toInt = 1000 := rfl
  rw [Int64.lt_iff_toInt_lt, e2] at h2
  rw [own_ld, own_lk3 (by omega) (by omega)]; rfl
theorem own_ssN3 {x : Int32} (h : x < 0) (h1 : ¬ (-100 : Int32) < x) (h2 : (-1000 : Int32) < x) : own_wd x = (4 : Int32) := by
  have e0 : (0 : Int32).toInt = 0 := rfl
  have g := h
  rw [Int32.lt_iff_toInt_lt, e0] at g
  have b1 := x.le_toInt
  have b2 := x.toInt_lt
  have eh1 : (-100 : Int32).toInt = -100 := rfl
  rw [Int32.lt_iff_toInt_lt, eh1] at h1
  have eh2 : (-1000 : Int32).toInt = -1000 := rfl
  rw [Int32.lt_iff_toInt_lt, eh2] at h2
  rw [own_wd, own_dec, if_pos h, List.length_append, own_lk3 (by simp only [own_abs]; omega) (by simp only [own_abs]; omega)]; rfl
theorem own_ssP3 {x : Int32} (h : ¬ x < 0) (h1 : ¬ (-100 : Int32) < (-x)) (h2 : (-1000 : Int32) < (-x)) : own_wd x = (3 : Int32) := by
  have e0 : (0 : Int32).toInt = 0 := rfl
  have g := h
  rw [Int32.lt_iff_toInt_lt, e0] at g
  have b1 := x.le_toInt
  have b2 := x.toInt_lt
  have en : (-x).toInt = -x.toInt := own_neg32 g
  have eh1 : (-100 : Int32).toInt = -100 := rfl
  rw [Int32.lt_iff_toInt_lt, eh1, en] at h1
  have eh2 : (-1000 : Int32).toInt = -1000 := rfl
  rw [Int32.lt_iff_toInt_lt, eh2, en] at h2
  rw [own_wd, own_dec, if_neg h, List.length_append, own_lk3 (by simp only [own_abs]; omega) (by simp only [own_abs]; omega)]; rfl
theorem own_ldk4 {v : Int64} (h0 : ¬ v < 0) (h1 : ¬ v < (1000 : Int64)) (h2 : v < (10000 : Int64)) : own_ld v = (4 : Int32) := by
  have e0 : (0 : Int64).toInt = 0 := rfl
  rw [Int64.lt_iff_toInt_lt, e0] at h0
  have e1 : (1000 : Int64).toInt = 1000 := rfl
  rw [Int64.lt_iff_toInt_lt, e1] at h1
  have e2 : (10000 : Int64).toInt = 10000 := rfl
  rw [Int64.lt_iff_toInt_lt, e2] at h2
  rw [own_ld, own_lk4 (by omega) (by omega)]; rfl
theorem own_ssN4 {x : Int32} (h : x < 0) (h1 : ¬ (-1000 : Int32) < x) (h2 : (-10000 : Int32) < x) : own_wd x = (5 : Int32) := by
  have e0 : (0 : Int32).toInt = 0 := rfl
  have g := h
  rw [Int32.lt_iff_toInt_lt, e0] at g
  have b1 := x.le_toInt
  have b2 := x.toInt_lt
  have eh1 : (-1000 : Int32).toInt = -1000 := rfl
  rw [Int32.lt_iff_toInt_lt, eh1] at h1
  have eh2 : (-10000 : Int32).toInt = -10000 := rfl
  rw [Int32.lt_iff_toInt_lt, eh2] at h2
  rw [own_wd, own_dec, if_pos h, List.length_append, own_lk4 (by simp only [own_abs]; omega) (by simp only [own_abs]; omega)]; rfl
theorem own_ssP4 {x : Int32} (h : ¬ x < 0) (h1 : ¬ (-1000 : Int32) < (-x)) (h2 : (-10000 : Int32) < (-x)) : own_wd x = (4 : Int32) := by
  have e0 : (0 : Int32).toInt = 0 := rfl
  have g := h
  rw [Int32.lt_iff_toInt_lt, e0] at g
  have b1 := x.le_toInt
  have b2 := x.toInt_lt
  have en : (-x).toInt = -x.toInt := own_neg32 g
  have eh1 : (-1000 : Int32).toInt = -1000 := rfl
  rw [Int32.lt_iff_toInt_lt, eh1, en] at h1
  have eh2 : (-10000 : Int32).toInt = -10000 := rfl
  rw [Int32.lt_iff_toInt_lt, eh2, en] at h2
  rw [own_wd, own_dec, if_neg h, List.length_append, own_lk4 (by simp only [own_abs]; omega) (by simp only [own_abs]; omega)]; rfl
theorem own_ldk5 {v : Int64} (h0 : ¬ v < 0) (h1 : ¬ v < (10000 : Int64)) (h2 : v < (100000 : Int64)) : own_ld v = (5 : Int32) := by
  have e0 : (0 : Int64).toInt = 0 := rfl
  rw [Int64.lt_iff_toInt_lt, e0] at h0
  have e1 : (10000 : Int64).toInt = 10000 := rfl
  rw [Int64.lt_iff_toInt_lt, e1] at h1
  have e2 : (100000 : Int64).toInt = 100000 := rfl
  rw [Int64.lt_iff_toInt_lt, e2] at h2
  rw [own_ld, own_lk5 (by omega) (by omega)]; rfl
theorem own_ssN5 {x : Int32} (h : x < 0) (h1 : ¬ (-10000 : Int32) < x) (h2 : (-100000 : Int32) < x) : own_wd x = (6 : Int32) := by
  have e0 : (0 : Int32).toInt = 0 := rfl
  have g := h
  rw [Int32.lt_iff_toInt_lt, e0] at g
  have b1 := x.le_toInt
  have b2 := x.toInt_lt
  have eh1 : (-10000 : Int32).toInt = -10000 := rfl
  rw [Int32.lt_iff_toInt_lt, eh1] at h1
  have eh2 : (-100000 : Int32).toInt = -100000 := rfl
  rw [Int32.lt_iff_toInt_lt, eh2] at h2
  rw [own_wd, own_dec, if_pos h, List.length_append, own_lk5 (by simp only [own_abs]; omega) (by simp only [own_abs]; omega)]; rfl
theorem own_ssP5 {x : Int32} (h : ¬ x < 0) (h1 : ¬ (-10000 : Int32) < (-x)) (h2 : (-100000 : Int32) < (-x)) : own_wd x = (5 : Int32) := by
  have e0 : (0 : Int32).toInt = 0 := rfl
  have g := h
  rw [Int32.lt_iff_toInt_lt, e0] at g
  have b1 := x.le_toInt
  have b2 := x.toInt_lt
  have en : (-x).toInt = -x.toInt := own_neg32 g
  have eh1 : (-10000 : Int32).toInt = -10000 := rfl
  rw [Int32.lt_iff_toInt_lt, eh1, en] at h1
  have eh2 : (-100000 : Int32).toInt = -100000 := rfl
  rw [Int32.lt_iff_toInt_lt, eh2, en] at h2
  rw [own_wd, own_dec, if_neg h, List.length_append, own_lk5 (by simp only [own_abs]; omega) (by simp only [own_abs]; omega)]; rfl
theorem own_ldk6 {v : Int64} (h0 : ¬ v < 0) (h1 : ¬ v < (100000 : Int64)) (h2 : v < (1000000 : Int64)) : own_ld v = (6 : Int32) := by
  have e0 : (0 : Int64).toInt = 0 := rfl
  rw [Int64.lt_iff_toInt_lt, e0] at h0
  have e1 : (100000 : Int64).toInt = 100000 := rfl
  rw [Int64.lt_iff_toInt_lt, e1] at h1
  have e2 : (1000000 : Int64).toInt = 1000000 := rfl
  rw [Int64.lt_iff_toInt_lt, e2] at h2
  rw [own_ld, own_lk6 (by omega) (by omega)]; rfl
theorem own_ssN6 {x : Int32} (h : x < 0) (h1 : ¬ (-100000 : Int32) < x) (h2 : (-1000000 : Int32) < x) : own_wd x = (7 : Int32) := by
  have e0 : (0 : Int32).toInt = 0 := rfl
  have g := h
  rw [Int32.lt_iff_toInt_lt, e0] at g
  have b1 := x.le_toInt
  have b2 := x.toInt_lt
  have eh1 : (-100000 : Int32).toInt = -100000 := rfl
  rw [Int32.lt_iff_toInt_lt, eh1] at h1
  have eh2 : (-1000000 : Int32).toInt = -1000000 := rfl
  rw [Int32.lt_iff_toInt_lt, eh2] at h2
  rw [own_wd, own_dec, if_pos h, List.length_append, own_lk6 (by simp only [own_abs]; omega) (by simp only [own_abs]; omega)]; rfl
theorem own_ssP6 {x : Int32} (h : ¬ x < 0) (h1 : ¬ (-100000 : Int32) < (-x)) (h2 : (-1000000 : Int32) < (-x)) : own_wd x = (6 : Int32) := by
  have e0 : (0 : Int32).toInt = 0 := rfl
  have g := h
  rw [Int32.lt_iff_toInt_lt, e0] at g
  have b1 := x.le_toInt
  have b2 := x.toInt_lt
  have en : (-x).toInt = -x.toInt := own_neg32 g
  have eh1 : (-100000 : Int32).toInt = -100000 := rfl
  rw [Int32.lt_iff_toInt_lt, eh1, en] at h1
  have eh2 : (-1000000 : Int32).toInt = -1000000 := rfl
  rw [Int32.lt_iff_toInt_lt, eh2, en] at h2
  rw [own_wd, own_dec, if_neg h, List.length_append, own_lk6 (by simp only [own_abs]; omega) (by simp only [own_abs]; omega)]; rfl
theorem own_ldk7 {v : Int64} (h0 : ¬ v < 0) (h1 : ¬ v < (1000000 : Int64)) (h2 : v < (10000000 : Int64)) : own_ld v = (7 : Int32) := by
  have e0 : (0 : Int64).toInt = 0 := rfl
  rw [Int64.lt_iff_toInt_lt, e0] at h0
  have e1 : (1000000 : Int64).toInt = 1000000 := rfl
  rw [Int64.lt_iff_toInt_lt, e1] at h1
  have e2 : (10000000 : Int64).toInt = 10000000 := rfl
  rw [Int64.lt_iff_toInt_lt, e2] at h2
  rw [own_ld, own_lk7 (by omega) (by omega)]; rfl
theorem own_ssN7 {x : Int32} (h : x < 0) (h1 : ¬ (-1000000 : Int32) < x) (h2 : (-10000000 : Int32) < x) : own_wd x = (8 : Int32) := by
  have e0 : (0 : Int32).toInt = 0 := rfl
  have g := h
  rw [Int32.lt_iff_toInt_lt, e0] at g
  have b1 := x.le_toInt
  have b2 := x.toInt_lt
  have eh1 : (-1000000 : Int32).toInt = -1000000 := rfl
  rw [Int32.lt_iff_toInt_lt, eh1] at h1
  have eh2 : (-10000000 : Int32).toInt = -10000000 := rfl
  rw [Int32.lt_iff_toInt_lt, eh2] at h2
  rw [own_wd, own_dec, if_pos h, List.length_append, own_lk7 (by simp only [own_abs]; omega) (by simp only [own_abs]; omega)]; rfl
theorem own_ssP7 {x : Int32} (h : ¬ x < 0) (h1 : ¬ (-1000000 : Int32) < (-x)) (h2 : (-10000000 : Int32) < (-x)) : own_wd x = (7 : Int32) := by
  have e0 : (0 : Int32).toInt = 0 := rfl
  have g := h
  rw [Int32.lt_iff_toInt_lt, e0] at g
  have b1 := x.le_toInt
  have b2 := x.toInt_lt
  have en : (-x).toInt = -x.toInt := own_neg32 g
  have eh1 : (-1000000 : Int32).toInt = -1000000 := rfl
  rw [Int32.lt_iff_toInt_lt, eh1, en] at h1
  have eh2 : (-10000000 : Int32).toInt = -10000000 := rfl
  rw [Int32.lt_iff_toInt_lt, eh2, en] at h2
  rw [own_wd, own_dec, if_neg h, List.length_append, own_lk7 (by simp only [own_abs]; omega) (by simp only [own_abs]; omega)]; rfl
theorem own_ldk8 {v : Int64} (h0 : ¬ v < 0) (h1 : ¬ v < (10000000 : Int64)) (h2 : v < (100000000 : Int64)) : own_ld v = (8 : Int32) := by
  have e0 : (0 : Int64).toInt = 0 := rfl
  rw [Int64.lt_iff_toInt_lt, e0] at h0
  have e1 : (10000000 : Int64).toInt = 10000000 := rfl
  rw [Int64.lt_iff_toInt_lt, e1] at h1
  have e2 : (100000000 : Int64).toInt = 100000000 := rfl
  rw [Int64.lt_iff_toInt_lt, e2] at h2
  rw [own_ld, own_lk8 (by omega) (by omega)]; rfl
theorem own_ssN8 {x : Int32} (h : x < 0) (h1 : ¬ (-10000000 : Int32) < x) (h2 : (-100000000 : Int32) < x) : own_wd x = (9 : Int32) := by
  have e0 : (0 : Int32).toInt = 0 := rfl
  have g := h
  rw [Int32.lt_iff_toInt_lt, e0] at g
  have b1 := x.le_toInt
  have b2 := x.toInt_lt
  have eh1 : (-10000000 : Int32).toInt = -10000000 := rfl
  rw [Int32.lt_iff_toInt_lt, eh1] at h1
  have eh2 : (-100000000 : Int32).toInt = -100000000 := rfl
  rw [Int32.lt_iff_toInt_lt, eh2] at h2
  rw [own_wd, own_dec, if_pos h, List.length_append, own_lk8 (by simp only [own_abs]; omega) (by simp only [own_abs]; omega)]; rfl
theorem own_ssP8 {x : Int32} (h : ¬ x < 0) (h1 : ¬ (-10000000 : Int32) < (-x)) (h2 : (-100000000 : Int32) < (-x)) : own_wd x = (8 : Int32) := by
  have e0 : (0 : Int32).toInt = 0 := rfl
  have g := h
  rw [Int32.lt_iff_toInt_lt, e0] at g
  have b1 := x.le_toInt
  have b2 := x.toInt_lt
  have en : (-x).toInt = -x.toInt := own_neg32 g
  have eh1 : (-10000000 : Int32).toInt = -10000000 := rfl
  rw [Int32.lt_iff_toInt_lt, eh1, en] at h1
  have eh2 : (-100000000 : Int32).toInt = -100000000 := rfl
  rw [Int32.lt_iff_toInt_lt, eh2, en] at h2
  rw [own_wd, own_dec, if_neg h, List.length_append, own_lk8 (by simp only [own_abs]; omega) (by simp only [own_abs]; omega)]; rfl
theorem own_ldk9 {v : Int64} (h0 : ¬ v < 0) (h1 : ¬ v < (100000000 : Int64)) (h2 : v < (1000000000 : Int64)) : own_ld v = (9 : Int32) := by
  have e0 : (0 : Int64).toInt = 0 := rfl
  rw [Int64.lt_iff_toInt_lt, e0] at h0
  have e1 : (100000000 : Int64).toInt = 100000000 := rfl
  rw [Int64.lt_iff_toInt_lt, e1] at h1
  have e2 : (1000000000 : Int64).toInt = 1000000000 := rfl
  rw [Int64.lt_iff_toInt_lt, e2] at h2
  rw [own_ld, own_lk9 (by omega) (by omega)]; rfl
theorem own_ssN9 {x : Int32} (h : x < 0) (h1 : ¬ (-100000000 : Int32) < x) (h2 : (-1000000000 : Int32) < x) : own_wd x = (10 : Int32) := by
  have e0 : (0 : Int32).toInt = 0 := rfl
  have g := h
  rw [Int32.lt_iff_toInt_lt, e0] at g
  have b1 := x.le_toInt
  have b2 := x.toInt_lt
  have eh1 : (-100000000 : Int32).toInt = -100000000 := rfl
  rw [Int32.lt_iff_toInt_lt, eh1] at h1
  have eh2 : (-1000000000 : Int32).toInt = -1000000000 := rfl
  rw [Int32.lt_iff_toInt_lt, eh2] at h2
  rw [own_wd, own_dec, if_pos h, List.length_append, own_lk9 (by simp only [own_abs]; omega) (by simp only [own_abs]; omega)]; rfl
theorem own_ssP9 {x : Int32} (h : ¬ x < 0) (h1 : ¬ (-100000000 : Int32) < (-x)) (h2 : (-1000000000 : Int32) < (-x)) : own_wd x = (9 : Int32) := by
  have e0 : (0 : Int32).toInt = 0 := rfl
  have g := h
  rw [Int32.lt_iff_toInt_lt, e0] at g
  have b1 := x.le_toInt
  have b2 := x.toInt_lt
  have en : (-x).toInt = -x.toInt := own_neg32 g
  have eh1 : (-100000000 : Int32).toInt = -100000000 := rfl
  rw [Int32.lt_iff_toInt_lt, eh1, en] at h1
  have eh2 : (-1000000000 : Int32).toInt = -1000000000 := rfl
  rw [Int32.lt_iff_toInt_lt, eh2, en] at h2
  rw [own_wd, own_dec, if_neg h, List.length_append, own_lk9 (by simp only [own_abs]; omega) (by simp only [own_abs]; omega)]; rfl
theorem own_ldk10 {v : Int64} (h0 : ¬ v < 0) (h1 : ¬ v < (1000000000 : Int64)) (h2 : ¬ (2147483648 : Int64) < v) : own_ld v = (10 : Int32) := by
  have e0 : (0 : Int64).toInt = 0 := rfl
  rw [Int64.lt_iff_toInt_lt, e0] at h0
  have e1 : (1000000000 : Int64).toInt = 1000000000 := rfl
  rw [Int64.lt_iff_toInt_lt, e1] at h1
  have e2 : (2147483648 : Int64).toInt = 2147483648 := rfl
  rw [Int64.lt_iff_toInt_lt, e2] at h2
  rw [own_ld, own_lk10 (by omega) (by omega)]; rfl
theorem own_ssN10 {x : Int32} (h : x < 0) (h1 : ¬ (-1000000000 : Int32) < x) : own_wd x = (11 : Int32) := by
  have e0 : (0 : Int32).toInt = 0 := rfl
  have g := h
  rw [Int32.lt_iff_toInt_lt, e0] at g
  have b1 := x.le_toInt
  have b2 := x.toInt_lt
  have eh1 : (-1000000000 : Int32).toInt = -1000000000 := rfl
  rw [Int32.lt_iff_toInt_lt, eh1] at h1
  rw [own_wd, own_dec, if_pos h, List.length_append, own_lk10 (by simp only [own_abs]; omega) (by simp only [own_abs]; omega)]; rfl
theorem own_ssP10 {x : Int32} (h : ¬ x < 0) (h1 : ¬ (-1000000000 : Int32) < (-x)) : own_wd x = (10 : Int32) := by
  have e0 : (0 : Int32).toInt = 0 := rfl
  have g := h
  rw [Int32.lt_iff_toInt_lt, e0] at g
  have b1 := x.le_toInt
  have b2 := x.toInt_lt
  have en : (-x).toInt = -x.toInt := own_neg32 g
  have eh1 : (-1000000000 : Int32).toInt = -1000000000 := rfl
  rw [Int32.lt_iff_toInt_lt, eh1, en] at h1
  rw [own_wd, own_dec, if_neg h, List.length_append, own_lk10 (by simp only [own_abs]; omega) (by simp only [own_abs]; omega)]; rfl
theorem own_wdN {x : Int32} (h : x.toInt64 < 0) : (1 : Int32) + own_ld (-x.toInt64) = own_wd x := by
  have hx := (own_64lt x).mp h
  have e0 : (0 : Int32).toInt = 0 := rfl
  have g := hx
  rw [Int32.lt_iff_toInt_lt, e0] at g
  have e : (-x.toInt64).toInt.toNat = own_abs x := by rw [own_neg64, own_abs]; omega
  rw [own_ld, own_wd, own_dec, if_pos hx, List.length_append, e, Int32.ofNat_add]; rfl
theorem own_wdP {x : Int32} (h : ¬ x.toInt64 < 0) : own_ld x.toInt64 = own_wd x := by
  have hx : ¬ x < 0 := fun q => h ((own_64lt x).mpr q)
  have e0 : (0 : Int32).toInt = 0 := rfl
  have g := hx
  rw [Int32.lt_iff_toInt_lt, e0] at g
  have e : (x.toInt64).toInt.toNat = own_abs x := by rw [Int32.toInt_toInt64, own_abs]; omega
  rw [own_ld, own_wd, own_dec, if_neg hx, e]; rfl
abbrev B_ (a : Int) : Prop := 1 ≤ a ∧ a ≤ 11
abbrev A_ (x y u z : Int) : Prop := -100000 ≤ x ∧ x ≤ 100000 ∧ -100000 ≤ y ∧ y ≤ 100000 ∧ u = z
section Lin
variable {a b d : Int32} {x y z u : Int} {A B : List Int32}
theorem own_tadd (ha : a.toInt = x) (hb : b.toInt = y) (h : A_ x y (x + y) z) : (a + b).toInt = z := by
  obtain ⟨h1, h2, h3, h4, h5⟩ := h
  rw [XT.add32 (by rw [ha, hb]; constructor <;> omega), ha, hb]; exact h5
theorem own_tsub (ha : a.toInt = x) (hb : b.toInt = y) (h : A_ x y (x - y) z) : (a - b).toInt = z := by
  obtain ⟨h1, h2, h3, h4, h5⟩ := h
  rw [XT.sub32 (by rw [ha, hb]; constructor <;> omega), ha, hb]; exact h5
theorem own_shr0 (a : Int32) : a >>> ((0 : Int32) &&& 31) = a := by
  apply Int32.toBitVec_inj.mp
  show a.toBitVec.sshiftRight 0 = a.toBitVec
  simp
theorem own_shl0 (a : Int32) : a <<< ((0 : Int32) &&& 31) = a := by
  apply Int32.toBitVec_inj.mp
  show a.toBitVec <<< 0 = a.toBitVec
  simp
theorem own_tshl (ha : a.toInt = x) : (a <<< ((0 : Int32) &&& 31)).toInt = x := by rw [own_shl0]; exact ha
theorem own_tshr (ha : a.toInt = x) : (a >>> ((0 : Int32) &&& 31)).toInt = x := by rw [own_shr0]; exact ha
theorem own_ltT (ha : a.toInt = x) (hb : b.toInt = y) (h : x < y) : a < b := by rw [Int32.lt_iff_toInt_lt, ha, hb]; exact h
theorem own_ltF (ha : a.toInt = x) (hb : b.toInt = y) (h : ¬ x < y) : ¬ a < b := by rw [Int32.lt_iff_toInt_lt, ha, hb]; exact h
theorem own_eqT (ha : a.toInt = x) (hb : b.toInt = y) (h : x = y) : a = b := Int32.toInt_inj.mp (by rw [ha, hb]; exact h)
theorem own_eqF (ha : a.toInt = x) (hb : b.toInt = y) (h : ¬ x = y) : ¬ a = b := fun q => h (by rw [← ha, ← hb, q])
theorem own_ltT' (ha : a.toInt = x) (hb : b.toInt = y) (h : a < b) : x < y := by rw [Int32.lt_iff_toInt_lt, ha, hb] at h; exact h
theorem own_ltF' (ha : a.toInt = x) (hb : b.toInt = y) (h : ¬ a < b) : ¬ (x < y) := by rw [Int32.lt_iff_toInt_lt, ha, hb] at h; exact h
theorem own_eqT' (ha : a.toInt = x) (hb : b.toInt = y) (h : a = b) : x = y := by rw [← ha, ← hb, h]
theorem own_eqF' (ha : a.toInt = x) (hb : b.toInt = y) (h : ¬ a = b) : ¬ (x = y) := fun q => h (Int32.toInt_inj.mp (by rw [ha, hb]; exact q))
theorem own_nnT (ha : a.toInt = x) (h : 0 ≤ x) : ¬ a < 0 := by
  have e0 : (0 : Int32).toInt = 0 := rfl
  rw [Int32.lt_iff_toInt_lt, ha, e0]; omega
theorem own_la (ha : (A.length : Int) = x) (hb : (B.length : Int) = y) (h : x + y = z) : ((A ++ B).length : Int) = z := by rw [List.length_append]; omega
theorem own_natT (ha : a.toInt = x) (hA : (A.length : Int) = x) : a.toNatClampNeg = A.length := by
  simp only [Int32.toNatClampNeg]; omega
theorem own_lI (ha : a.toInt = x) (hA : (A.length : Int) = x) : a.toInt = (A.length : Int) := ha.trans hA.symm
theorem own_leT (ha : a.toInt = x) {n : Nat} (h : x ≤ n) : a.toNatClampNeg ≤ n := by
  simp only [Int32.toNatClampNeg]; omega
theorem own_ofT (ha : a.toInt = x) (hA : (A.length : Int) = x) (h : x < 100000) : a = Int32.ofNat A.length := Int32.toInt_inj.mp (by rw [ha, Int32.toInt_ofNat_small (by omega)]; exact hA.symm)
theorem own_h5 (h1 : a.toInt = x) (h2 : b.toInt = y) (h3 : d.toInt = u) (h : 0 ≤ x ∧ 0 ≤ y ∧ x + y ≤ u) : a.toNatClampNeg + b.toNatClampNeg ≤ d.toNatClampNeg := by
  simp only [Int32.toNatClampNeg]; omega
theorem own_hnT (hA : (A.length : Int) = x) (h : b.toInt = y) (hs : x ≤ y) : A.length ≤ b.toNatClampNeg := by
  simp only [Int32.toNatClampNeg]; omega
theorem own_decL (hA : (A.length : Int) = x) (hB : (B.length : Int) = y) (h : d.toInt = u) (hs : x + y ≤ u) : ((A.length + B.length : Nat) : Int) ≤ d.toInt := by omega
theorem own_ix (h : d.toInt = u) (hA : (A.length : Int) = x) (hB : (B.length : Int) = y) (hs : x + y = u) : d.toInt = ((A.length + B.length : Nat) : Int) := by omega
theorem own_l9 (hA : (A.length : Int) = x) {n : Nat} (h : x ≤ n) : A.length ≤ n := by omega
theorem own_l0 (hA : (A.length : Int) = x) (h : 0 < x) : 0 < A.length := by omega
end Lin
theorem own_wI (x : Int32) : (own_wd x).toInt = ((own_dec x).length : Int) ∧ B_ (own_wd x).toInt := by
  have := own_dec_len x
  rw [own_wd, Int32.toInt_ofNat_small (by omega)]; omega
theorem own_wB (x : Int32) : B_ (own_wd x).toInt := (own_wI x).2
theorem own_wL (x : Int32) : ((own_dec x).length : Int) = (own_wd x).toInt := (own_wI x).1.symm
theorem own_wR (x : Int32) : (own_wd x).toInt = (own_wd x).toInt := rfl
def own_q (v : Int64) : Nat → Int64
  | 0 => v
  | i + 1 => own_q v i / (10 : Int64)
def own_r (v : Int64) (i : Nat) : Int64 := own_q v i - (own_q v i / (10 : Int64)) * (10 : Int64)
def own_ch (v : Int64) (i : Nat) : Int32 := ((48 : Int32) + ((own_r v i)).toInt32).toUInt32.toUInt16.toUInt32.toInt32
def own_nq (n : Nat) : Nat → Nat
  | 0 => n
  | i + 1 => own_nq n i / 10
abbrev own_wn (v : Int64) : Nat := (own_digs v.toInt.toNat).length
theorem own_nq_le (n : Nat) : ∀ i, own_nq n i ≤ n
  | 0 => Nat.le_refl _
  | i + 1 => Nat.le_trans (Nat.div_le_self _ _) (own_nq_le n i)
theorem own_div10 {a : Int64} {m : Nat} (h : a.toInt = m) (hm : m ≤ 4294967296) : (a / (10 : Int64)).toInt = ((m / 10 : Nat) : Int) := by
  have e : (10 : Int64).toInt = 10 := rfl
  have ed : (m : Int).tdiv 10 = ((m / 10 : Nat) : Int) := (Int.ofNat_tdiv m 10).symm
  rw [Int64.toInt_div, h, e, ed, XT.bmod64 (by constructor <;> omega)]
theorem own_qi {v : Int64} (h0 : ¬ v < 0) (hb : ¬ (2147483648 : Int64) < v) : ∀ i, (own_q v i).toInt = ((own_nq v.toInt.toNat i : Nat) : Int) := by
  have e0 : (0 : Int64).toInt = 0 := rfl
  have e1 : (2147483648 : Int64).toInt = 2147483648 := rfl
  rw [Int64.lt_iff_toInt_lt, e0] at h0
  rw [Int64.lt_iff_toInt_lt, e1] at hb
  intro i
  induction i with
  | zero => show v.toInt = ((v.toInt.toNat : Nat) : Int); omega
  | succ i ih =>
    have := own_nq_le v.toInt.toNat i
    exact own_div10 ih (by omega)
theorem own_ri {v : Int64} (h0 : ¬ v < 0) (hb : ¬ (2147483648 : Int64) < v) (i : Nat) : (own_r v i).toInt = ((own_nq v.toInt.toNat i % 10 : Nat) : Int) := by
  have q := own_qi h0 hb i
  have q1 := own_qi h0 hb (i + 1)
  have e0 : (0 : Int64).toInt = 0 := rfl
  have e1 : (2147483648 : Int64).toInt = 2147483648 := rfl
  have e2 : (10 : Int64).toInt = 10 := rfl
  rw [Int64.lt_iff_toInt_lt, e0] at h0
  rw [Int64.lt_iff_toInt_lt, e1] at hb
  have le := own_nq_le v.toInt.toNat i
  have q2 : (own_q v i / (10 : Int64)).toInt = ((own_nq v.toInt.toNat i / 10 : Nat) : Int) := q1
  have m1 : (own_q v i / (10 : Int64) * (10 : Int64)).toInt = ((own_nq v.toInt.toNat i / 10 : Nat) : Int) * 10 := by
    rw [Int64.toInt_mul, q2, e2, XT.bmod64 (by constructor <;> omega)]
  rw [own_r, Int64.toInt_sub, q, m1, XT.bmod64 (by constructor <;> omega)]
  omega
theorem own_chn {v : Int64} (h0 : ¬ v < 0) (hb : ¬ (2147483648 : Int64) < v) (i : Nat) : own_ch v i = Int32.ofNat (48 + own_nq v.toInt.toNat i % 10) := by
  have r := own_ri h0 hb i
  have e0 : (0 : Int32).toInt = 0 := rfl
  have e1 : (255 : Int32).toInt = 255 := rfl
  have e2 : (48 : Int32).toInt = 48 := rfl
  have n1 : ((own_r v i).toInt32).toInt = ((own_nq v.toInt.toNat i % 10 : Nat) : Int) := by rw [XT.narrowInt (by rw [r]; constructor <;> omega), r]
  have s1 : ((48 : Int32) + (own_r v i).toInt32).toInt = 48 + ((own_nq v.toInt.toNat i % 10 : Nat) : Int) := by rw [XT.add32 (by rw [n1, e2]; constructor <;> omega), n1, e2]
  have l : ¬ ((48 : Int32) + (own_r v i).toInt32) < 0 ∧ ¬ (255 : Int32) < ((48 : Int32) + (own_r v i).toInt32) := by
    rw [Int32.lt_iff_toInt_lt, Int32.lt_iff_toInt_lt, s1, e0, e1]; omega
  show nar .char ((48 : Int32) + (own_r v i).toInt32) = _
  rw [own_nar_lat l]
  apply Int32.toInt_inj.mp
  rw [s1, Int32.toInt_ofNat_small (by omega)]; omega
theorem own_ch_nar (v : Int64) (i : Nat) : nar .char (own_ch v i) = own_ch v i := own_nar_i2c _
theorem own_w1 (v : Int64) : 1 ≤ own_wn v ∧ own_wn v ≤ 10 := own_digs_len _
theorem own_ldI (v : Int64) : (own_ld v).toInt = (own_wn v : Int) := by
  have := own_digs_len v.toInt.toNat
  rw [own_ld, Int32.toInt_ofNat_small (by omega)]
theorem own_wi {v : Int64} {i : Nat} (hi : i < 1000) (h : Int32.ofNat i < own_ld v) : i + 1 ≤ own_wn v := by
  rw [Int32.lt_iff_toInt_lt, own_ldI, Int32.toInt_ofNat_small (by omega)] at h; omega
theorem own_monoW {v : Int64} {j i : Int32} (hji : ¬ i < j) (h : ¬ j < own_ld v) : ¬ i < own_ld v := by
  rw [Int32.lt_iff_toInt_lt] at *; omega
theorem own_jI {q : Int32} {L i : Nat} {v : Int64} (hq : q.toInt = L) (hL : L ≤ 1000) (hi : i + 1 ≤ own_wn v) : ((q + own_ld v) - Int32.ofNat (i + 1)).toInt = ((L + (own_wn v - (i + 1)) : Nat) : Int) := by
  have w := own_w1 v
  have e := own_ldI v
  have a : (q + own_ld v).toInt = L + own_wn v := by rw [XT.add32 (by rw [hq, e]; constructor <;> omega), hq, e]
  rw [XT.sub32 (by rw [a, Int32.toInt_ofNat_small (by omega)]; constructor <;> omega), a, Int32.toInt_ofNat_small (by omega)]; omega
theorem own_jb {q : Int32} {L i : Nat} {v : Int64} (hq : q.toInt = L) (hL : L ≤ 1000) (hi : i + 1 ≤ own_wn v) : ((q + own_ld v) - Int32.ofNat (i + 1)).toNatClampNeg = L + (own_wn v - (i + 1)) := by
  simp only [Int32.toNatClampNeg]; rw [own_jI hq hL hi]; omega
theorem own_jin {q N : Int32} {L i : Nat} {v : Int64} (hq : q.toInt = L) (hL : L ≤ 1000) (hi : i + 1 ≤ own_wn v) (hN : ((L + own_wn v : Nat) : Int) ≤ N.toInt) : ¬ ((q + own_ld v) - Int32.ofNat (i + 1)) < 0 ∧ ((q + own_ld v) - Int32.ofNat (i + 1)) < N := by
  have e0 : (0 : Int32).toInt = 0 := rfl
  rw [Int32.lt_iff_toInt_lt, Int32.lt_iff_toInt_lt, own_jI hq hL hi, e0]; omega
theorem own_lenN {x : Int32} (h : x.toInt64 < 0) : (own_dec x).length = 1 + own_wn (-x.toInt64) := by
  have hx := (own_64lt x).mp h
  have e0 : (0 : Int32).toInt = 0 := rfl
  have g := hx
  rw [Int32.lt_iff_toInt_lt, e0] at g
  have e : (-x.toInt64).toInt.toNat = own_abs x := by rw [own_neg64, own_abs]; omega
  rw [own_dec, if_pos hx, List.length_append, own_wn, e]; rfl
theorem own_lenP {x : Int32} (h : ¬ x.toInt64 < 0) : (own_dec x).length = own_wn x.toInt64 := by
  have hx : ¬ x < 0 := fun q => h ((own_64lt x).mpr q)
  have e0 : (0 : Int32).toInt = 0 := rfl
  have g := hx
  rw [Int32.lt_iff_toInt_lt, e0] at g
  have e : (x.toInt64).toInt.toNat = own_abs x := by rw [Int32.toInt_toInt64, own_abs]; omega
  rw [own_dec, if_neg hx, own_wn, e]; rfl
theorem own_decN {x : Int32} (h : x.toInt64 < 0) : own_dec x = [(45 : Int32)] ++ own_digs (-x.toInt64).toInt.toNat := by
  have hx := (own_64lt x).mp h
  have e0 : (0 : Int32).toInt = 0 := rfl
  have g := hx
  rw [Int32.lt_iff_toInt_lt, e0] at g
  have e : (-x.toInt64).toInt.toNat = own_abs x := by rw [own_neg64, own_abs]; omega
  rw [own_dec, if_pos hx, e]
theorem own_decP {x : Int32} (h : ¬ x.toInt64 < 0) : own_dec x = own_digs (x.toInt64).toInt.toNat := by
  have hx : ¬ x < 0 := fun q => h ((own_64lt x).mpr q)
  have e0 : (0 : Int32).toInt = 0 := rfl
  have g := hx
  rw [Int32.lt_iff_toInt_lt, e0] at g
  have e : (x.toInt64).toInt.toNat = own_abs x := by rw [Int32.toInt_toInt64, own_abs]; omega
  rw [own_dec, if_neg hx, e]; rfl
theorem own_eN {p x : Int32} (h : x.toInt64 < 0) : (p + (1 : Int32)) + own_ld (-x.toInt64) = p + own_wd x := by rw [← own_wdN h, Int32.add_assoc]
theorem own_eP {p x : Int32} (h : ¬ x.toInt64 < 0) : p + own_ld x.toInt64 = p + own_wd x := by rw [own_wdP h]
theorem own_mg1 {n : Nat} (hn : n < 10000000000) (w : (own_digs n).length = 1) : n < 10 := by
  by_cases q1 : n < 10
  · have := own_lk1 q1; omega
  by_cases q2 : n < 100
  · have := own_lk2 (by omega : 10 ≤ n) q2; omega
  by_cases q3 : n < 1000
  · have := own_lk3 (by omega : 100 ≤ n) q3; omega
  by_cases q4 : n < 10000
  · have := own_lk4 (by omega : 1000 ≤ n) q4; omega
  by_cases q5 : n < 100000
  · have := own_lk5 (by omega : 10000 ≤ n) q5; omega
  by_cases q6 : n < 1000000
  · have := own_lk6 (by omega : 100000 ≤ n) q6; omega
  by_cases q7 : n < 10000000
  · have := own_lk7 (by omega : 1000000 ≤ n) q7; omega
  by_cases q8 : n < 100000000
  · have := own_lk8 (by omega : 10000000 ≤ n) q8; omega
  by_cases q9 : n < 1000000000
  · have := own_lk9 (by omega : 100000000 ≤ n) q9; omega
  have := own_lk10 (by omega : 1000000000 ≤ n) hn; omega
theorem own_mg2 {n : Nat} (hn : n < 10000000000) (w : (own_digs n).length = 2) : 10 ≤ n ∧ n < 100 := by
  by_cases q1 : n < 10
  · have := own_lk1 q1; omega
  by_cases q2 : n < 100
  · have := own_lk2 (by omega : 10 ≤ n) q2; omega
  by_cases q3 : n < 1000
  · have := own_lk3 (by omega : 100 ≤ n) q3; omega
  by_cases q4 : n < 10000
  · have := own_lk4 (by omega : 1000 ≤ n) q4; omega
  by_cases q5 : n < 100000
  · have := own_lk5 (by omega : 10000 ≤ n) q5; omega
  by_cases q6 : n < 1000000
  · have := own_lk6 (by omega : 100000 ≤ n) q6; omega
  by_cases q7 : n < 10000000
  · have := own_lk7 (by omega : 1000000 ≤ n) q7; omega
  by_cases q8 : n < 100000000
  · have := own_lk8 (by omega : 10000000 ≤ n) q8; omega
  by_cases q9 : n < 1000000000
  · have := own_lk9 (by omega : 100000000 ≤ n) q9; omega
  have := own_lk10 (by omega : 1000000000 ≤ n) hn; omega
theorem own_mg3 {n : Nat} (hn : n < 10000000000) (w : (own_digs n).length = 3) : 100 ≤ n ∧ n < 1000 := by
  by_cases q1 : n < 10
  · have := own_lk1 q1; omega
  by_cases q2 : n < 100
  · have := own_lk2 (by omega : 10 ≤ n) q2; omega
  by_cases q3 : n < 1000
  · have := own_lk3 (by omega : 100 ≤ n) q3; omega
  by_cases q4 : n < 10000
  · have := own_lk4 (by omega : 1000 ≤ n) q4; omega
  by_cases q5 : n < 100000
  · have := own_lk5 (by omega : 10000 ≤ n) q5; omega
  by_cases q6 : n < 1000000
  · have := own_lk6 (by omega : 100000 ≤ n) q6; omega
  by_cases q7 : n < 10000000
  · have := own_lk7 (by omega : 1000000 ≤ n) q7; omega
  by_cases q8 : n < 100000000
  · have := own_lk8 (by omega : 10000000 ≤ n) q8; omega
  by_cases q9 : n < 1000000000
  · have := own_lk9 (by omega : 100000000 ≤ n) q9; omega
  have := own_lk10 (by omega : 1000000000 ≤ n) hn; omega
theorem own_mg4 {n : Nat} (hn : n < 10000000000) (w : (own_digs n).length = 4) : 1000 ≤ n ∧ n < 10000 := by
  by_cases q1 : n < 10
  · have := own_lk1 q1; omega
  by_cases q2 : n < 100
  · have := own_lk2 (by omega : 10 ≤ n) q2; omega
  by_cases q3 : n < 1000
  · have := own_lk3 (by omega : 100 ≤ n) q3; omega
  by_cases q4 : n < 10000
  · have := own_lk4 (by omega : 1000 ≤ n) q4; omega
  by_cases q5 : n < 100000
  · have := own_lk5 (by omega : 10000 ≤ n) q5; omega
  by_cases q6 : n < 1000000
  · have := own_lk6 (by omega : 100000 ≤ n) q6; omega
  by_cases q7 : n < 10000000
  · have := own_lk7 (by omega : 1000000 ≤ n) q7; omega
  by_cases q8 : n < 100000000
  · have := own_lk8 (by omega : 10000000 ≤ n) q8; omega
  by_cases q9 : n < 1000000000
  · have := own_lk9 (by omega : 100000000 ≤ n) q9; omega
  have := own_lk10 (by omega : 1000000000 ≤ n) hn; omega
theorem own_mg5 {n : Nat} (hn : n < 10000000000) (w : (own_digs n).length = 5) : 10000 ≤ n ∧ n < 100000 := by
  by_cases q1 : n < 10
  · have := own_lk1 q1; omega
  by_cases q2 : n < 100
  · have := own_lk2 (by omega : 10 ≤ n) q2; omega
  by_cases q3 : n < 1000
  · have := own_lk3 (by omega : 100 ≤ n) q3; omega
  by_cases q4 : n < 10000
  · have := own_lk4 (by omega : 1000 ≤ n) q4; omega
  by_cases q5 : n < 100000
  · have := own_lk5 (by omega : 10000 ≤ n) q5; omega
  by_cases q6 : n < 1000000
  · have := own_lk6 (by omega : 100000 ≤ n) q6; omega
  by_cases q7 : n < 10000000
  · have := own_lk7 (by omega : 1000000 ≤ n) q7; omega
  by_cases q8 : n < 100000000
  · have := own_lk8 (by omega : 10000000 ≤ n) q8; omega
  by_cases q9 : n < 1000000000
  · have := own_lk9 (by omega : 100000000 ≤ n) q9; omega
  have := own_lk10 (by omega : 1000000000 ≤ n) hn; omega
theorem own_mg6 {n : Nat} (hn : n < 10000000000) (w : (own_digs n).length = 6) : 100000 ≤ n ∧ n < 1000000 := by
  by_cases q1 : n < 10
  · have := own_lk1 q1; omega
  by_cases q2 : n < 100
  · have := own_lk2 (by omega : 10 ≤ n) q2; omega
  by_cases q3 : n < 1000
  · have := own_lk3 (by omega : 100 ≤ n) q3; omega
  by_cases q4 : n < 10000
  · have := own_lk4 (by omega : 1000 ≤ n) q4; omega
  by_cases q5 : n < 100000
  · have := own_lk5 (by omega : 10000 ≤ n) q5; omega
  by_cases q6 : n < 1000000
  · have := own_lk6 (by omega : 100000 ≤ n) q6; omega
  by_cases q7 : n < 10000000
  · have := own_lk7 (by omega : 1000000 ≤ n) q7; omega
  by_cases q8 : n < 100000000
  · have := own_lk8 (by omega : 10000000 ≤ n) q8; omega
  by_cases q9 : n < 1000000000
  · have := own_lk9 (by omega : 100000000 ≤ n) q9; omega
  have := own_lk10 (by omega : 1000000000 ≤ n) hn; omega
theorem own_mg7 {n : Nat} (hn : n < 10000000000) (w : (own_digs n).length = 7) : 1000000 ≤ n ∧ n < 10000000 := by
  by_cases q1 : n < 10
  · have := own_lk1 q1; omega
  by_cases q2 : n < 100
  · have := own_lk2 (by omega : 10 ≤ n) q2; omega
  by_cases q3 : n < 1000
  · have := own_lk3 (by omega : 100 ≤ n) q3; omega
  by_cases q4 : n < 10000
  · have := own_lk4 (by omega : 1000 ≤ n) q4; omega
  by_cases q5 : n < 100000
  · have := own_lk5 (by omega : 10000 ≤ n) q5; omega
  by_cases q6 : n < 1000000
  · have := own_lk6 (by omega : 100000 ≤ n) q6; omega
  by_cases q7 : n < 10000000
  · have := own_lk7 (by omega : 1000000 ≤ n) q7; omega
  by_cases q8 : n < 100000000
  · have := own_lk8 (by omega : 10000000 ≤ n) q8; omega
  by_cases q9 : n < 1000000000
  · have := own_lk9 (by omega : 100000000 ≤ n) q9; omega
  have := own_lk10 (by omega : 1000000000 ≤ n) hn; omega
theorem own_mg8 {n : Nat} (hn : n < 10000000000) (w : (own_digs n).length = 8) : 10000000 ≤ n ∧ n < 100000000 := by
  by_cases q1 : n < 10
  · have := own_lk1 q1; omega
  by_cases q2 : n < 100
  · have := own_lk2 (by omega : 10 ≤ n) q2; omega
  by_cases q3 : n < 1000
  · have := own_lk3 (by omega : 100 ≤ n) q3; omega
  by_cases q4 : n < 10000
  · have := own_lk4 (by omega : 1000 ≤ n) q4; omega
  by_cases q5 : n < 100000
  · have := own_lk5 (by omega : 10000 ≤ n) q5; omega
  by_cases q6 : n < 1000000
  · have := own_lk6 (by omega : 100000 ≤ n) q6; omega
  by_cases q7 : n < 10000000
  · have := own_lk7 (by omega : 1000000 ≤ n) q7; omega
  by_cases q8 : n < 100000000
  · have := own_lk8 (by omega : 10000000 ≤ n) q8; omega
  by_cases q9 : n < 1000000000
  · have := own_lk9 (by omega : 100000000 ≤ n) q9; omega
  have := own_lk10 (by omega : 1000000000 ≤ n) hn; omega
theorem own_mg9 {n : Nat} (hn : n < 10000000000) (w : (own_digs n).length = 9) : 100000000 ≤ n ∧ n < 1000000000 := by
  by_cases q1 : n < 10
  · have := own_lk1 q1; omega
  by_cases q2 : n < 100
  · have := own_lk2 (by omega : 10 ≤ n) q2; omega
  by_cases q3 : n < 1000
  · have := own_lk3 (by omega : 100 ≤ n) q3; omega
  by_cases q4 : n < 10000
  · have := own_lk4 (by omega : 1000 ≤ n) q4; omega
  by_cases q5 : n < 100000
  · have := own_lk5 (by omega : 10000 ≤ n) q5; omega
  by_cases q6 : n < 1000000
  · have := own_lk6 (by omega : 100000 ≤ n) q6; omega
  by_cases q7 : n < 10000000
  · have := own_lk7 (by omega : 1000000 ≤ n) q7; omega
  by_cases q8 : n < 100000000
  · have := own_lk8 (by omega : 10000000 ≤ n) q8; omega
  by_cases q9 : n < 1000000000
  · have := own_lk9 (by omega : 100000000 ≤ n) q9; omega
  have := own_lk10 (by omega : 1000000000 ≤ n) hn; omega
theorem own_mg10 {n : Nat} (hn : n < 10000000000) (w : (own_digs n).length = 10) : 1000000000 ≤ n ∧ n < 10000000000 := by
  by_cases q1 : n < 10
  · have := own_lk1 q1; omega
  by_cases q2 : n < 100
  · have := own_lk2 (by omega : 10 ≤ n) q2; omega
  by_cases q3 : n < 1000
  · have := own_lk3 (by omega : 100 ≤ n) q3; omega
  by_cases q4 : n < 10000
  · have := own_lk4 (by omega : 1000 ≤ n) q4; omega
  by_cases q5 : n < 100000
  · have := own_lk5 (by omega : 10000 ≤ n) q5; omega
  by_cases q6 : n < 1000000
  · have := own_lk6 (by omega : 100000 ≤ n) q6; omega
  by_cases q7 : n < 10000000
  · have := own_lk7 (by omega : 1000000 ≤ n) q7; omega
  by_cases q8 : n < 100000000
  · have := own_lk8 (by omega : 10000000 ≤ n) q8; omega
  by_cases q9 : n < 1000000000
  · have := own_lk9 (by omega : 100000000 ≤ n) q9; omega
  have := own_lk10 (by omega : 1000000000 ≤ n) hn; omega
def own_tl (v : Int64) : Nat → List Int32
  | 0 => []
  | j + 1 => own_ch v j :: own_tl v j
def own_st (v : Int64) (P : List Int32) (m : Nat) : List Int32 := P ++ List.replicate (own_wn v - m) 0 ++ own_tl v (min m (own_wn v))
theorem own_stT {v : Int64} {P : List Int32} {m : Nat} (h : m ≤ own_wn v) : P ++ List.replicate (own_wn v - m) 0 ++ own_tl v m = own_st v P m := by rw [own_st, Nat.min_eq_left h]
theorem own_stF {v : Int64} {P : List Int32} {k : Nat} (hk : k < 1000) (h : ¬ Int32.ofNat k < own_ld v) : own_st v P k = own_st v P (k + 1) := by
  rw [Int32.lt_iff_toInt_lt, own_ldI, Int32.toInt_ofNat_small (by omega)] at h
  rw [own_st, own_st, Nat.min_eq_right (by omega), Nat.min_eq_right (by omega), Nat.sub_eq_zero_of_le (by omega), Nat.sub_eq_zero_of_le (by omega)]
theorem own_stE {v : Int64} {P : List Int32} (h0 : ¬ v < 0) (hb : ¬ (2147483648 : Int64) < v) : own_st v P 10 = P ++ own_digs v.toInt.toNat := by
  have e0 : (0 : Int64).toInt = 0 := rfl
  have e1 : (2147483648 : Int64).toInt = 2147483648 := rfl
  have g0 := h0
  have gb := hb
  rw [Int64.lt_iff_toInt_lt, e0] at g0
  rw [Int64.lt_iff_toInt_lt, e1] at gb
  have w := own_w1 v
  have tl : own_tl v (own_wn v) = own_digs v.toInt.toNat := by
    have c : own_wn v = 1 ∨ own_wn v = 2 ∨ own_wn v = 3 ∨ own_wn v = 4 ∨ own_wn v = 5 ∨ own_wn v = 6 ∨ own_wn v = 7 ∨ own_wn v = 8 ∨ own_wn v = 9 ∨ own_wn v = 10 := by omega
    rcases c with c | c | c | c | c | c | c | c | c | c
    · rw [c, own_dk1 (own_mg1 (by omega) c)]
      show ([own_ch v 0] : List Int32) = _
      rw [own_chn h0 hb 0]; rfl
    · rw [c, own_dk2 (own_mg2 (by omega) c).1 (own_mg2 (by omega) c).2]
      show ([own_ch v 1, own_ch v 0] : List Int32) = _
      rw [own_chn h0 hb 0, own_chn h0 hb 1]; rfl
    · rw [c, own_dk3 (own_mg3 (by omega) c).1 (own_mg3 (by omega) c).2]
      show ([own_ch v 2, own_ch v 1, own_ch v 0] : List Int32) = _
      rw [own_chn h0 hb 0, own_chn h0 hb 1, own_chn h0 hb 2]; rfl
    · rw [c, own_dk4 (own_mg4 (by omega) c).1 (own_mg4 (by omega) c).2]
      show ([own_ch v 3, own_ch v 2, own_ch v 1, own_ch v 0] : List Int32) = _
      rw [own_chn h0 hb 0, own_chn h0 hb 1, own_chn h0 hb 2, own_chn h0 hb 3]; rfl
    · rw [c, own_dk5 (own_mg5 (by omega) c).1 (own_mg5 (by omega) c).2]
      show ([own_ch v 4, own_ch v 3, own_ch v 2, own_ch v 1, own_ch v 0] : List Int32) = _
      rw [own_chn h0 hb 0, own_chn h0 hb 1, own_chn h0 hb 2, own_chn h0 hb 3, own_chn h0 hb 4]; rfl
    · rw [c, own_dk6 (own_mg6 (by omega) c).1 (own_mg6 (by omega) c).2]
      show ([own_ch v 5, own_ch v 4, own_ch v 3, own_ch v 2, own_ch v 1, own_ch v 0] : List Int32) = _
      rw [own_chn h0 hb 0, own_chn h0 hb 1, own_chn h0 hb 2, own_chn h0 hb 3, own_chn h0 hb 4, own_chn h0 hb 5]; rfl
    · rw [c, own_dk7 (own_mg7 (by omega) c).1 (own_mg7 (by omega) c).2]
      show ([own_ch v 6, own_ch v 5, own_ch v 4, own_ch v 3, own_ch v 2, own_ch v 1, own_ch v 0] : List Int32) = _
      rw [own_chn h0 hb 0, own_chn h0 hb 1, own_chn h0 hb 2, own_chn h0 hb 3, own_chn h0 hb 4, own_chn h0 hb 5, own_chn h0 hb 6]; rfl
    · rw [c, own_dk8 (own_mg8 (by omega) c).1 (own_mg8 (by omega) c).2]
      show ([own_ch v 7, own_ch v 6, own_ch v 5, own_ch v 4, own_ch v 3, own_ch v 2, own_ch v 1, own_ch v 0] : List Int32) = _
      rw [own_chn h0 hb 0, own_chn h0 hb 1, own_chn h0 hb 2, own_chn h0 hb 3, own_chn h0 hb 4, own_chn h0 hb 5, own_chn h0 hb 6, own_chn h0 hb 7]; rfl
    · rw [c, own_dk9 (own_mg9 (by omega) c).1 (own_mg9 (by omega) c).2]
      show ([own_ch v 8, own_ch v 7, own_ch v 6, own_ch v 5, own_ch v 4, own_ch v 3, own_ch v 2, own_ch v 1, own_ch v 0] : List Int32) = _
      rw [own_chn h0 hb 0, own_chn h0 hb 1, own_chn h0 hb 2, own_chn h0 hb 3, own_chn h0 hb 4, own_chn h0 hb 5, own_chn h0 hb 6, own_chn h0 hb 7, own_chn h0 hb 8]; rfl
    · rw [c, own_dk10 (own_mg10 (by omega) c).1 (own_mg10 (by omega) c).2]
      show ([own_ch v 9, own_ch v 8, own_ch v 7, own_ch v 6, own_ch v 5, own_ch v 4, own_ch v 3, own_ch v 2, own_ch v 1, own_ch v 0] : List Int32) = _
      rw [own_chn h0 hb 0, own_chn h0 hb 1, own_chn h0 hb 2, own_chn h0 hb 3, own_chn h0 hb 4, own_chn h0 hb 5, own_chn h0 hb 6, own_chn h0 hb 7, own_chn h0 hb 8, own_chn h0 hb 9]; rfl
  rw [own_st, Nat.min_eq_right w.2, Nat.sub_eq_zero_of_le w.2, List.replicate_zero, List.append_nil, tl]
theorem own_j6N {x : Int32} {P : List Int32} (h : x.toInt64 < 0) : (P ++ ([45] : List Int32)) ++ own_digs (-x.toInt64).toInt.toNat = P ++ (own_dec x) := by rw [own_decN h, List.append_assoc]
theorem own_j6P {x : Int32} {P : List Int32} (h : ¬ x.toInt64 < 0) : P ++ own_digs (x.toInt64).toInt.toNat = P ++ (own_dec x) := by rw [own_decP h]
def own_ones : List Int32 := (List.range 100).map (fun i => (48 : Int32) + Nat.toInt32 i % (10 : Int32))
def own_tens : List Int32 := (List.range 100).map (fun i => (48 : Int32) + Nat.toInt32 i / (10 : Int32))
def own_iq (a : Int32) : Nat → Int32
  | 0 => a
  | i + 1 => own_iq a i / (100 : Int32)
def own_ir (a : Int32) (t : Nat) : Int32 := own_iq a (t + 1) * (100 : Int32) - own_iq a t
def own_dn (a : Int32) : Nat → Int32
  | 0 => a
  | k + 1 => own_dn a k + (-1 : Int32)
theorem own_tabs : ∀ k : Fin 100, own_ones.getD k.val 0 = Int32.ofNat (48 + k.val % 10) ∧ own_tens.getD k.val 0 = Int32.ofNat (48 + k.val / 10) := by decide +kernel
theorem own_tabn : (∀ c ∈ own_ones, nar .byte c = c) ∧ (∀ c ∈ own_tens, nar .byte c = c) := by decide +kernel
theorem own_at_nar {l : List Int32} (h : ∀ c ∈ l, nar .byte c = c) (j : Int32) : nar .byte (own_at l j) = own_at l j := by
  show nar .byte (l.getD j.toNatClampNeg 0) = l.getD j.toNatClampNeg 0
  rw [List.getD_eq_getElem?_getD]
  cases q : l[j.toNatClampNeg]? with
  | none => decide
  | some c => exact h c (List.mem_of_getElem? q)
theorem own_one {r : Int32} {m : Nat} (h : r.toInt = m) (hm : m < 100) : own_at own_ones r = Int32.ofNat (48 + m % 10) := by
  have e : r.toNatClampNeg = m := by simp only [Int32.toNatClampNeg]; omega
  show own_ones.getD r.toNatClampNeg 0 = _
  rw [e]; exact (own_tabs ⟨m, hm⟩).1
theorem own_ten {r : Int32} {m : Nat} (h : r.toInt = m) (hm : m < 100) : own_at own_tens r = Int32.ofNat (48 + m / 10) := by
  have e : r.toNatClampNeg = m := by simp only [Int32.toNatClampNeg]; omega
  show own_tens.getD r.toNatClampNeg 0 = _
  rw [e]; exact (own_tabs ⟨m, hm⟩).2
theorem own_iqI {a : Int32} {n : Nat} (h : a.toInt = -(n : Int)) (hn : n ≤ 2147483648) : ∀ t, (own_iq a t).toInt = -((own_nq n (2 * t) : Nat) : Int) := by
  intro t
  induction t with
  | zero => exact h
  | succ t ih =>
    have le := own_nq_le n (2 * t)
    have e : (100 : Int32).toInt = 100 := rfl
    have d : own_nq n (2 * (t + 1)) = own_nq n (2 * t) / 100 := by
      show own_nq n (2 * t) / 10 / 10 = _
      rw [Nat.div_div_eq_div_mul]
    have ed : (-((own_nq n (2 * t) : Nat) : Int)).tdiv 100 = -((own_nq n (2 * t) / 100 : Nat) : Int) := by
      rw [Int.neg_tdiv]; exact congrArg (fun z => -z) (Int.ofNat_tdiv _ 100).symm
    show (own_iq a t / (100 : Int32)).toInt = _
    rw [Int32.toInt_div, ih, e, ed, XT.bmod32 (by constructor <;> omega), d]
theorem own_irI {a : Int32} {n : Nat} (h : a.toInt = -(n : Int)) (hn : n ≤ 2147483648) (t : Nat) : (own_ir a t).toInt = ((own_nq n (2 * t) % 100 : Nat) : Int) := by
  have q := own_iqI h hn t
  have q1 := own_iqI h hn (t + 1)
  have le := own_nq_le n (2 * t)
  have e : (100 : Int32).toInt = 100 := rfl
  have d : own_nq n (2 * (t + 1)) = own_nq n (2 * t) / 100 := by
    show own_nq n (2 * t) / 10 / 10 = _
    rw [Nat.div_div_eq_div_mul]
  rw [d] at q1
  have m1 : (own_iq a (t + 1) * (100 : Int32)).toInt = -((own_nq n (2 * t) / 100 : Nat) : Int) * 100 := by
    rw [Int32.toInt_mul, q1, e, XT.bmod32 (by constructor <;> omega)]
  rw [own_ir, Int32.toInt_sub, q, m1, XT.bmod32 (by constructor <;> omega)]; omega
theorem own_i100 {a : Int32} {n : Nat} (h : a.toInt = -(n : Int)) (hn : n ≤ 2147483648) (t : Nat) : ((-100 : Int32) < own_iq a t) ↔ own_nq n (2 * t) < 100 := by
  have e : (-100 : Int32).toInt = -100 := rfl
  rw [Int32.lt_iff_toInt_lt, e, own_iqI h hn t]; omega
theorem own_i9 {a : Int32} {n : Nat} (h : a.toInt = -(n : Int)) (hn : n ≤ 2147483648) (t : Nat) : (own_iq a t < (-9 : Int32)) ↔ 10 ≤ own_nq n (2 * t) := by
  have e : (-9 : Int32).toInt = -9 := rfl
  rw [Int32.lt_iff_toInt_lt, e, own_iqI h hn t]; omega
theorem own_inI {a : Int32} {n : Nat} (h : a.toInt = -(n : Int)) (hn : n ≤ 2147483648) (t : Nat) (h1 : (-100 : Int32) < own_iq a t) : (-(own_iq a t)).toInt = ((own_nq n (2 * t) : Nat) : Int) := by
  have q := own_iqI h hn t
  rw [own_i100 h hn] at h1
  rw [Int32.toInt_neg, q, XT.bmod32 (by constructor <;> omega)]; omega
theorem own_absN {x : Int32} (h : x < 0) : x.toInt = -((own_abs x : Nat) : Int) ∧ own_abs x ≤ 2147483648 := by
  have e0 : (0 : Int32).toInt = 0 := rfl
  have b := x.le_toInt
  rw [Int32.lt_iff_toInt_lt, e0] at h
  rw [own_abs]; omega
theorem own_absP {x : Int32} (h : ¬ x < 0) : (-x).toInt = -((own_abs x : Nat) : Int) ∧ own_abs x ≤ 2147483648 := by
  have e0 : (0 : Int32).toInt = 0 := rfl
  have b := x.toInt_lt
  rw [Int32.lt_iff_toInt_lt, e0] at h
  rw [own_neg32 h, own_abs]; omega
theorem own_irb {a : Int32} {n : Nat} (h : a.toInt = -(n : Int) ∧ n ≤ 2147483648) (t : Nat) : ¬ own_ir a t < 0 ∧ own_ir a t < (100 : Int32) := by
  have e0 : (0 : Int32).toInt = 0 := rfl
  have e1 : (100 : Int32).toInt = 100 := rfl
  rw [Int32.lt_iff_toInt_lt, Int32.lt_iff_toInt_lt, own_irI h.1 h.2, e0, e1]; omega
theorem own_inb {a : Int32} {n : Nat} (h : a.toInt = -(n : Int) ∧ n ≤ 2147483648) (t : Nat) (h1 : (-100 : Int32) < own_iq a t) : ¬ (-(own_iq a t)) < 0 ∧ (-(own_iq a t)) < (100 : Int32) := by
  have e0 : (0 : Int32).toInt = 0 := rfl
  have e1 : (100 : Int32).toInt = 100 := rfl
  rw [Int32.lt_iff_toInt_lt, Int32.lt_iff_toInt_lt, own_inI h.1 h.2 t h1, e0, e1]
  rw [own_i100 h.1 h.2] at h1; omega
theorem own_i4 {a : Int32} {n : Nat} (h : a.toInt = -(n : Int) ∧ n ≤ 2147483648) : (-100 : Int32) < own_iq a 4 := by
  rw [own_i100 h.1 h.2]
  show n / 10 / 10 / 10 / 10 / 10 / 10 / 10 / 10 < 100
  have := h.2; omega
theorem own_dnI {i : Int32} {m : Nat} (h : i.toInt = m) (hm : m ≤ 100000) : ∀ k, k ≤ m → (own_dn i k).toInt = ((m - k : Nat) : Int) := by
  intro k
  induction k with
  | zero => intro _; rw [Nat.sub_zero]; exact h
  | succ k ih =>
    intro hk
    have e : (-1 : Int32).toInt = -1 := rfl
    show (own_dn i k + (-1 : Int32)).toInt = _
    rw [XT.add32 (by rw [ih (by omega), e]; constructor <;> omega), ih (by omega), e]; omega
theorem own_dnb {i : Int32} {L W k : Nat} (h : i.toInt = ((L + W : Nat) : Int)) (hL : L ≤ 900) (hW : W ≤ 11) (hk : k + 1 ≤ W) : (own_dn i (k + 1)).toNatClampNeg = L + (W - (k + 1)) := by
  have := own_dnI h (by omega) (k + 1) (by omega)
  simp only [Int32.toNatClampNeg]; omega
theorem own_dnin {i N : Int32} {L W k : Nat} (h : i.toInt = ((L + W : Nat) : Int)) (hL : L ≤ 900) (hW : W ≤ 11) (hk : k + 1 ≤ W) (hN : ((L + W : Nat) : Int) ≤ N.toInt) : ¬ own_dn i (k + 1) < 0 ∧ own_dn i (k + 1) < N := by
  have := own_dnI h (by omega) (k + 1) (by omega)
  have e0 : (0 : Int32).toInt = 0 := rfl
  rw [Int32.lt_iff_toInt_lt, Int32.lt_iff_toInt_lt, this, e0]; omega
theorem own_gm1 {n : Nat} (g2 : own_nq n 0 < 100) (g3 : ¬ 10 ≤ own_nq n 0) : n < 10 := by
  have e : own_nq n 0 = n := rfl
  rw [e] at g2 g3
  omega
theorem own_gm2 {n : Nat} (g2 : own_nq n 0 < 100) (g3 : 10 ≤ own_nq n 0) : 10 ≤ n ∧ n < 100 := by
  have e : own_nq n 0 = n := rfl
  rw [e] at g2 g3
  omega
theorem own_gm3 {n : Nat} (g1 : 100 ≤ own_nq n 0) (g2 : own_nq n 2 < 100) (g3 : ¬ 10 ≤ own_nq n 2) : 100 ≤ n ∧ n < 1000 := by
  have e : own_nq n 2 = n / 10 / 10 := rfl
  rw [e] at g2 g3
  have e' : own_nq n 0 = n := rfl
  rw [e'] at g1
  omega
theorem own_gm4 {n : Nat} (g1 : 100 ≤ own_nq n 0) (g2 : own_nq n 2 < 100) (g3 : 10 ≤ own_nq n 2) : 1000 ≤ n ∧ n < 10000 := by
  have e : own_nq n 2 = n / 10 / 10 := rfl
  rw [e] at g2 g3
  have e' : own_nq n 0 = n := rfl
  rw [e'] at g1
  omega
theorem own_gm5 {n : Nat} (g1 : 100 ≤ own_nq n 2) (g2 : own_nq n 4 < 100) (g3 : ¬ 10 ≤ own_nq n 4) : 10000 ≤ n ∧ n < 100000 := by
  have e : own_nq n 4 = n / 10 / 10 / 10 / 10 := rfl
  rw [e] at g2 g3
  have e' : own_nq n 2 = n / 10 / 10 := rfl
  rw [e'] at g1
  omega
theorem own_gm6 {n : Nat} (g1 : 100 ≤ own_nq n 2) (g2 : own_nq n 4 < 100) (g3 : 10 ≤ own_nq n 4) : 100000 ≤ n ∧ n < 1000000 := by
  have e : own_nq n 4 = n / 10 / 10 / 10 / 10 := rfl
  rw [e] at g2 g3
  have e' : own_nq n 2 = n / 10 / 10 := rfl
  rw [e'] at g1
  omega
theorem own_gm7 {n : Nat} (g1 : 100 ≤ own_nq n 4) (g2 : own_nq n 6 < 100) (g3 : ¬ 10 ≤ own_nq n 6) : 1000000 ≤ n ∧ n < 10000000 := by
  have e : own_nq n 6 = n / 10 / 10 / 10 / 10 / 10 / 10 := rfl
  rw [e] at g2 g3
  have e' : own_nq n 4 = n / 10 / 10 / 10 / 10 := rfl
  rw [e'] at g1
  omega
theorem own_gm8 {n : Nat} (g1 : 100 ≤ own_nq n 4) (g2 : own_nq n 6 < 100) (g3 : 10 ≤ own_nq n 6) : 10000000 ≤ n ∧ n < 100000000 := by
  have e : own_nq n 6 = n / 10 / 10 / 10 / 10 / 10 / 10 := rfl
  rw [e] at g2 g3
  have e' : own_nq n 4 = n / 10 / 10 / 10 / 10 := rfl
  rw [e'] at g1
  omega
theorem own_gm9 {n : Nat} (g1 : 100 ≤ own_nq n 6) (g2 : own_nq n 8 < 100) (g3 : ¬ 10 ≤ own_nq n 8) : 100000000 ≤ n ∧ n < 1000000000 := by
  have e : own_nq n 8 = n / 10 / 10 / 10 / 10 / 10 / 10 / 10 / 10 := rfl
  rw [e] at g2 g3
  have e' : own_nq n 6 = n / 10 / 10 / 10 / 10 / 10 / 10 := rfl
  rw [e'] at g1
  omega
theorem own_gm10 {n : Nat} (g1 : 100 ≤ own_nq n 6) (g2 : own_nq n 8 < 100) (g3 : 10 ≤ own_nq n 8) : 1000000000 ≤ n ∧ n < 10000000000 := by
  have e : own_nq n 8 = n / 10 / 10 / 10 / 10 / 10 / 10 / 10 / 10 := rfl
  rw [e] at g2 g3
  have e' : own_nq n 6 = n / 10 / 10 / 10 / 10 / 10 / 10 := rfl
  rw [e'] at g1
  omega
theorem own_dge2 {n : Nat} (h : 10 ≤ n) : 2 ≤ (own_digs n).length := by
  rw [own_digs, own_dgF, if_neg (by omega : ¬ n < 10)]
  have := own_dgF_len 8 (n / 10)
  simp only [List.length_append, List.length_singleton]; omega
theorem own_dge3 {n : Nat} (h : 100 ≤ n) : 3 ≤ (own_digs n).length := by
  rw [own_digs, own_dgF, if_neg (by omega : ¬ n < 10), own_dgF, if_neg (by omega : ¬ n / 10 < 10)]
  have := own_dgF_len 7 (n / 10 / 10)
  simp only [List.length_append, List.length_singleton]; omega
theorem own_dge4 {n : Nat} (h : 1000 ≤ n) : 4 ≤ (own_digs n).length := by
  rw [own_digs, own_dgF, if_neg (by omega : ¬ n < 10), own_dgF, if_neg (by omega : ¬ n / 10 < 10), own_dgF, if_neg (by omega : ¬ n / 10 / 10 < 10)]
  have := own_dgF_len 6 (n / 10 / 10 / 10)
  simp only [List.length_append, List.length_singleton]; omega
theorem own_dge5 {n : Nat} (h : 10000 ≤ n) : 5 ≤ (own_digs n).length := by
  rw [own_digs, own_dgF, if_neg (by omega : ¬ n < 10), own_dgF, if_neg (by omega : ¬ n / 10 < 10), own_dgF, if_neg (by omega : ¬ n / 10 / 10 < 10), own_dgF, if_neg (by omega : ¬ n / 10 / 10 / 10 < 10)]
  have := own_dgF_len 5 (n / 10 / 10 / 10 / 10)
  simp only [List.length_append, List.length_singleton]; omega
theorem own_dge6 {n : Nat} (h : 100000 ≤ n) : 6 ≤ (own_digs n).length := by
  rw [own_digs, own_dgF, if_neg (by omega : ¬ n < 10), own_dgF, if_neg (by omega : ¬ n / 10 < 10), own_dgF, if_neg (by omega : ¬ n / 10 / 10 < 10), own_dgF, if_neg (by omega : ¬ n / 10 / 10 / 10 < 10), own_dgF, if_neg (by omega : ¬ n / 10 / 10 / 10 / 10 < 10)]
  have := own_dgF_len 4 (n / 10 / 10 / 10 / 10 / 10)
  simp only [List.length_append, List.length_singleton]; omega
theorem own_dge7 {n : Nat} (h : 1000000 ≤ n) : 7 ≤ (own_digs n).length := by
  rw [own_digs, own_dgF, if_neg (by omega : ¬ n < 10), own_dgF, if_neg (by omega : ¬ n / 10 < 10), own_dgF, if_neg (by omega : ¬ n / 10 / 10 < 10), own_dgF, if_neg (by omega : ¬ n / 10 / 10 / 10 < 10), own_dgF, if_neg (by omega : ¬ n / 10 / 10 / 10 / 10 < 10), own_dgF, if_neg (by omega : ¬ n / 10 / 10 / 10 / 10 / 10 < 10)]
  have := own_dgF_len 3 (n / 10 / 10 / 10 / 10 / 10 / 10)
  simp only [List.length_append, List.length_singleton]; omega
theorem own_dge8 {n : Nat} (h : 10000000 ≤ n) : 8 ≤ (own_digs n).length := by
  rw [own_digs, own_dgF, if_neg (by omega : ¬ n < 10), own_dgF, if_neg (by omega : ¬ n / 10 < 10), own_dgF, if_neg (by omega : ¬ n / 10 / 10 < 10), own_dgF, if_neg (by omega : ¬ n / 10 / 10 / 10 < 10), own_dgF, if_neg (by omega : ¬ n / 10 / 10 / 10 / 10 < 10), own_dgF, if_neg (by omega : ¬ n / 10 / 10 / 10 / 10 / 10 < 10), own_dgF, if_neg (by omega : ¬ n / 10 / 10 / 10 / 10 / 10 / 10 < 10)]
  have := own_dgF_len 2 (n / 10 / 10 / 10 / 10 / 10 / 10 / 10)
  simp only [List.length_append, List.length_singleton]; omega
theorem own_dge9 {n : Nat} (h : 100000000 ≤ n) : 9 ≤ (own_digs n).length := by
  rw [own_digs, own_dgF, if_neg (by omega : ¬ n < 10), own_dgF, if_neg (by omega : ¬ n / 10 < 10), own_dgF, if_neg (by omega : ¬ n / 10 / 10 < 10), own_dgF, if_neg (by omega : ¬ n / 10 / 10 / 10 < 10), own_dgF, if_neg (by omega : ¬ n / 10 / 10 / 10 / 10 < 10), own_dgF, if_neg (by omega : ¬ n / 10 / 10 / 10 / 10 / 10 < 10), own_dgF, if_neg (by omega : ¬ n / 10 / 10 / 10 / 10 / 10 / 10 < 10), own_dgF, if_neg (by omega : ¬ n / 10 / 10 / 10 / 10 / 10 / 10 / 10 < 10)]
  have := own_dgF_len 1 (n / 10 / 10 / 10 / 10 / 10 / 10 / 10 / 10)
  simp only [List.length_append, List.length_singleton]; omega
theorem own_dge10 {n : Nat} (h : 1000000000 ≤ n) : 10 ≤ (own_digs n).length := by
  rw [own_digs, own_dgF, if_neg (by omega : ¬ n < 10), own_dgF, if_neg (by omega : ¬ n / 10 < 10), own_dgF, if_neg (by omega : ¬ n / 10 / 10 < 10), own_dgF, if_neg (by omega : ¬ n / 10 / 10 / 10 < 10), own_dgF, if_neg (by omega : ¬ n / 10 / 10 / 10 / 10 < 10), own_dgF, if_neg (by omega : ¬ n / 10 / 10 / 10 / 10 / 10 < 10), own_dgF, if_neg (by omega : ¬ n / 10 / 10 / 10 / 10 / 10 / 10 < 10), own_dgF, if_neg (by omega : ¬ n / 10 / 10 / 10 / 10 / 10 / 10 / 10 < 10), own_dgF, if_neg (by omega : ¬ n / 10 / 10 / 10 / 10 / 10 / 10 / 10 / 10 < 10)]
  have := own_dgF_len 0 (n / 10 / 10 / 10 / 10 / 10 / 10 / 10 / 10 / 10)
  simp only [List.length_append, List.length_singleton]; omega
theorem own_ge2 {x : Int32} (h : 10 ≤ own_abs x) : 2 ≤ (own_dec x).length := by
  have l : 2 ≤ (own_digs (own_abs x)).length := own_dge2 h
  rw [own_dec, List.length_append]; omega
theorem own_ge3 {x : Int32} (h : 100 ≤ own_abs x) : 3 ≤ (own_dec x).length := by
  have l : 3 ≤ (own_digs (own_abs x)).length := own_dge3 h
  rw [own_dec, List.length_append]; omega
theorem own_ge4 {x : Int32} (h : 1000 ≤ own_abs x) : 4 ≤ (own_dec x).length := by
  have l : 4 ≤ (own_digs (own_abs x)).length := own_dge4 h
  rw [own_dec, List.length_append]; omega
theorem own_ge5 {x : Int32} (h : 10000 ≤ own_abs x) : 5 ≤ (own_dec x).length := by
  have l : 5 ≤ (own_digs (own_abs x)).length := own_dge5 h
  rw [own_dec, List.length_append]; omega
theorem own_ge6 {x : Int32} (h : 100000 ≤ own_abs x) : 6 ≤ (own_dec x).length := by
  have l : 6 ≤ (own_digs (own_abs x)).length := own_dge6 h
  rw [own_dec, List.length_append]; omega
theorem own_ge7 {x : Int32} (h : 1000000 ≤ own_abs x) : 7 ≤ (own_dec x).length := by
  have l : 7 ≤ (own_digs (own_abs x)).length := own_dge7 h
  rw [own_dec, List.length_append]; omega
theorem own_ge8 {x : Int32} (h : 10000000 ≤ own_abs x) : 8 ≤ (own_dec x).length := by
  have l : 8 ≤ (own_digs (own_abs x)).length := own_dge8 h
  rw [own_dec, List.length_append]; omega
theorem own_ge9 {x : Int32} (h : 100000000 ≤ own_abs x) : 9 ≤ (own_dec x).length := by
  have l : 9 ≤ (own_digs (own_abs x)).length := own_dge9 h
  rw [own_dec, List.length_append]; omega
theorem own_ge10 {x : Int32} (h : 1000000000 ≤ own_abs x) : 10 ≤ (own_dec x).length := by
  have l : 10 ≤ (own_digs (own_abs x)).length := own_dge10 h
  rw [own_dec, List.length_append]; omega
theorem own_gh0 {a : Int32} {n : Nat} (h : a.toInt = -(n : Int) ∧ n ≤ 2147483648) (g : ¬ (-100 : Int32) < own_iq a 0) : 100 ≤ n := by
  have k : 100 ≤ own_nq n 0 := Nat.le_of_not_lt (fun q => g ((own_i100 h.1 h.2 0).mpr q))
  have e : own_nq n 0 = n := rfl
  rw [e] at k; omega
theorem own_gh1 {a : Int32} {n : Nat} (h : a.toInt = -(n : Int) ∧ n ≤ 2147483648) (g : ¬ (-100 : Int32) < own_iq a 1) : 10000 ≤ n := by
  have k : 100 ≤ own_nq n 2 := Nat.le_of_not_lt (fun q => g ((own_i100 h.1 h.2 1).mpr q))
  have e : own_nq n 2 = n / 10 / 10 := rfl
  rw [e] at k; omega
theorem own_gh2 {a : Int32} {n : Nat} (h : a.toInt = -(n : Int) ∧ n ≤ 2147483648) (g : ¬ (-100 : Int32) < own_iq a 2) : 1000000 ≤ n := by
  have k : 100 ≤ own_nq n 4 := Nat.le_of_not_lt (fun q => g ((own_i100 h.1 h.2 2).mpr q))
  have e : own_nq n 4 = n / 10 / 10 / 10 / 10 := rfl
  rw [e] at k; omega
theorem own_gh3 {a : Int32} {n : Nat} (h : a.toInt = -(n : Int) ∧ n ≤ 2147483648) (g : ¬ (-100 : Int32) < own_iq a 3) : 100000000 ≤ n := by
  have k : 100 ≤ own_nq n 6 := Nat.le_of_not_lt (fun q => g ((own_i100 h.1 h.2 3).mpr q))
  have e : own_nq n 6 = n / 10 / 10 / 10 / 10 / 10 / 10 := rfl
  rw [e] at k; omega
theorem own_gt0 {a : Int32} {n : Nat} (h : a.toInt = -(n : Int) ∧ n ≤ 2147483648) (g : own_iq a 0 < (-9 : Int32)) : 10 ≤ n := by
  have k := (own_i9 h.1 h.2 0).mp g
  have e : own_nq n 0 = n := rfl
  rw [e] at k; omega
theorem own_gt1 {a : Int32} {n : Nat} (h : a.toInt = -(n : Int) ∧ n ≤ 2147483648) (g : own_iq a 1 < (-9 : Int32)) : 1000 ≤ n := by
  have k := (own_i9 h.1 h.2 1).mp g
  have e : own_nq n 2 = n / 10 / 10 := rfl
  rw [e] at k; omega
theorem own_gt2 {a : Int32} {n : Nat} (h : a.toInt = -(n : Int) ∧ n ≤ 2147483648) (g : own_iq a 2 < (-9 : Int32)) : 100000 ≤ n := by
  have k := (own_i9 h.1 h.2 2).mp g
  have e : own_nq n 4 = n / 10 / 10 / 10 / 10 := rfl
  rw [e] at k; omega
theorem own_gt3 {a : Int32} {n : Nat} (h : a.toInt = -(n : Int) ∧ n ≤ 2147483648) (g : own_iq a 3 < (-9 : Int32)) : 10000000 ≤ n := by
  have k := (own_i9 h.1 h.2 3).mp g
  have e : own_nq n 6 = n / 10 / 10 / 10 / 10 / 10 / 10 := rfl
  rw [e] at k; omega
theorem own_gt4 {a : Int32} {n : Nat} (h : a.toInt = -(n : Int) ∧ n ≤ 2147483648) (g : own_iq a 4 < (-9 : Int32)) : 1000000000 ≤ n := by
  have k := (own_i9 h.1 h.2 4).mp g
  have e : own_nq n 8 = n / 10 / 10 / 10 / 10 / 10 / 10 / 10 / 10 := rfl
  rw [e] at k; omega
theorem own_geN1 {x : Int32} (hx : x < 0) : 2 ≤ (own_dec x).length := by
  have := own_digs_len (own_abs x)
  rw [own_dec, if_pos hx, List.length_append]; simp only [List.length_singleton]; omega
theorem own_geN2 {x : Int32} (hx : x < 0) (h : 10 ≤ own_abs x) : 3 ≤ (own_dec x).length := by
  have := own_dge2 h
  rw [own_dec, if_pos hx, List.length_append]; simp only [List.length_singleton]; omega
theorem own_geN3 {x : Int32} (hx : x < 0) (h : 100 ≤ own_abs x) : 4 ≤ (own_dec x).length := by
  have := own_dge3 h
  rw [own_dec, if_pos hx, List.length_append]; simp only [List.length_singleton]; omega
theorem own_geN4 {x : Int32} (hx : x < 0) (h : 1000 ≤ own_abs x) : 5 ≤ (own_dec x).length := by
  have := own_dge4 h
  rw [own_dec, if_pos hx, List.length_append]; simp only [List.length_singleton]; omega
theorem own_geN5 {x : Int32} (hx : x < 0) (h : 10000 ≤ own_abs x) : 6 ≤ (own_dec x).length := by
  have := own_dge5 h
  rw [own_dec, if_pos hx, List.length_append]; simp only [List.length_singleton]; omega
theorem own_geN6 {x : Int32} (hx : x < 0) (h : 100000 ≤ own_abs x) : 7 ≤ (own_dec x).length := by
  have := own_dge6 h
  rw [own_dec, if_pos hx, List.length_append]; simp only [List.length_singleton]; omega
theorem own_geN7 {x : Int32} (hx : x < 0) (h : 1000000 ≤ own_abs x) : 8 ≤ (own_dec x).length := by
  have := own_dge7 h
  rw [own_dec, if_pos hx, List.length_append]; simp only [List.length_singleton]; omega
theorem own_geN8 {x : Int32} (hx : x < 0) (h : 10000000 ≤ own_abs x) : 9 ≤ (own_dec x).length := by
  have := own_dge8 h
  rw [own_dec, if_pos hx, List.length_append]; simp only [List.length_singleton]; omega
theorem own_geN9 {x : Int32} (hx : x < 0) (h : 100000000 ≤ own_abs x) : 10 ≤ (own_dec x).length := by
  have := own_dge9 h
  rw [own_dec, if_pos hx, List.length_append]; simp only [List.length_singleton]; omega
theorem own_geN10 {x : Int32} (hx : x < 0) (h : 1000000000 ≤ own_abs x) : 11 ≤ (own_dec x).length := by
  have := own_dge10 h
  rw [own_dec, if_pos hx, List.length_append]; simp only [List.length_singleton]; omega
theorem own_gfP {x : Int32} {P L : List Int32} {m : Nat} (hx : ¬ x < 0) (e : L = own_digs (own_abs x)) (hm : L.length = m) : P ++ List.replicate ((own_dec x).length - m) 0 ++ L = P ++ (own_dec x) := by
  have d : own_dec x = L := by rw [own_dec, if_neg hx, e]; rfl
  rw [d, hm, Nat.sub_self, List.replicate_zero, List.append_nil]
theorem own_gfN {x : Int32} {P L : List Int32} {m : Nat} (hx : x < 0) (e : L = own_digs (own_abs x)) (hm : L.length + 1 = m) : P ++ List.replicate ((own_dec x).length - m) 0 ++ ((45 : Int32) :: L) = P ++ (own_dec x) := by
  have d : own_dec x = (45 : Int32) :: L := by rw [own_dec, if_pos hx, e]; rfl
  rw [d, List.length_cons, hm, Nat.sub_self, List.replicate_zero, List.append_nil]
theorem own_gd1 {a : Int32} {n : Nat} (h : a.toInt = -(n : Int) ∧ n ≤ 2147483648) (g2 : (-100 : Int32) < own_iq a 0) (g3 : ¬ own_iq a 0 < (-9 : Int32)) : ([own_at own_ones (-(own_iq a 0))] : List Int32) = own_digs n := by
  have k2 := (own_i100 h.1 h.2 0).mp g2
  have k3 : ¬ 10 ≤ own_nq n 0 := fun q => g3 ((own_i9 h.1 h.2 0).mpr q)
  have b := own_gm1 k2 k3
  rw [own_dk1 b]
  rw [own_one (own_inI h.1 h.2 0 g2) k2]
  have f0 : own_nq n 0 = n := rfl
  rfl
theorem own_gd2 {a : Int32} {n : Nat} (h : a.toInt = -(n : Int) ∧ n ≤ 2147483648) (g2 : (-100 : Int32) < own_iq a 0) (g3 : own_iq a 0 < (-9 : Int32)) : ([own_at own_tens (-(own_iq a 0)), own_at own_ones (-(own_iq a 0))] : List Int32) = own_digs n := by
  have k2 := (own_i100 h.1 h.2 0).mp g2
  have k3 : 10 ≤ own_nq n 0 := (own_i9 h.1 h.2 0).mp g3
  have b := own_gm2 k2 k3
  rw [own_dk2 b.1 b.2]
  rw [own_ten (own_inI h.1 h.2 0 g2) k2, own_one (own_inI h.1 h.2 0 g2) k2]
  have f0 : own_nq n 0 = n := rfl
  rw [f0]
  rw [f0] at k2
  exact (own_cons (congrArg Int32.ofNat (congrArg (48 + ·) (by omega : (n) / 10 = (n / 10) % 10))) (own_cons (congrArg Int32.ofNat (congrArg (48 + ·) (by omega : (n) % 10 = (n) % 10))) rfl))
theorem own_gd3 {a : Int32} {n : Nat} (h : a.toInt = -(n : Int) ∧ n ≤ 2147483648) (g1 : ¬ (-100 : Int32) < own_iq a 0) (g2 : (-100 : Int32) < own_iq a 1) (g3 : ¬ own_iq a 1 < (-9 : Int32)) : ([own_at own_ones (-(own_iq a 1)), own_at own_tens (own_ir a 0), own_at own_ones (own_ir a 0)] : List Int32) = own_digs n := by
  have k2 := (own_i100 h.1 h.2 1).mp g2
  have k1 : 100 ≤ own_nq n 0 := Nat.le_of_not_lt (fun q => g1 ((own_i100 h.1 h.2 0).mpr q))
  have k3 : ¬ 10 ≤ own_nq n 2 := fun q => g3 ((own_i9 h.1 h.2 1).mpr q)
  have b := own_gm3 k1 k2 k3
  rw [own_dk3 b.1 b.2]
  rw [own_one (own_inI h.1 h.2 1 g2) k2, own_ten (own_irI h.1 h.2 0) (Nat.mod_lt _ (by decide)), own_one (own_irI h.1 h.2 0) (Nat.mod_lt _ (by decide))]
  have f0 : own_nq n 0 = n := rfl
  have f1 : own_nq n 2 = n / 10 / 10 := rfl
  rw [f1, f0]
  rw [f1] at k2
  exact (own_cons (congrArg Int32.ofNat (congrArg (48 + ·) (by omega : (n / 10 / 10) % 10 = (n / 10 / 10) % 10))) (own_cons (congrArg Int32.ofNat (congrArg (48 + ·) (by omega : (n) % 100 / 10 = (n / 10) % 10))) (own_cons (congrArg Int32.ofNat (congrArg (48 + ·) (by omega : (n) % 100 % 10 = (n) % 10))) rfl)))
theorem own_gd4 {a : Int32} {n : Nat} (h : a.toInt = -(n : Int) ∧ n ≤ 2147483648) (g1 : ¬ (-100 : Int32) < own_iq a 0) (g2 : (-100 : Int32) < own_iq a 1) (g3 : own_iq a 1 < (-9 : Int32)) : ([own_at own_tens (-(own_iq a 1)), own_at own_ones (-(own_iq a 1)), own_at own_tens (own_ir a 0), own_at own_ones (own_ir a 0)] : List Int32) = own_digs n := by
  have k2 := (own_i100 h.1 h.2 1).mp g2
  have k1 : 100 ≤ own_nq n 0 := Nat.le_of_not_lt (fun q => g1 ((own_i100 h.1 h.2 0).mpr q))
  have k3 : 10 ≤ own_nq n 2 := (own_i9 h.1 h.2 1).mp g3
  have b := own_gm4 k1 k2 k3
  rw [own_dk4 b.1 b.2]
  rw [own_ten (own_inI h.1 h.2 1 g2) k2, own_one (own_inI h.1 h.2 1 g2) k2, own_ten (own_irI h.1 h.2 0) (Nat.mod_lt _ (by decide)), own_one (own_irI h.1 h.2 0) (Nat.mod_lt _ (by decide))]
  have f0 : own_nq n 0 = n := rfl
  have f1 : own_nq n 2 = n / 10 / 10 := rfl
  rw [f1, f0]
  rw [f1] at k2
  exact (own_cons (congrArg Int32.ofNat (congrArg (48 + ·) (by omega : (n / 10 / 10) / 10 = (n / 10 / 10 / 10) % 10))) (own_cons (congrArg Int32.ofNat (congrArg (48 + ·) (by omega : (n / 10 / 10) % 10 = (n / 10 / 10) % 10))) (own_cons (congrArg Int32.ofNat (congrArg (48 + ·) (by omega : (n) % 100 / 10 = (n / 10) % 10))) (own_cons (congrArg Int32.ofNat (congrArg (48 + ·) (by omega : (n) % 100 % 10 = (n) % 10))) rfl))))
theorem own_gd5 {a : Int32} {n : Nat} (h : a.toInt = -(n : Int) ∧ n ≤ 2147483648) (g1 : ¬ (-100 : Int32) < own_iq a 1) (g2 : (-100 : Int32) < own_iq a 2) (g3 : ¬ own_iq a 2 < (-9 : Int32)) : ([own_at own_ones (-(own_iq a 2)), own_at own_tens (own_ir a 1), own_at own_ones (own_ir a 1), own_at own_tens (own_ir a 0), own_at own_ones (own_ir a 0)] : List Int32) = own_digs n := by
  have k2 := (own_i100 h.1 h.2 2).mp g2
  have k1 : 100 ≤ own_nq n 2 := Nat.le_of_not_lt (fun q => g1 ((own_i100 h.1 h.2 1).mpr q))
  have k3 : ¬ 10 ≤ own_nq n 4 := fun q => g3 ((own_i9 h.1 h.2 2).mpr q)
  have b := own_gm5 k1 k2 k3
  rw [own_dk5 b.1 b.2]
  rw [own_one (own_inI h.1 h.2 2 g2) k2, own_ten (own_irI h.1 h.2 1) (Nat.mod_lt _ (by decide)), own_one (own_irI h.1 h.2 1) (Nat.mod_lt _ (by decide)), own_ten (own_irI h.1 h.2 0) (Nat.mod_lt _ (by decide)), own_one (own_irI h.1 h.2 0) (Nat.mod_lt _ (by decide))]
  have f0 : own_nq n 0 = n := rfl
  have f1 : own_nq n 2 = n / 10 / 10 := rfl
  have f2 : own_nq n 4 = n / 10 / 10 / 10 / 10 := rfl
  rw [f2, f1, f0]
  rw [f2] at k2
  exact (own_cons (congrArg Int32.ofNat (congrArg (48 + ·) (by omega : (n / 10 / 10 / 10 / 10) % 10 = (n / 10 / 10 / 10 / 10) % 10))) (own_cons (congrArg Int32.ofNat (congrArg (48 + ·) (by omega : (n / 10 / 10) % 100 / 10 = (n / 10 / 10 / 10) % 10))) (own_cons (congrArg Int32.ofNat (congrArg (48 + ·) (by omega : (n / 10 / 10) % 100 % 10 = (n / 10 / 10) % 10))) (own_cons (congrArg Int32.ofNat (congrArg (48 + ·) (by omega : (n) % 100 / 10 = (n / 10) % 10))) (own_cons (congrArg Int32.ofNat (congrArg (48 + ·) (by omega : (n) % 100 % 10 = (n) % 10))) rfl)))))
theorem own_gd6 {a : Int32} {n : Nat} (h : a.toInt = -(n : Int) ∧ n ≤ 2147483648) (g1 : ¬ (-100 : Int32) < own_iq a 1) (g2 : (-100 : Int32) < own_iq a 2) (g3 : own_iq a 2 < (-9 : Int32)) : ([own_at own_tens (-(own_iq a 2)), own_at own_ones (-(own_iq a 2)), own_at own_tens (own_ir a 1), own_at own_ones (own_ir a 1), own_at own_tens (own_ir a 0), own_at own_ones (own_ir a 0)] : List Int32) = own_digs n := by
  have k2 := (own_i100 h.1 h.2 2).mp g2
  have k1 : 100 ≤ own_nq n 2 := Nat.le_of_not_lt (fun q => g1 ((own_i100 h.1 h.2 1).mpr q))
  have k3 : 10 ≤ own_nq n 4 := (own_i9 h.1 h.2 2).mp g3
  have b := own_gm6 k1 k2 k3
  rw [own_dk6 b.1 b.2]
  rw [own_ten (own_inI h.1 h.2 2 g2) k2, own_one (own_inI h.1 h.2 2 g2) k2, own_ten (own_irI h.1 h.2 1) (Nat.mod_lt _ (by decide)), own_one (own_irI h.1 h.2 1) (Nat.mod_lt _ (by decide)), own_ten (own_irI h.1 h.2 0) (Nat.mod_lt _ (by decide)), own_one (own_irI h.1 h.2 0) (Nat.mod_lt _ (by decide))]
  have f0 : own_nq n 0 = n := rfl
  have f1 : own_nq n 2 = n / 10 / 10 := rfl
  have f2 : own_nq n 4 = n / 10 / 10 / 10 / 10 := rfl
  rw [f2, f1, f0]
  rw [f2] at k2
  exact (own_cons (congrArg Int32.ofNat (congrArg (48 + ·) (by omega : (n / 10 / 10 / 10 / 10) / 10 = (n / 10 / 10 / 10 / 10 / 10) % 10))) (own_cons (congrArg Int32.ofNat (congrArg (48 + ·) (by omega : (n / 10 / 10 / 10 / 10) % 10 = (n / 10 / 10 / 10 / 10) % 10))) (own_cons (congrArg Int32.ofNat (congrArg (48 + ·) (by omega : (n / 10 / 10) % 100 / 10 = (n / 10 / 10 / 10) % 10))) (own_cons (congrArg Int32.ofNat (congrArg (48 + ·) (by omega : (n / 10 / 10) % 100 % 10 = (n / 10 / 10) % 10))) (own_cons (congrArg Int32.ofNat (congrArg (48 + ·) (by omega : (n) % 100 / 10 = (n / 10) % 10))) (own_cons (congrArg Int32.ofNat (congrArg (48 + ·) (by omega : (n) % 100 % 10 = (n) % 10))) rfl))))))
theorem own_gd7 {a : Int32} {n : Nat} (h : a.toInt = -(n : Int) ∧ n ≤ 2147483648) (g1 : ¬ (-100 : Int32) < own_iq a 2) (g2 : (-100 : Int32) < own_iq a 3) (g3 : ¬ own_iq a 3 < (-9 : Int32)) : ([own_at own_ones (-(own_iq a 3)), own_at own_tens (own_ir a 2), own_at own_ones (own_ir a 2), own_at own_tens (own_ir a 1), own_at own_ones (own_ir a 1), own_at own_tens (own_ir a 0), own_at own_ones (own_ir a 0)] : List Int32) = own_digs n := by
  have k2 := (own_i100 h.1 h.2 3).mp g2
  have k1 : 100 ≤ own_nq n 4 := Nat.le_of_not_lt (fun q => g1 ((own_i100 h.1 h.2 2).mpr q))
  have k3 : ¬ 10 ≤ own_nq n 6 := fun q => g3 ((own_i9 h.1 h.2 3).mpr q)
  have b := own_gm7 k1 k2 k3
  rw [own_dk7 b.1 b.2]
  rw [own_one (own_inI h.1 h.2 3 g2) k2, own_ten (own_irI h.1 h.2 2) (Nat.mod_lt _ (by decide)), own_one (own_irI h.1 h.2 2) (Nat.mod_lt _ (by decide)), own_ten (own_irI h.1 h.2 1) (Nat.mod_lt _ (by decide)), own_one (own_irI h.1 h.2 1) (Nat.mod_lt _ (by decide)), own_ten (own_irI h.1 h.2 0) (Nat.mod_lt _ (by decide)), own_one (own_irI h.1 h.2 0) (Nat.mod_lt _ (by decide))]
  have f0 : own_nq n 0 = n := rfl
  have f1 : own_nq n 2 = n / 10 / 10 := rfl
  have f2 : own_nq n 4 = n / 10 / 10 / 10 / 10 := rfl
  have f3 : own_nq n 6 = n / 10 / 10 / 10 / 10 / 10 / 10 := rfl
  rw [f3, f2, f1, f0]
  rw [f3] at k2
  exact (own_cons (congrArg Int32.ofNat (congrArg (48 + ·) (by omega : (n / 10 / 10 / 10 / 10 / 10 / 10) % 10 = (n / 10 / 10 / 10 / 10 / 10 / 10) % 10))) (own_cons (congrArg Int32.ofNat (congrArg (48 + ·) (by omega : (n / 10 / 10 / 10 / 10) % 100 / 10 = (n / 10 / 10 / 10 / 10 / 10) % 10))) (own_cons (congrArg Int32.ofNat (congrArg (48 + ·) (by omega : (n / 10 / 10 / 10 / 10) % 100 % 10 = (n / 10 / 10 / 10 / 10) % 10))) (own_cons (congrArg Int32.ofNat (congrArg (48 + ·) (by omega : (n / 10 / 10) % 100 / 10 = (n / 10 / 10 / 10) % 10))) (own_cons (congrArg Int32.ofNat (congrArg (48 + ·) (by omega : (n / 10 / 10) % 100 % 10 = (n / 10 / 10) % 10))) (own_cons (congrArg Int32.ofNat (congrArg (48 + ·) (by omega : (n) % 100 / 10 = (n / 10) % 10))) (own_cons (congrArg Int32.ofNat (congrArg (48 + ·) (by omega : (n) % 100 % 10 = (n) % 10))) rfl)))))))
theorem own_gd8 {a : Int32} {n : Nat} (h : a.toInt = -(n : Int) ∧ n ≤ 2147483648) (g1 : ¬ (-100 : Int32) < own_iq a 2) (g2 : (-100 : Int32) < own_iq a 3) (g3 : own_iq a 3 < (-9 : Int32)) : ([own_at own_tens (-(own_iq a 3)), own_at own_ones (-(own_iq a 3)), own_at own_tens (own_ir a 2), own_at own_ones (own_ir a 2), own_at own_tens (own_ir a 1), own_at own_ones (own_ir a 1), own_at own_tens (own_ir a 0), own_at own_ones (own_ir a 0)] : List Int32) = own_digs n := by
  have k2 := (own_i100 h.1 h.2 3).mp g2
  have k1 : 100 ≤ own_nq n 4 := Nat.le_of_not_lt (fun q => g1 ((own_i100 h.1 h.2 2).mpr q))
  have k3 : 10 ≤ own_nq n 6 := (own_i9 h.1 h.2 3).mp g3
  have b := own_gm8 k1 k2 k3
  rw [own_dk8 b.1 b.2]
  rw [own_ten (own_inI h.1 h.2 3 g2) k2, own_one (own_inI h.1 h.2 3 g2) k2, own_ten (own_irI h.1 h.2 2) (Nat.mod_lt _ (by decide)), own_one (own_irI h.1 h.2 2) (Nat.mod_lt _ (by decide)), own_ten (own_irI h.1 h.2 1) (Nat.mod_lt _ (by decide)), own_one (own_irI h.1 h.2 1) (Nat.mod_lt _ (by decide)), own_ten (own_irI h.1 h.2 0) (Nat.mod_lt _ (by decide)), own_one (own_irI h.1 h.2 0) (Nat.mod_lt _ (by decide))]
  have f0 : own_nq n 0 = n := rfl
  have f1 : own_nq n 2 = n / 10 / 10 := rfl
  have f2 : own_nq n 4 = n / 10 / 10 / 10 / 10 := rfl
  have f3 : own_nq n 6 = n / 10 / 10 / 10 / 10 / 10 / 10 := rfl
  rw [f3, f2, f1, f0]
  rw [f3] at k2
  exact (own_cons (congrArg Int32.ofNat (congrArg (48 + ·) (by omega : (n / 10 / 10 / 10 / 10 / 10 / 10) / 10 = (n / 10 / 10 / 10 / 10 / 10 / 10 / 10) % 10))) (own_cons (congrArg Int32.ofNat (congrArg (48 + ·) (by omega : (n / 10 / 10 / 10 / 10 / 10 / 10) % 10 = (n / 10 / 10 / 10 / 10 / 10 / 10) % 10))) (own_cons (congrArg Int32.ofNat (congrArg (48 + ·) (by omega : (n / 10 / 10 / 10 / 10) % 100 / 10 = (n / 10 / 10 / 10 / 10 / 10) % 10))) (own_cons (congrArg Int32.ofNat (congrArg (48 + ·) (by omega : (n / 10 / 10 / 10 / 10) % 100 % 10 = (n / 10 / 10 / 10 / 10) % 10))) (own_cons (congrArg Int32.ofNat (congrArg (48 + ·) (by omega : (n / 10 / 10) % 100 / 10 = (n / 10 / 10 / 10) % 10))) (own_cons (congrArg Int32.ofNat (congrArg (48 + ·) (by omega : (n / 10 / 10) % 100 % 10 = (n / 10 / 10) % 10))) (own_cons (congrArg Int32.ofNat (congrArg (48 + ·) (by omega : (n) % 100 / 10 = (n / 10) % 10))) (own_cons (congrArg Int32.ofNat (congrArg (48 + ·) (by omega : (n) % 100 % 10 = (n) % 10))) rfl))))))))
theorem own_gd9 {a : Int32} {n : Nat} (h : a.toInt = -(n : Int) ∧ n ≤ 2147483648) (g1 : ¬ (-100 : Int32) < own_iq a 3) (g2 : (-100 : Int32) < own_iq a 4) (g3 : ¬ own_iq a 4 < (-9 : Int32)) : ([own_at own_ones (-(own_iq a 4)), own_at own_tens (own_ir a 3), own_at own_ones (own_ir a 3), own_at own_tens (own_ir a 2), own_at own_ones (own_ir a 2), own_at own_tens (own_ir a 1), own_at own_ones (own_ir a 1), own_at own_tens (own_ir a 0), own_at own_ones (own_ir a 0)] : List Int32) = own_digs n := by
  have k2 := (own_i100 h.1 h.2 4).mp g2
  have k1 : 100 ≤ own_nq n 6 := Nat.le_of_not_lt (fun q => g1 ((own_i100 h.1 h.2 3).mpr q))
  have k3 : ¬ 10 ≤ own_nq n 8 := fun q => g3 ((own_i9 h.1 h.2 4).mpr q)
  have b := own_gm9 k1 k2 k3
  rw [own_dk9 b.1 b.2]
  rw [own_one (own_inI h.1 h.2 4 g2) k2, own_ten (own_irI h.1 h.2 3) (Nat.mod_lt _ (by decide)), own_one (own_irI h.1 h.2 3) (Nat.mod_lt _ (by decide)), own_ten (own_irI h.1 h.2 2) (Nat.mod_lt _ (by decide)), own_one (own_irI h.1 h.2 2) (Nat.mod_lt _ (by decide)), own_ten (own_irI h.1 h.2 1) (Nat.mod_lt _ (by decide)), own_one (own_irI h.1 h.2 1) (Nat.mod_lt _ (by decide)), own_ten (own_irI h.1 h.2 0) (Nat.mod_lt _ (by decide)), own_one (own_irI h.1 h.2 0) (Nat.mod_lt _ (by decide))]
  have f0 : own_nq n 0 = n := rfl
  have f1 : own_nq n 2 = n / 10 / 10 := rfl
  have f2 : own_nq n 4 = n / 10 / 10 / 10 / 10 := rfl
  have f3 : own_nq n 6 = n / 10 / 10 / 10 / 10 / 10 / 10 := rfl
  have f4 : own_nq n 8 = n / 10 / 10 / 10 / 10 / 10 / 10 / 10 / 10 := rfl
  rw [f4, f3, f2, f1, f0]
  rw [f4] at k2
  exact (own_cons (congrArg Int32.ofNat (congrArg (48 + ·) (by omega : (n / 10 / 10 / 10 / 10 / 10 / 10 / 10 / 10) % 10 = (n / 10 / 10 / 10 / 10 / 10 / 10 / 10 / 10) % 10))) (own_cons (congrArg Int32.ofNat (congrArg (48 + ·) (by omega : (n / 10 / 10 / 10 / 10 / 10 / 10) % 100 / 10 = (n / 10 / 10 / 10 / 10 / 10 / 10 / 10) % 10))) (own_cons (congrArg Int32.ofNat (congrArg (48 + ·) (by omega : (n / 10 / 10 / 10 / 10 / 10 / 10) % 100 % 10 = (n / 10 / 10 / 10 / 10 / 10 / 10) % 10))) (own_cons (congrArg Int32.ofNat (congrArg (48 + ·) (by omega : (n / 10 / 10 / 10 / 10) % 100 / 10 = (n / 10 / 10 / 10 / 10 / 10) % 10))) (own_cons (congrArg Int32.ofNat (congrArg (48 + ·) (by omega : (n / 10 / 10 / 10 / 10) % 100 % 10 = (n / 10 / 10 / 10 / 10) % 10))) (own_cons (congrArg Int32.ofNat (congrArg (48 + ·) (by omega : (n / 10 / 10) % 100 / 10 = (n / 10 / 10 / 10) % 10))) (own_cons (congrArg Int32.ofNat (congrArg (48 + ·) (by omega : (n / 10 / 10) % 100 % 10 = (n / 10 / 10) % 10))) (own_cons (congrArg Int32.ofNat (congrArg (48 + ·) (by omega : (n) % 100 / 10 = (n / 10) % 10))) (own_cons (congrArg Int32.ofNat (congrArg (48 + ·) (by omega : (n) % 100 % 10 = (n) % 10))) rfl)))))))))
theorem own_gd10 {a : Int32} {n : Nat} (h : a.toInt = -(n : Int) ∧ n ≤ 2147483648) (g1 : ¬ (-100 : Int32) < own_iq a 3) (g2 : (-100 : Int32) < own_iq a 4) (g3 : own_iq a 4 < (-9 : Int32)) : ([own_at own_tens (-(own_iq a 4)), own_at own_ones (-(own_iq a 4)), own_at own_tens (own_ir a 3), own_at own_ones (own_ir a 3), own_at own_tens (own_ir a 2), own_at own_ones (own_ir a 2), own_at own_tens (own_ir a 1), own_at own_ones (own_ir a 1), own_at own_tens (own_ir a 0), own_at own_ones (own_ir a 0)] : List Int32) = own_digs n := by
  have k2 := (own_i100 h.1 h.2 4).mp g2
  have k1 : 100 ≤ own_nq n 6 := Nat.le_of_not_lt (fun q => g1 ((own_i100 h.1 h.2 3).mpr q))
  have k3 : 10 ≤ own_nq n 8 := (own_i9 h.1 h.2 4).mp g3
  have b := own_gm10 k1 k2 k3
  rw [own_dk10 b.1 b.2]
  rw [own_ten (own_inI h.1 h.2 4 g2) k2, own_one (own_inI h.1 h.2 4 g2) k2, own_ten (own_irI h.1 h.2 3) (Nat.mod_lt _ (by decide)), own_one (own_irI h.1 h.2 3) (Nat.mod_lt _ (by decide)), own_ten (own_irI h.1 h.2 2) (Nat.mod_lt _ (by decide)), own_one (own_irI h.1 h.2 2) (Nat.mod_lt _ (by decide)), own_ten (own_irI h.1 h.2 1) (Nat.mod_lt _ (by decide)), own_one (own_irI h.1 h.2 1) (Nat.mod_lt _ (by decide)), own_ten (own_irI h.1 h.2 0) (Nat.mod_lt _ (by decide)), own_one (own_irI h.1 h.2 0) (Nat.mod_lt _ (by decide))]
  have f0 : own_nq n 0 = n := rfl
  have f1 : own_nq n 2 = n / 10 / 10 := rfl
  have f2 : own_nq n 4 = n / 10 / 10 / 10 / 10 := rfl
  have f3 : own_nq n 6 = n / 10 / 10 / 10 / 10 / 10 / 10 := rfl
  have f4 : own_nq n 8 = n / 10 / 10 / 10 / 10 / 10 / 10 / 10 / 10 := rfl
  rw [f4, f3, f2, f1, f0]
  rw [f4] at k2
  exact (own_cons (congrArg Int32.ofNat (congrArg (48 + ·) (by omega : (n / 10 / 10 / 10 / 10 / 10 / 10 / 10 / 10) / 10 = (n / 10 / 10 / 10 / 10 / 10 / 10 / 10 / 10 / 10) % 10))) (own_cons (congrArg Int32.ofNat (congrArg (48 + ·) (by omega : (n / 10 / 10 / 10 / 10 / 10 / 10 / 10 / 10) % 10 = (n / 10 / 10 / 10 / 10 / 10 / 10 / 10 / 10) % 10))) (own_cons (congrArg Int32.ofNat (congrArg (48 + ·) (by omega : (n / 10 / 10 / 10 / 10 / 10 / 10) % 100 / 10 = (n / 10 / 10 / 10 / 10 / 10 / 10 / 10) % 10))) (own_cons (congrArg Int32.ofNat (congrArg (48 + ·) (by omega : (n / 10 / 10 / 10 / 10 / 10 / 10) % 100 % 10 = (n / 10 / 10 / 10 / 10 / 10 / 10) % 10))) (own_cons (congrArg Int32.ofNat (congrArg (48 + ·) (by omega : (n / 10 / 10 / 10 / 10) % 100 / 10 = (n / 10 / 10 / 10 / 10 / 10) % 10))) (own_cons (congrArg Int32.ofNat (congrArg (48 + ·) (by omega : (n / 10 / 10 / 10 / 10) % 100 % 10 = (n / 10 / 10 / 10 / 10) % 10))) (own_cons (congrArg Int32.ofNat (congrArg (48 + ·) (by omega : (n / 10 / 10) % 100 / 10 = (n / 10 / 10 / 10) % 10))) (own_cons (congrArg Int32.ofNat (congrArg (48 + ·) (by omega : (n / 10 / 10) % 100 % 10 = (n / 10 / 10) % 10))) (own_cons (congrArg Int32.ofNat (congrArg (48 + ·) (by omega : (n) % 100 / 10 = (n / 10) % 10))) (own_cons (congrArg Int32.ofNat (congrArg (48 + ·) (by omega : (n) % 100 % 10 = (n) % 10))) rfl))))))))))
def own_tg (a : Int32) : Nat → List Int32
  | 0 => []
  | t + 1 => own_at own_tens (own_ir a t) :: (own_at own_ones (own_ir a t) :: own_tg a t)
theorem own_tg_len (a : Int32) : ∀ t, (own_tg a t).length = 2 * t
  | 0 => rfl
  | t + 1 => by rw [own_tg, List.length_cons, List.length_cons, own_tg_len a t]; omega
theorem own_gG1 {a : Int32} {n t : Nat} (h : a.toInt = -(n : Int) ∧ n ≤ 2147483648) (ht : t ≤ 4) (hp : t = 0 ∨ ¬ (-100 : Int32) < own_iq a (t - 1)) (g2 : (-100 : Int32) < own_iq a t) (g3 : ¬ own_iq a t < (-9 : Int32)) : own_at own_ones (-(own_iq a t)) :: own_tg a t = own_digs n := by
  have c : t = 0 ∨ t = 1 ∨ t = 2 ∨ t = 3 ∨ t = 4 := by omega
  rcases c with rfl | rfl | rfl | rfl | rfl
  · exact own_gd1 h g2 g3
  · exact own_gd3 h (hp.resolve_left (by decide)) g2 g3
  · exact own_gd5 h (hp.resolve_left (by decide)) g2 g3
  · exact own_gd7 h (hp.resolve_left (by decide)) g2 g3
  · exact own_gd9 h (hp.resolve_left (by decide)) g2 g3
theorem own_gG2 {a : Int32} {n t : Nat} (h : a.toInt = -(n : Int) ∧ n ≤ 2147483648) (ht : t ≤ 4) (hp : t = 0 ∨ ¬ (-100 : Int32) < own_iq a (t - 1)) (g2 : (-100 : Int32) < own_iq a t) (g3 : own_iq a t < (-9 : Int32)) : own_at own_tens (-(own_iq a t)) :: (own_at own_ones (-(own_iq a t)) :: own_tg a t) = own_digs n := by
  have c : t = 0 ∨ t = 1 ∨ t = 2 ∨ t = 3 ∨ t = 4 := by omega
  rcases c with rfl | rfl | rfl | rfl | rfl
  · exact own_gd2 h g2 g3
  · exact own_gd4 h (hp.resolve_left (by decide)) g2 g3
  · exact own_gd6 h (hp.resolve_left (by decide)) g2 g3
  · exact own_gd8 h (hp.resolve_left (by decide)) g2 g3
  · exact own_gd10 h (hp.resolve_left (by decide)) g2 g3
theorem own_gL1 {x : Int32} {t : Nat} {a z : Int32} (e : z :: own_tg a t = own_digs (own_abs x)) : 2 * t + 1 ≤ (own_dec x).length ∧ (x < 0 → 2 * t + 2 ≤ (own_dec x).length) := by
  have l := congrArg List.length e
  rw [List.length_cons, own_tg_len] at l
  constructor
  · rw [own_dec, List.length_append]; omega
  · intro hx; rw [own_dec, if_pos hx, List.length_append]; simp only [List.length_singleton]; omega
theorem own_gL2 {x : Int32} {t : Nat} {a y z : Int32} (e : y :: (z :: own_tg a t) = own_digs (own_abs x)) : 2 * t + 2 ≤ (own_dec x).length ∧ (x < 0 → 2 * t + 3 ≤ (own_dec x).length) := by
  have l := congrArg List.length e
  rw [List.length_cons, List.length_cons, own_tg_len] at l
  constructor
  · rw [own_dec, List.length_append]; omega
  · intro hx; rw [own_dec, if_pos hx, List.length_append]; simp only [List.length_singleton]; omega
theorem own_gE {x : Int32} {P L : List Int32} {m : Nat} (e : L = own_dec x) (hm : L.length = m) : P ++ List.replicate ((own_dec x).length - m) 0 ++ L = P ++ (own_dec x) := by
  subst e; rw [hm, Nat.sub_self, List.replicate_zero, List.append_nil]
theorem own_gP {x : Int32} {L : List Int32} (hx : ¬ x < 0) (e : L = own_digs (own_abs x)) : L = own_dec x := by rw [own_dec, if_neg hx, e]; rfl
theorem own_gN {x : Int32} {L : List Int32} (hx : x < 0) (e : L = own_digs (own_abs x)) : (45 : Int32) :: L = own_dec x := by rw [own_dec, if_pos hx, e]; rfl
theorem own_gm1' {a z : Int32} {t : Nat} : (z :: own_tg a t).length = 2 * t + 1 := by rw [List.length_cons, own_tg_len]
theorem own_gm2' {a y z : Int32} {t : Nat} : (y :: (z :: own_tg a t)).length = 2 * t + 2 := by rw [List.length_cons, List.length_cons, own_tg_len]
theorem own_gm3' {a w y z : Int32} {t : Nat} : (w :: (y :: (z :: own_tg a t))).length = 2 * t + 3 := by rw [List.length_cons, List.length_cons, List.length_cons, own_tg_len]
section Lq
variable {a b c : Int}
theorem q0 (x : B_ a) : A_ (38 : Int) a ((38 : Int) + a) (a + 38) := by omega
theorem q1 (x : B_ a) (y : B_ b) : A_ (a + 38) b ((a + 38) + b) (a + b + 38) := by omega
theorem q2 (x : B_ a) (y : B_ b) (z : B_ c) : A_ (a + b + 38) c ((a + b + 38) + c) (a + b + c + 38) := by omega
theorem q3 (x : B_ a) (y : B_ b) (z : B_ c) : 0 ≤ (a + b + c + 38) := by omega
theorem q4 (x : B_ a) (y : B_ b) (z : B_ c) : (a + b + c + 38) ≤ ((71 : Nat) : Int) := by omega
theorem q5 (x : B_ a) (y : B_ b) (z : B_ c) : (0 : Int) < (a + b + c + 38) ∧ (0 : Int) + 1 = (1 : Int) := by omega
theorem q6 (x : B_ a) (y : B_ b) (z : B_ c) : (1 : Int) < (a + b + c + 38) ∧ (1 : Int) + 1 = (2 : Int) := by omega
theorem q7 (x : B_ a) (y : B_ b) (z : B_ c) : (2 : Int) < (a + b + c + 38) ∧ (2 : Int) + 1 = (3 : Int) := by omega
theorem q8 (x : B_ a) (y : B_ b) (z : B_ c) : (3 : Int) < (a + b + c + 38) ∧ (3 : Int) + 1 = (4 : Int) := by omega
theorem q9 (x : B_ a) (y : B_ b) (z : B_ c) : (4 : Int) < (a + b + c + 38) ∧ (4 : Int) + 1 = (5 : Int) := by omega
theorem q10 (x : B_ a) (y : B_ b) (z : B_ c) : (5 : Int) < (a + b + c + 38) ∧ (5 : Int) + 1 = (6 : Int) := by omega
theorem q11 (x : B_ a) (y : B_ b) (z : B_ c) : (6 : Int) < (a + b + c + 38) ∧ (6 : Int) + 1 = (7 : Int) := by omega
theorem q12 (x : B_ a) (y : B_ b) (z : B_ c) : (7 : Int) < (a + b + c + 38) ∧ (7 : Int) + 1 = (8 : Int) := by omega
theorem q13 (x : B_ a) (y : B_ b) (z : B_ c) : (8 : Int) < (a + b + c + 38) ∧ (8 : Int) + 1 = (9 : Int) := by omega
theorem q14 (x : B_ a) (y : B_ b) (z : B_ c) : (9 : Int) < (a + b + c + 38) ∧ (9 : Int) + 1 = (10 : Int) := by omega
theorem q15 (x : B_ a) (y : B_ b) (z : B_ c) : (10 : Int) < (a + b + c + 38) ∧ (10 : Int) + 1 = (11 : Int) := by omega
theorem q16 (x : B_ a) (y : B_ b) (z : B_ c) : (11 : Int) < (a + b + c + 38) ∧ (11 : Int) + 1 = (12 : Int) := by omega
theorem q17 (x : B_ a) (y : B_ b) (z : B_ c) : (12 : Int) < (a + b + c + 38) ∧ (12 : Int) + 1 = (13 : Int) := by omega
theorem q18 (x : B_ a) (y : B_ b) (z : B_ c) : (13 : Int) < (a + b + c + 38) ∧ (13 : Int) + 1 = (14 : Int) := by omega
theorem q19 (x : B_ a) (y : B_ b) (z : B_ c) : (14 : Int) < (a + b + c + 38) ∧ (14 : Int) + 1 = (15 : Int) := by omega
theorem q20 (x : B_ a) (y : B_ b) (z : B_ c) : (15 : Int) < (a + b + c + 38) ∧ (15 : Int) + 1 = (16 : Int) := by omega
theorem q21 (x : B_ a) (y : B_ b) (z : B_ c) : (16 : Int) < (a + b + c + 38) ∧ (16 : Int) + 1 = (17 : Int) := by omega
theorem q22 (x : B_ a) (y : B_ b) (z : B_ c) : (17 : Int) < (a + b + c + 38) ∧ (17 : Int) + 1 = (18 : Int) := by omega
theorem q23 (x : B_ a) (y : B_ b) (z : B_ c) : (18 : Int) < (a + b + c + 38) ∧ (18 : Int) + 1 = (19 : Int) := by omega
theorem q24 (x : B_ a) (y : B_ b) (z : B_ c) : (19 : Int) < (a + b + c + 38) ∧ (19 : Int) + 1 = (20 : Int) := by omega
theorem q25 (x : B_ a) (y : B_ b) (z : B_ c) : (20 : Int) + a ≤ (a + b + c + 38) := by omega
theorem q26 : (20 : Int) ≤ ((900 : Nat) : Int) := by omega
theorem q27 (x : B_ a) : A_ (20 : Int) a ((20 : Int) + a) (a + 20) := by omega
theorem q28 (x : B_ a) : (20 : Int) + a = (a + 20) := by omega
theorem q29 (x : B_ a) (y : B_ b) (z : B_ c) : (a + 20) < (a + b + c + 38) ∧ (a + 20) + 1 = (a + 21) := by omega
theorem q30 (x : B_ a) : A_ (a + 20) (1 : Int) ((a + 20) + (1 : Int)) (a + 21) := by omega
theorem q31 (x : B_ a) (y : B_ b) (z : B_ c) : (a + 21) < (a + b + c + 38) ∧ (a + 21) + 1 = (a + 22) := by omega
theorem q32 (x : B_ a) : A_ (a + 20) (2 : Int) ((a + 20) + (2 : Int)) (a + 22) := by omega
theorem q33 (x : B_ a) (y : B_ b) (z : B_ c) : (a + 22) < (a + b + c + 38) ∧ (a + 22) + 1 = (a + 23) := by omega
theorem q34 (x : B_ a) : A_ (a + 20) (3 : Int) ((a + 20) + (3 : Int)) (a + 23) := by omega
theorem q35 (x : B_ a) (y : B_ b) (z : B_ c) : (a + 23) < (a + b + c + 38) ∧ (a + 23) + 1 = (a + 24) := by omega
theorem q36 (x : B_ a) : A_ (a + 20) (4 : Int) ((a + 20) + (4 : Int)) (a + 24) := by omega
theorem q37 (x : B_ a) (y : B_ b) (z : B_ c) : (a + 24) < (a + b + c + 38) ∧ (a + 24) + 1 = (a + 25) := by omega
theorem q38 (x : B_ a) : A_ (a + 20) (5 : Int) ((a + 20) + (5 : Int)) (a + 25) := by omega
theorem q39 (x : B_ a) (y : B_ b) (z : B_ c) : (a + 25) < (a + b + c + 38) ∧ (a + 25) + 1 = (a + 26) := by omega
theorem q40 (x : B_ a) : A_ (a + 20) (6 : Int) ((a + 20) + (6 : Int)) (a + 26) := by omega
theorem q41 (x : B_ a) (y : B_ b) (z : B_ c) : (a + 26) < (a + b + c + 38) ∧ (a + 26) + 1 = (a + 27) := by omega
theorem q42 (x : B_ a) : A_ (a + 20) (7 : Int) ((a + 20) + (7 : Int)) (a + 27) := by omega
theorem q43 (x : B_ a) (y : B_ b) (z : B_ c) : (a + 27) < (a + b + c + 38) ∧ (a + 27) + 1 = (a + 28) := by omega
theorem q44 (x : B_ a) : A_ (a + 20) (8 : Int) ((a + 20) + (8 : Int)) (a + 28) := by omega
theorem q45 (x : B_ a) (y : B_ b) (z : B_ c) : (a + 28) < (a + b + c + 38) ∧ (a + 28) + 1 = (a + 29) := by omega
theorem q46 (x : B_ a) : A_ (a + 20) (9 : Int) ((a + 20) + (9 : Int)) (a + 29) := by omega
theorem q47 (x : B_ a) (y : B_ b) (z : B_ c) : (a + 29) < (a + b + c + 38) ∧ (a + 29) + 1 = (a + 30) := by omega
theorem q48 (x : B_ a) : A_ (a + 20) (10 : Int) ((a + 20) + (10 : Int)) (a + 30) := by omega
theorem q49 (x : B_ a) (y : B_ b) (z : B_ c) : (a + 30) + b ≤ (a + b + c + 38) := by omega
theorem q50 (x : B_ a) : (a + 30) ≤ ((900 : Nat) : Int) := by omega
theorem q51 (x : B_ a) (y : B_ b) : A_ (a + 30) b ((a + 30) + b) (a + b + 30) := by omega
theorem q52 (x : B_ a) (y : B_ b) : (a + 30) + b = (a + b + 30) := by omega
theorem q53 (x : B_ a) (y : B_ b) (z : B_ c) : (a + b + 30) < (a + b + c + 38) ∧ (a + b + 30) + 1 = (a + b + 31) := by omega
theorem q54 (x : B_ a) (y : B_ b) : A_ (a + b + 30) (1 : Int) ((a + b + 30) + (1 : Int)) (a + b + 31) := by omega
theorem q55 (x : B_ a) (y : B_ b) (z : B_ c) : (a + b + 31) < (a + b + c + 38) ∧ (a + b + 31) + 1 = (a + b + 32) := by omega
theorem q56 (x : B_ a) (y : B_ b) : A_ (a + b + 30) (2 : Int) ((a + b + 30) + (2 : Int)) (a + b + 32) := by omega
theorem q57 (x : B_ a) (y : B_ b) (z : B_ c) : (a + b + 32) < (a + b + c + 38) ∧ (a + b + 32) + 1 = (a + b + 33) := by omega
theorem q58 (x : B_ a) (y : B_ b) : A_ (a + b + 30) (3 : Int) ((a + b + 30) + (3 : Int)) (a + b + 33) := by omega
theorem q59 (x : B_ a) (y : B_ b) (z : B_ c) : (a + b + 33) < (a + b + c + 38) ∧ (a + b + 33) + 1 = (a + b + 34) := by omega
theorem q60 (x : B_ a) (y : B_ b) : A_ (a + b + 30) (4 : Int) ((a + b + 30) + (4 : Int)) (a + b + 34) := by omega
theorem q61 (x : B_ a) (y : B_ b) (z : B_ c) : (a + b + 34) < (a + b + c + 38) ∧ (a + b + 34) + 1 = (a + b + 35) := by omega
theorem q62 (x : B_ a) (y : B_ b) : A_ (a + b + 30) (5 : Int) ((a + b + 30) + (5 : Int)) (a + b + 35) := by omega
theorem q63 (x : B_ a) (y : B_ b) (z : B_ c) : (a + b + 35) < (a + b + c + 38) ∧ (a + b + 35) + 1 = (a + b + 36) := by omega
theorem q64 (x : B_ a) (y : B_ b) : A_ (a + b + 30) (6 : Int) ((a + b + 30) + (6 : Int)) (a + b + 36) := by omega
theorem q65 (x : B_ a) (y : B_ b) (z : B_ c) : (a + b + 36) < (a + b + c + 38) ∧ (a + b + 36) + 1 = (a + b + 37) := by omega
theorem q66 (x : B_ a) (y : B_ b) : A_ (a + b + 30) (7 : Int) ((a + b + 30) + (7 : Int)) (a + b + 37) := by omega
theorem q67 (x : B_ a) (y : B_ b) (z : B_ c) : (a + b + 37) + c ≤ (a + b + c + 38) := by omega
theorem q68 (x : B_ a) (y : B_ b) : (a + b + 37) ≤ ((900 : Nat) : Int) := by omega
theorem q69 (x : B_ a) (y : B_ b) (z : B_ c) : A_ (a + b + 37) c ((a + b + 37) + c) (a + b + c + 37) := by omega
theorem q70 (x : B_ a) (y : B_ b) (z : B_ c) : (a + b + 37) + c = (a + b + c + 37) := by omega
theorem q71 (x : B_ a) (y : B_ b) (z : B_ c) : (a + b + c + 37) < (a + b + c + 38) ∧ (a + b + c + 37) + 1 = (a + b + c + 38) := by omega
theorem q72 (x : B_ a) (y : B_ b) (z : B_ c) : (a + b + c + 38) < 100000 := by omega
theorem q73 (x : B_ a) (y : B_ b) (z : B_ c) : 0 < (a + b + c + 38) := by omega
theorem q74 (x : B_ a) (y : B_ b) (z : B_ c) : (a + b + c + 38) ≤ ((4000 : Nat) : Int) := by omega
theorem q75 (x : B_ a) (y : B_ b) (z : B_ c) : A_ (a + b + c + 37) (1 : Int) ((a + b + c + 37) + (1 : Int)) (a + b + c + 38) := by omega
theorem q76 (x : B_ a) (y : B_ b) (z : B_ c) : (a + b + c + 38) = (a + b + c + 38) := by omega
theorem q77 : 0 ≤ (0 : Int) ∧ 0 ≤ (16 : Int) ∧ (0 : Int) + (16 : Int) ≤ (16 : Int) := by omega
theorem q78 : 0 ≤ (0 : Int) ∧ 0 ≤ (16 : Int) ∧ (0 : Int) + (16 : Int) ≤ (34 : Int) := by omega
theorem q79 : (0 : Int) ≤ (16 : Int) := by omega
theorem q80 : 0 ≤ (0 : Int) ∧ 0 ≤ (20 : Int) ∧ (0 : Int) + (20 : Int) ≤ (20 : Int) := by omega
theorem q81 : 0 ≤ (0 : Int) ∧ 0 ≤ (20 : Int) ∧ (0 : Int) + (20 : Int) ≤ (34 : Int) := by omega
theorem q82 : (20 : Int) ≤ (20 : Int) := by omega
theorem q83 (x : B_ a) : A_ (a + 20) (34 : Int) ((a + 20) - (34 : Int)) (a - 14) := by omega
theorem q84 (x : B_ a) : ¬ (0 : Int) < (a - 14) := by omega
theorem q85 (x : B_ a) : (20 : Int) + a ≤ (34 : Int) := by omega
theorem q86 (x : B_ a) : A_ (a + 30) (34 : Int) ((a + 30) - (34 : Int)) (a - 4) := by omega
theorem q87 (x : B_ a) : (a - 4) < (36 : Int) := by omega
theorem q88 : 0 ≤ (0 : Int) ∧ 0 ≤ (34 : Int) ∧ (0 : Int) + (34 : Int) ≤ (34 : Int) := by omega
theorem q89 : 0 ≤ (0 : Int) ∧ 0 ≤ (34 : Int) ∧ (0 : Int) + (34 : Int) ≤ (70 : Int) := by omega
theorem q90 (x : B_ a) : (a + 20) ≤ (34 : Int) := by omega
theorem q91 (x : B_ a) : 0 ≤ (a + 20) := by omega
theorem q92 : 0 ≤ (0 : Int) ∧ 0 ≤ (10 : Int) ∧ (0 : Int) + (10 : Int) ≤ (10 : Int) := by omega
theorem q93 (x : B_ a) : 0 ≤ (a + 20) ∧ 0 ≤ (10 : Int) ∧ (a + 20) + (10 : Int) ≤ (70 : Int) := by omega
theorem q94 : (10 : Int) ≤ (10 : Int) := by omega
theorem q95 (x : B_ a) (y : B_ b) : A_ (a + b + 30) (70 : Int) ((a + b + 30) - (70 : Int)) (a + b - 40) := by omega
theorem q96 (x : B_ a) (y : B_ b) : ¬ (0 : Int) < (a + b - 40) := by omega
theorem q97 (x : B_ a) : (a + 20) + (10 : Int) = (a + 30) := by omega
theorem q98 (x : B_ a) (y : B_ b) : (a + 30) + b ≤ (70 : Int) := by omega
theorem q99 (x : B_ a) (y : B_ b) : A_ (a + b + 37) (70 : Int) ((a + b + 37) - (70 : Int)) (a + b - 33) := by omega
theorem q100 (x : B_ a) (y : B_ b) : ¬ (0 : Int) < (a + b - 33) := by omega
theorem q101 (x : B_ a) (y : B_ b) : 0 ≤ (a + b + 30) := by omega
theorem q102 : 0 ≤ (0 : Int) ∧ 0 ≤ (7 : Int) ∧ (0 : Int) + (7 : Int) ≤ (7 : Int) := by omega
theorem q103 (x : B_ a) (y : B_ b) : 0 ≤ (a + b + 30) ∧ 0 ≤ (7 : Int) ∧ (a + b + 30) + (7 : Int) ≤ (70 : Int) := by omega
theorem q104 : (7 : Int) ≤ (7 : Int) := by omega
theorem q105 (x : B_ a) (y : B_ b) (z : B_ c) : A_ (a + b + c + 37) (70 : Int) ((a + b + c + 37) - (70 : Int)) (a + b + c - 33) := by omega
theorem q106 (x : B_ a) (y : B_ b) (z : B_ c) : ¬ (0 : Int) < (a + b + c - 33) := by omega
theorem q107 (x : B_ a) (y : B_ b) : (a + b + 30) + (7 : Int) = (a + b + 37) := by omega
theorem q108 (x : B_ a) (y : B_ b) (z : B_ c) : (a + b + 37) + c ≤ (70 : Int) := by omega
theorem q109 (x : B_ a) (y : B_ b) (z : B_ c) : A_ (a + b + c + 38) (70 : Int) ((a + b + c + 38) - (70 : Int)) (a + b + c - 32) := by omega
theorem q110 (x : B_ a) (y : B_ b) (z : B_ c) : (a + b + c - 32) < (72 : Int) := by omega
theorem q111 : 0 ≤ (0 : Int) ∧ 0 ≤ (70 : Int) ∧ (0 : Int) + (70 : Int) ≤ (70 : Int) := by omega
theorem q112 : 0 ≤ (0 : Int) ∧ 0 ≤ (70 : Int) ∧ (0 : Int) + (70 : Int) ≤ (142 : Int) := by omega
theorem q113 (x : B_ a) (y : B_ b) (z : B_ c) : (a + b + c + 37) ≤ (70 : Int) := by omega
theorem q114 (x : B_ a) (y : B_ b) (z : B_ c) : 0 ≤ (a + b + c + 37) := by omega
theorem q115 : 0 ≤ (0 : Int) ∧ 0 ≤ (1 : Int) ∧ (0 : Int) + (1 : Int) ≤ (1 : Int) := by omega
theorem q116 (x : B_ a) (y : B_ b) (z : B_ c) : 0 ≤ (a + b + c + 37) ∧ 0 ≤ (1 : Int) ∧ (a + b + c + 37) + (1 : Int) ≤ (142 : Int) := by omega
theorem q117 : (1 : Int) ≤ (1 : Int) := by omega
theorem q118 (x : B_ a) (y : B_ b) (z : B_ c) : ¬ (a + b + c + 38) = (142 : Int) := by omega
theorem q119 (x : B_ a) (y : B_ b) (z : B_ c) : ¬ (a + b + c + 38) < (0 : Int) := by omega
theorem q120 (x : B_ a) (y : B_ b) (z : B_ c) : A_ (a + b + c + 38) (0 : Int) ((a + b + c + 38) - (0 : Int)) (a + b + c + 38) := by omega
theorem q121 (x : B_ a) (y : B_ b) (z : B_ c) : (a + b + c + 38) < (142 : Int) := by omega
theorem q122 (x : B_ a) (y : B_ b) (z : B_ c) : 0 ≤ (0 : Int) ∧ 0 ≤ (a + b + c + 38) ∧ (0 : Int) + (a + b + c + 38) ≤ (142 : Int) := by omega
theorem q123 (x : B_ a) (y : B_ b) (z : B_ c) : 0 ≤ (0 : Int) ∧ 0 ≤ (a + b + c + 38) ∧ (0 : Int) + (a + b + c + 38) ≤ (a + b + c + 38) := by omega
theorem q124 (x : B_ a) (y : B_ b) (z : B_ c) : (a + b + c + 37) + (1 : Int) = (a + b + c + 38) := by omega
theorem q125 (x : B_ a) (y : B_ b) (z : B_ c) : (a + b + c + 38) ≤ (a + b + c + 38) := by omega
theorem q126 (x : B_ a) (y : B_ b) (z : B_ c) (f : ¬ (0 : Int) < (a + b + c - 32)) : 0 ≤ (a + b + c + 37) ∧ 0 ≤ (1 : Int) ∧ (a + b + c + 37) + (1 : Int) ≤ (70 : Int) := by omega
theorem q127 (x : B_ a) (y : B_ b) (z : B_ c) (f : ¬ (0 : Int) < (a + b + c - 32)) (g : ¬ (a + b + c + 38) = (70 : Int)) : (a + b + c + 38) < (70 : Int) := by omega
theorem q128 (x : B_ a) (y : B_ b) (z : B_ c) (f : ¬ (0 : Int) < (a + b + c - 32)) : 0 ≤ (0 : Int) ∧ 0 ≤ (a + b + c + 38) ∧ (0 : Int) + (a + b + c + 38) ≤ (70 : Int) := by omega
theorem q129 (x : B_ a) (f : ¬ (0 : Int) < (a - 4)) : 0 ≤ (a + 20) ∧ 0 ≤ (10 : Int) ∧ (a + 20) + (10 : Int) ≤ (34 : Int) := by omega
theorem q130 (x : B_ a) (y : B_ b) : A_ (a + b + 30) (34 : Int) ((a + b + 30) - (34 : Int)) (a + b - 4) := by omega
theorem q131 (x : B_ a) (y : B_ b) : (a + b - 4) < (36 : Int) := by omega
theorem q132 (x : B_ a) (f : ¬ (0 : Int) < (a - 4)) : (a + 30) ≤ (34 : Int) := by omega
theorem q133 (x : B_ a) (y : B_ b) (z : B_ c) (f : ¬ (0 : Int) < (a - 4)) : ¬ (0 : Int) < (a + b + c - 32) := by omega
theorem q134 (x : B_ a) (y : B_ b) (z : B_ c) (f : ¬ (0 : Int) < (a - 4)) : 0 ≤ (a + b + c + 37) ∧ 0 ≤ (1 : Int) ∧ (a + b + c + 37) + (1 : Int) ≤ (70 : Int) := by omega
theorem q135 (x : B_ a) (y : B_ b) (z : B_ c) (f : ¬ (0 : Int) < (a - 4)) : ¬ (a + b + c + 38) = (70 : Int) := by omega
theorem q136 (x : B_ a) (y : B_ b) (z : B_ c) (f : ¬ (0 : Int) < (a - 4)) : (a + b + c + 38) < (70 : Int) := by omega
theorem q137 (x : B_ a) (y : B_ b) (z : B_ c) (f : ¬ (0 : Int) < (a - 4)) : 0 ≤ (0 : Int) ∧ 0 ≤ (a + b + c + 38) ∧ (0 : Int) + (a + b + c + 38) ≤ (70 : Int) := by omega
theorem q138 (x : B_ a) (y : B_ b) (f : ¬ (0 : Int) < (a + b - 4)) : (a + 30) + b ≤ (34 : Int) := by omega
theorem q139 (x : B_ a) (y : B_ b) : A_ (a + b + 37) (34 : Int) ((a + b + 37) - (34 : Int)) (a + b + 3) := by omega
theorem q140 (x : B_ a) (y : B_ b) : (0 : Int) < (a + b + 3) := by omega
theorem q141 (x : B_ a) (y : B_ b) : (a + b + 3) < (36 : Int) := by omega
theorem q142 (x : B_ a) (y : B_ b) (f : ¬ (0 : Int) < (a + b - 4)) : (a + b + 30) ≤ (34 : Int) := by omega
end Lq
theorem i0_ : (0 : Int32).toInt = 0 := rfl
theorem i1_ : (1 : Int32).toInt = 1 := rfl
theorem i2_ : (2 : Int32).toInt = 2 := rfl
theorem i3_ : (3 : Int32).toInt = 3 := rfl
theorem i4_ : (4 : Int32).toInt = 4 := rfl
theorem i5_ : (5 : Int32).toInt = 5 := rfl
theorem i6_ : (6 : Int32).toInt = 6 := rfl
theorem i7_ : (7 : Int32).toInt = 7 := rfl
theorem i8_ : (8 : Int32).toInt = 8 := rfl
theorem i9_ : (9 : Int32).toInt = 9 := rfl
theorem i10_ : (10 : Int32).toInt = 10 := rfl
theorem i11_ : (11 : Int32).toInt = 11 := rfl
theorem i12_ : (12 : Int32).toInt = 12 := rfl
theorem i13_ : (13 : Int32).toInt = 13 := rfl
theorem i14_ : (14 : Int32).toInt = 14 := rfl
theorem i15_ : (15 : Int32).toInt = 15 := rfl
theorem i16_ : (16 : Int32).toInt = 16 := rfl
theorem i17_ : (17 : Int32).toInt = 17 := rfl
theorem i18_ : (18 : Int32).toInt = 18 := rfl
theorem i19_ : (19 : Int32).toInt = 19 := rfl
theorem i20_ : (20 : Int32).toInt = 20 := rfl
theorem i34_ : (34 : Int32).toInt = 34 := rfl
theorem i36_ : (36 : Int32).toInt = 36 := rfl
theorem i38_ : (38 : Int32).toInt = 38 := rfl
theorem i70_ : (70 : Int32).toInt = 70 := rfl
theorem i72_ : (72 : Int32).toInt = 72 := rfl
theorem i142_ : (142 : Int32).toInt = 142 := rfl
theorem own_kK1_ : (K1_.length : Int) = 20 := rfl
theorem own_kK2_ : (K2_.length : Int) = 10 := rfl
theorem own_kK3_ : (K3_.length : Int) = 7 := rfl
theorem own_kK4_ : (K4_.length : Int) = 1 := rfl
theorem own_sub0 (a : Int32) : a - (0 : Int32) = a := by
  apply Int32.toBitVec_inj.mp
  show a.toBitVec - 0#32 = a.toBitVec
  simp
theorem own_nE {Z : State} {h : Heap} {a : Addr} {k : ClassId} {ty : FieldType} {N N' : Int32} {vs : List Value} {dv : Value} (F : Arv Z h a k ty N vs dv) (e : N = N') : Arv Z h a k ty N' vs dv := e ▸ F
theorem own_ngP {x g : Int32} (h : (g = (0 : Int32) ∧ ¬ x < 0) ∨ (¬ g = (0 : Int32) ∧ x < 0)) (q : g = (0 : Int32)) : ¬ x < 0 := h.elim (fun z => z.2) (fun z => absurd q z.1)
theorem own_ngN {x g : Int32} (h : (g = (0 : Int32) ∧ ¬ x < 0) ∨ (¬ g = (0 : Int32) ∧ x < 0)) (q : ¬ g = (0 : Int32)) : x < 0 := h.elim (fun z => absurd z.1 q) (fun z => z.2)
theorem own_up7 (cs : List Int32) (h : ∀ c ∈ cs, ¬ c < 0 ∧ ¬ (127 : Int32) < c) : ∀ c ∈ cs, ¬ c < 0 ∧ ¬ (255 : Int32) < c := fun c hc => ⟨(h c hc).1, fun q => (h c hc).2 (by
  have e1 : (127 : Int32).toInt = 127 := rfl
  have e2 : (255 : Int32).toInt = 255 := rfl
  rw [Int32.lt_iff_toInt_lt] at *; omega)⟩
theorem own_lo7 {x : Int32} (h : ¬ x < 0 ∧ ¬ (127 : Int32) < x) : x.toInt8.toInt32 = x := by
  have e0 : (0 : Int32).toInt = 0 := rfl
  have e1 : (127 : Int32).toInt = 127 := rfl
  have h1 := h.1
  have h2 := h.2
  rw [Int32.lt_iff_toInt_lt, e0] at h1
  rw [Int32.lt_iff_toInt_lt, e1] at h2
  have e : x = Int32.ofNat x.toInt.toNat := by
    apply Int32.toInt_inj.mp
    rw [Int32.toInt_ofNat_small (by omega)]; omega
  have t : ∀ k : Fin 128, (Int32.ofNat k.val).toInt8.toInt32 = Int32.ofNat k.val := by decide +kernel
  rw [e]; exact t ⟨x.toInt.toNat, by omega⟩
theorem own_codI {D : List Int32} {n : Int32} (h : ∀ c ∈ D, ¬ c < 0 ∧ ¬ (127 : Int32) < c) (hn : n = Int32.ofNat D.length) : StrChars.Road.CodA D 0 n (D.map Value.int) :=
  Or.inl ⟨rfl, hn, List.map_congr_left (fun c hc => congrArg Value.int (own_lo7 (h c hc)).symm), fun c hc => (own_up7 D h c hc).2⟩
theorem own_codN {D : List Int32} {n : Int32} (h : ∀ c ∈ D, ¬ c < 0 ∧ ¬ (255 : Int32) < c) (hn : n = Int32.ofNat D.length) : StrChars.Road.CodA D 0 n ((D.map (fun c => c.toInt8.toInt32)).map Value.int) := by
  rw [hn]; exact StrChars.Road.codOf rfl (fun x hx => (h x hx).2)
theorem own_slb {a n b c : Nat} (h : n ≤ c) (h2 : a + c ≤ b) : a + n ≤ b := by omega
theorem own_lapp {A B : List Int32} {k : Int32} (ha : ∀ c ∈ A, ¬ c < 0 ∧ ¬ k < c) (hb : ∀ c ∈ B, ¬ c < 0 ∧ ¬ k < c) : ∀ c ∈ A ++ B, ¬ c < 0 ∧ ¬ k < c := fun c hc => (List.mem_append.mp hc).elim (ha c) (hb c)
theorem own_dec127 (x : Int32) : ∀ c ∈ own_dec x, ¬ c < 0 ∧ ¬ (127 : Int32) < c := own_dec_lat x
theorem own_dec255 (x : Int32) : ∀ c ∈ own_dec x, ¬ c < 0 ∧ ¬ (255 : Int32) < c := fun c hc => ⟨(own_dec_lat x c hc).1, fun q => (own_dec_lat x c hc).2 (by
  have e1 : (127 : Int32).toInt = 127 := rfl
  have e2 : (255 : Int32).toInt = 255 := rfl
  rw [Int32.lt_iff_toInt_lt] at *; omega)⟩
theorem own_natI {a : Int32} {n : Nat} (h : a.toInt = n) : a.toNatClampNeg = n := by simp only [Int32.toNatClampNeg]; omega
theorem own_in0 {p N : Int32} {L m : Nat} (hp : p.toInt = L) (hN : ((L + m : Nat) : Int) ≤ N.toInt) (hm : 1 ≤ m) : ¬ p < 0 ∧ p < N := by
  have e0 : (0 : Int32).toInt = 0 := rfl
  rw [Int32.lt_iff_toInt_lt, Int32.lt_iff_toInt_lt, hp, e0]; omega
theorem own_p1 {p c : Int32} {P : List Int32} (hp : p.toInt = (P.length : Int)) (hL : P.length ≤ 1000) : (p + (1 : Int32)).toInt = ((P ++ ([c] : List Int32)).length : Int) := by
  have e1 : (1 : Int32).toInt = 1 := rfl
  rw [XT.add32 (by rw [hp, e1]; constructor <;> omega), hp, e1, List.length_append]; simp
theorem own_dNN {x N : Int32} {P : List Int32} (h : x.toInt64 < 0) (hN : ((P.length + (own_dec x).length : Nat) : Int) ≤ N.toInt) : (((P ++ ([45] : List Int32)).length + own_wn (-x.toInt64) : Nat) : Int) ≤ N.toInt := by
  rw [own_lenN h] at hN; rw [List.length_append]; simp only [List.length_cons, List.length_nil]; omega
theorem own_dNP {x N : Int32} {P : List Int32} (h : ¬ x.toInt64 < 0) (hN : ((P.length + (own_dec x).length : Nat) : Int) ≤ N.toInt) : ((P.length + own_wn x.toInt64 : Nat) : Int) ≤ N.toInt := by
  rw [own_lenP h] at hN; exact hN
theorem own_finN {x : Int32} {P L : List Int32} (h : x.toInt64 < 0) (e : L = (P ++ ([45] : List Int32)) ++ own_digs (-x.toInt64).toInt.toNat) : L = P ++ (own_dec x) := by rw [e, own_decN h, List.append_assoc]
theorem own_finP {x : Int32} {P L : List Int32} (h : ¬ x.toInt64 < 0) (e : L = P ++ own_digs (x.toInt64).toInt.toNat) : L = P ++ (own_dec x) := by rw [e, own_decP h]
section Own5
variable {p : Program} {l : Launch} {e : Env} {R : Room} {s : State} {m : MethodId} {args : Array Value} {below : List Frame} {meth : Method} {c : Code} {T : State} {locs : List Loc} {cells slots : Nat} {Z : State} {h : Heap} {own C K : String} {index : Nat} {y : MethodName} {bytes : ByteArray} {maxL : Nat} {ret : Option FieldType} {rm : Room} {Q : Option Value → Heap → List Loc → Prop} {argsL : List Value} {ps : List FieldType} {r : Option FieldType} {a0 : Array Value} {a : Addr}
theorem own_cP (C' S' : Nat) (rest : List Value) (pc : Nat) (Ls : Array Slot) (X : Stand p l e R s m args below meth c T locs cells slots) (hx : p.tables.exec = Jvm.exec) (hZ : Z.Warmed39 s.vm) (hown : s.vm.findClass own = some m.cls) (E : Exa Z h a K) (w1 : (Cond.methodLink own index y).before a0 Z = true) (w2 : (Cond.instanceMethod y).before a0 Z = true) (ws : (Cond.selects C y y).before a0 Z = true) (wp : (Cond.privateMethod y).before a0 Z = true) (w3 : (Cond.initialized y.cls).before a0 Z = true) (w4 : (Cond.code y bytes maxL ret).before a0 Z = true)
    (hM : MF l Z y bytes maxL ret rm (.ref a :: argsL).toArray h Q) (pd : parseMethodDescriptor y.desc = some ⟨ps, r⟩) (hsz : Ls.size = c.maxLocals) (hd : decode c.code pc = .ok (.invokevirtual index, 3)) (hE : T.heap = h) (hl : argsL.length = ps.length) (hc : cells + rm.cells = C') (hs : slots + rm.slots = S') (hn : own_num rm R rest maxL cells slots = true) (hy : y.cls ≠ "java/lang/invoke/MethodHandle" ∧ y.cls ≠ "java/lang/invoke/VarHandle") :
    ∃ (v : Option Value) (T' : State) (L : List Loc), Stand p l e R s m args below meth c T' (locs ++ L) C' S' ∧ Q v T'.heap L ∧ ∀ target, Steps p.tables e below (T'.setTop (mkF m (pc + 3) Ls (v.toList ++ rest))) target → Steps p.tables e below (T.setTop (mkF m pc Ls (argsL.reverse ++ .ref a :: rest))) target := by
  obtain ⟨n1, n2, n3, n4⟩ := own_numE hn
  obtain ⟨cq, q, q'⟩ := E.cell
  have hp := Cond.privateMethod_at (mvP hZ wp (args := #[]))
  obtain ⟨v, T', L, h1, h2, h3⟩ := own_cb cells slots rm.cells rm.slots C' S' (X.privateBack hx hown (mvT hZ w1) (mvT hZ w2) (own_selP (mvT hZ ws) hp (mvT hZ w2) hy) hp (mvT hZ w4) hy (backOf (W := (rest.map fun v => v.category).sum) hM hZ w4 w3 n1 n2) (g := mkF m pc Ls (argsL.reverse ++ .ref a :: rest)) rfl hsz (Steps.refl _) (a := a) (by rw [hE]; exact q) q' (argsL := argsL) (rest := rest) (lenOf pd hl) rfl (Nat.le_of_eq (Nat.zero_add _)) hd (fun _ _ => ⟨rfl, hE, n3, n4⟩)) hc hs
  exact ⟨v, T', L, h1, h2, fun t k => Steps.trans h3 k⟩
theorem own_cU (C' S' : Nat) (rest : List Value) (pc : Nat) (Ls : Array Slot) (X : Stand p l e R s m args below meth c T locs cells slots) (hx : p.tables.exec = Jvm.exec) (hZ : Z.Warmed39 s.vm) (hown : s.vm.findClass own = some m.cls) (E : Exa Z h a K) (w1 : (Cond.methodLink own index y).before a0 Z = true) (w2 : (Cond.sameMethod y.cls y.cls y.name y.desc).before a0 Z = true) (wi : (Cond.instanceMethod y).before a0 Z = true) (ws : (Cond.superclass own y.cls).before a0 Z = true) (w3 : (Cond.initialized y.cls).before a0 Z = true) (w4 : (Cond.code y bytes maxL ret).before a0 Z = true)
    (hM : MF l Z y bytes maxL ret rm (.ref a :: argsL).toArray h Q) (pd : parseMethodDescriptor y.desc = some ⟨ps, r⟩) (hsz : Ls.size = c.maxLocals) (hd : decode c.code pc = .ok (.invokespecial index, 3)) (hE : T.heap = h) (hl : argsL.length = ps.length) (hc : cells + rm.cells = C') (hs : slots + rm.slots = S') (hn : own_num rm R rest maxL cells slots = true) (hy : y.name ≠ "<init>") :
    ∃ (v : Option Value) (T' : State) (L : List Loc), Stand p l e R s m args below meth c T' (locs ++ L) C' S' ∧ Q v T'.heap L ∧ ∀ target, Steps p.tables e below (T'.setTop (mkF m (pc + 3) Ls (v.toList ++ rest))) target → Steps p.tables e below (T.setTop (mkF m pc Ls (argsL.reverse ++ .ref a :: rest))) target := by
  obtain ⟨n1, n2, n3, n4⟩ := own_numE hn
  obtain ⟨v, T', L, h1, h2, h3⟩ := own_cb cells slots rm.cells rm.slots C' S' (superBack X hx hZ hown w1 w2 wi ws hy (backOf (W := (rest.map fun v => v.category).sum) hM hZ w4 w3 n1 n2) hE (Ins.self E) (g := mkF m pc Ls (argsL.reverse ++ .ref a :: rest)) rfl hsz w4 (argsL := argsL) (rest := rest) (lenOf pd hl) rfl (Nat.le_of_eq (Nat.zero_add _)) hd (fun _ _ => ⟨rfl, hE, n3, n4⟩)) hc hs
  exact ⟨v, T', L, h1, h2, fun t k => Steps.trans h3 k⟩
theorem own_gF (pc : Nat) (Ls : Array Slot) (rest : List Value) (X : Stand p l e R s m args below meth c T locs cells slots) (hx : p.tables.exec = Jvm.exec) (hZ : Z.Warmed39 s.vm) {R0 O n d : String} (hown : s.vm.findClass own = some m.cls) (w : (Cond.fieldLink own index R0 n d).before a0 Z = true) (via : Via Z R0 O n d) (eT : T.heap = h) {v : Value} (F : Fld Z h a O n d v) (hd : decode c.code pc = .ok (.getfield index, 3)) :
    ∃ T', Stand p l e R s m args below meth c T' locs cells slots ∧ T'.heap = h ∧ ∀ target, Steps p.tables e below (T'.setTop (mkF m (pc + 3) Ls (v :: rest))) target → Steps p.tables e below (T.setTop (mkF m pc Ls (.ref a :: rest))) target :=
  getF (host := "") X hx hZ hown (Or.inl w) via eT F (g := mkF m pc Ls (.ref a :: rest)) rfl rfl hd
end Own5
theorem own_repl (n : Nat) : ∀ (P : List Int32) (i : Nat), ((P ++ List.replicate n 0).map Value.int).getD i (.int 0) = (P.map Value.int).getD i (.int 0) := fun P i => by
  rw [List.map_append, List.map_replicate]; exact pad_rep _ _ _ i
section PA
variable {Z : State} {h h' : Heap} {a : Addr} {k : ClassId} {ty : FieldType} {N : Int32}
theorem own_push {P : List Int32} {j z : Int32} (F : Arv Z h a k ty N (P.map Value.int) (.int 0)) (hj : j.toNatClampNeg = P.length) (hf : fits ty (.int (nar ty z)) = true) (hn : nar ty z = z) (W : Wr h h' a j.toNatClampNeg (.int (nar ty z))) : Arv Z h' a k ty N ((P ++ [z]).map Value.int) (.int 0) := by
  obtain ⟨c, A, q1, S, q3, H, G⟩ := F.pad (own_repl 1 P)
  have q := Arv.set A q1 S q3 H G hf W _ hj (by simp)
  rw [hn] at q
  have e : ((P ++ List.replicate 1 0).map Value.int).set P.length (.int z) = (P ++ [z]).map Value.int := by
    rw [← List.map_set]; congr 1; simp
  rw [e] at q; exact q
theorem own_back1 {P : List Int32} {j z : Int32} (m : Nat) (F : Arv Z h a k ty N (P.map Value.int) (.int 0)) (hj : j.toNatClampNeg = P.length + m) (hf : fits ty (.int (nar ty z)) = true) (hn : nar ty z = z) (W : Wr h h' a j.toNatClampNeg (.int (nar ty z))) : Arv Z h' a k ty N ((P ++ List.replicate m 0 ++ [z]).map Value.int) (.int 0) := by
  have F2 : Arv Z h a k ty N ((P ++ List.replicate m 0).map Value.int) (.int 0) := F.pad (own_repl m P)
  exact own_push F2 (by rw [hj]; simp) hf hn W
theorem own_back2 {P T : List Int32} {j z : Int32} (m m' : Nat) (hm : m' = m + 1) (F : Arv Z h a k ty N ((P ++ List.replicate m' 0 ++ T).map Value.int) (.int 0)) (hj : j.toNatClampNeg = P.length + m) (hf : fits ty (.int (nar ty z)) = true) (hn : nar ty z = z) (W : Wr h h' a j.toNatClampNeg (.int (nar ty z))) : Arv Z h' a k ty N ((P ++ List.replicate m 0 ++ (z :: T)).map Value.int) (.int 0) := by
  subst hm
  obtain ⟨c, A, q1, S, q3, H, G⟩ := F
  have q := Arv.set A q1 S q3 H G hf W _ hj (by simp; omega)
  rw [hn] at q
  have e : ((P ++ List.replicate (m + 1) 0 ++ T).map Value.int).set (P.length + m) (.int z) = (P ++ List.replicate m 0 ++ (z :: T)).map Value.int := by
    rw [← List.map_set]; congr 1
    rw [List.replicate_succ', List.append_assoc, List.append_assoc, List.append_assoc]
    rw [List.set_append_right _ _ (by omega)]
    congr 1
    rw [Nat.add_sub_cancel_left]
    rw [List.set_append_right _ _ (by simp)]
    simp
  rw [e] at q; exact q
theorem own_sub1 {L L' : List Int32} (F : Arv Z h a k ty N (L.map Value.int) (.int 0)) (e : L = L') : Arv Z h a k ty N (L'.map Value.int) (.int 0) := e ▸ F
end PA
theorem own_cpl {S D : List Int32} {nn dp : Nat} (hd : dp = D.length) (hn : S.length ≤ nn) : ∀ i, ((D ++ S).map Value.int).getD i (.int 0) = ((((D ++ List.replicate nn 0).map Value.int).take dp ++ (List.range nn).map (fun i => (S.map Value.int).getD (0 + i) (.int 0)) ++ ((D ++ List.replicate nn 0).map Value.int).drop (dp + nn))).getD i (.int 0) := by
  subst hd
  have e1 : ((D ++ List.replicate nn 0).map Value.int).take D.length = D.map Value.int := by
    rw [List.map_append, List.take_append_of_le_length (by simp)]
    rw [List.take_of_length_le (by simp)]
  have e2 : ((D ++ List.replicate nn 0).map Value.int).drop (D.length + nn) = [] := by
    apply List.drop_of_length_le; simp
  have e3 : (List.range nn).map (fun i => (S.map Value.int).getD (0 + i) (.int 0)) = (S ++ List.replicate (nn - S.length) 0).map Value.int := by
    apply List.ext_getElem?
    intro i
    simp only [List.getElem?_map, List.getElem?_range, Nat.zero_add]
    by_cases q : i < nn
    · rw [List.getElem?_range q]
      simp only [Option.map_some, List.getD_eq_getElem?_getD, List.getElem?_map]
      by_cases q2 : i < S.length
      · rw [List.getElem?_append_left q2, List.getElem?_eq_getElem q2]; rfl
      · rw [List.getElem?_append_right (by omega), List.getElem?_eq_none (by omega : S.length ≤ i), List.getElem?_replicate, if_pos (by omega)]; rfl
    · rw [List.getElem?_eq_none (by simp; omega), List.getElem?_eq_none (by simp; omega)]; rfl
  intro i
  rw [e1, e2, e3, List.append_nil, ← List.map_append, ← List.append_assoc]
  exact (own_repl _ _ i).symm
theorem own_stK {p : Program} {l : Launch} {e : Env} {R : Room} {s : State} {m : MethodId} {args : Array Value} {below : List Frame} {meth : Method} {c : Code} {T : State} {locs : List Loc} {cells slots n0 : Nat} {Z : State} {h h0 : Heap} {EL : List (String × Nat)} {vm0 : Vm} {a : Addr} {k : ClassId} {N j z : Int32} {P P' : List Int32} {x x' u : Int} {pc : Nat} (X : Stand p l e R s m args below meth c T locs cells slots) (hx : p.tables.exec = Jvm.exec) (hZ : Z.Warmed39 s.vm) (eT : T.heap = h) (Nf : Fr n0 locs) (K : Keep h0 h []) (hC : CHv Z EL s.vm h) (hR : CHr Z EL vm0 h0 s.vm h)
    (F : Arv Z h a k .char N (P.map Value.int) (.int 0)) (ga : n0 ≤ a) (sa : h0.size ≤ a) (hj : j.toInt = x) (hP : (P.length : Int) = x) (hN : N.toInt = u) (q : x < u ∧ x + 1 = x') (hn : nar .char z = z) (eP : P ++ [z] = P') (hd : decode c.code pc = .ok (.castore, 1)) :
    ∃ T' h' L', Stand p l e R s m args below meth c T' L' cells slots ∧ T'.heap = h' ∧ Fr n0 L' ∧ Keep h h' [a] ∧ Keep h0 h' [] ∧ CHv Z EL s.vm h' ∧ CHr Z EL vm0 h0 s.vm h' ∧ Arv Z h' a k .char N (P'.map Value.int) (.int 0) ∧ (P'.length : Int) = x' ∧
      ∀ Ls rest target, Steps p.tables e below (T'.setTop (mkF m (pc + 1) Ls rest)) target → Steps p.tables e below (T.setTop (mkF m pc Ls (.int z :: .int j :: .ref a :: rest))) target := by
  obtain ⟨q1, q2⟩ := q
  subst eP
  have hj2 : j.toNatClampNeg = P.length := own_natT hj hP
  have F0 := F
  obtain ⟨cl, A, c1, S, c2, H, Gf⟩ := F0
  have hin := inb_of S (And.intro (own_nnT hj (by omega)) (own_ltT hj hN q1))
  have hcell : T.heap[a]? = some cl := by rw [eT]; exact A.1
  have G := fun Ls rest => castoreIn X hx hcell (State.isArrayOf_alike hZ.alike A.2.1) A.2.2 hin (g := mkF m pc Ls (.int z :: .int j :: .ref a :: rest)) rfl rfl hd
  have W : Wr h (T.setCell a (cl.setSlot j.toNatClampNeg (.int (nar .char z)))).heap a j.toNatClampNeg (.int (nar .char z)) := ⟨cl, A.1, A.plain, Nat.lt_of_not_le fun q => hin (Or.inr q), by rw [← eT]; rfl⟩
  have Sf := Safe.arv (EL := EL) hZ.alike F (by simp)
  have X' := (G #[] []).1
  exact ⟨_, _, _, X', rfl, Fr.snoc X' Nf ga, Keep.of_wr W, K.wr W (Or.inr sa), CHv.wr W Sf hC, hR.trans (CHr.wr W Sf hC), own_push F hj2 (fits_nar_char _) hn W, by rw [List.length_append, List.length_singleton]; omega, fun Ls rest t k => (G Ls rest).2 t k⟩
theorem own_newPE {p : Program} {l : Launch} {e : Env} {R : Room} {s : State} {m : MethodId} {args : Array Value} {below : List Frame} {meth : Method} {c : Code} {T : State} {locs : List Loc} {cells slots : Nat} {Z : State} {a0 : Array Value} {h : Heap}
    (X : Stand p l e R s m args below meth c T locs cells slots) (hx : p.tables.exec = Jvm.exec) (hZ : Z.Warmed39 s.vm) (w : (Cond.arrayClass .byte).before a0 Z = true) (eT : T.heap = h) {g : JFrame} (hg : g.method = m) (hd : decode c.code g.pc = .ok (.newarray .byte, 2)) {n : Int32} {rest : List Value} (hs : g.stack = .int n :: rest)
    (hn : ¬ n < 0) {cap : Nat} (hcap : n.toNatClampNeg ≤ cap) (hb : cap * 8 ≤ 536870912) (hc : cells + 1 ≤ R.cells) (hl : slots + cap ≤ R.slots) :
    ∃ T' h' cA, Stand p l e R s m args below meth c T' locs (cells + 1) (slots + cap) ∧ T'.heap = h' ∧ Ext h h' ∧ Arr Z h' h.size (newA cA .byte n) .byte ∧ Exa Z h' h.size "[B" ∧
      ∀ target, Steps p.tables e below (T'.setTop { g with pc := g.pc + 2, stack := .ref h.size :: rest }) target → Steps p.tables e below (T.setTop g) target := by
  have h8 : componentBytes (newarray.typeOf .byte) ≤ 8 := by decide
  have hbytes : n.toNatClampNeg * componentBytes (newarray.typeOf .byte) ≤ 536870912 := by
    refine Nat.le_trans (Nat.mul_le_mul hcap h8) ?_
    exact hb
  have hsl : slots + n.toNatClampNeg ≤ R.slots := by omega
  have w' : (Cond.arrayClass (newarray.typeOf .byte)).before args s = true := mvA hZ w
  obtain ⟨cA, kA, comp, fc, kc, kk, X', st⟩ := X.newarrayPrim (atype := .byte) hx w' hg hd hs hn hbytes hc hsl
  subst eT
  have fz : Z.vm.findClass "[B" = some cA := by rw [← hZ.alike.findClass]; exact fc
  obtain ⟨kZ, hkZ, -⟩ := Vm.findClass_spec fz
  obtain ⟨k2, hk2, same⟩ := hZ.alike.2.2 _ _ hkZ
  have ek : kA = k2 := Option.some.inj (kc.symm.trans hk2)
  have kind : kZ.kind = .array comp .byte := by rw [ek, same] at kk; exact kk
  have A : Arr Z (T.heap.push (newA cA .byte n)) T.heap.size (newA cA .byte n) .byte := ⟨by simp, ⟨by simp [newA], kZ, hkZ, comp, kind⟩, by simp [newA]⟩
  have X2 := X'.more (cells' := cells + 1) (slots' := slots + cap) (Nat.le_refl _) (by omega)
  exact ⟨_, T.heap.push (newA cA .byte n), cA, X2, rfl, ext_of fun a q => (by rw [Array.getElem?_push_lt q, Array.getElem?_eq_getElem q]), A, exa_arr A fz rfl, st⟩
theorem own_hasOf {c : Cell} : ∀ (vs : List Value) (k : Nat), (∀ i, i < vs.length → c.slots[k + i]? = vs[i]?) → HasL c k vs
  | [], _, _ => trivial
  | v :: r, k, h => ⟨by have := h 0 (by simp); simpa using this, own_hasOf r (k + 1) (fun i hi => by
      have := h (i + 1) (by simp; omega)
      rw [show k + 1 + i = k + (i + 1) by omega]; simpa using this)⟩
theorem own_arrT {s : State} {args a0 : Array Value} (hf : Fit s) {t Y : Term} {a : Addr} {L : List Int32} (ev : t.eval args s none [] s = some (.ref a)) (hx : (Cond.exactly t "[B").value args s none s [] = some true) (wb : (Cond.arrayClass .byte).before a0 s = true) (h2 : (Term.length t).eval args s none [] s = some (.int 100))
    (ht : ∀ i, t.eval args s none [i] s = some (.ref a)) (hall : (Cond.all t (Cond.eq (Term.elem t (Term.index 0)) Y)).value args s none s [] = some true) (hY : ∀ i, i < 100 → Y.eval args s none [i] s = some (.int (L.getD i 0))) (hL : L.length = 100) : ∃ k, Arv s s.heap a k .byte (100 : Int32) (L.map Value.int) (.int 0) := by
  obtain ⟨cell, k, e1, e2, e3, e4, -⟩ := Exa.start ev hx
  obtain ⟨c, kc, comp, f1, f2, f3⟩ := Cond.arrayClass_spec (show (Cond.arrayClass .byte).holds a0 s none s [] = true from wb)
  have ec : c = cell.cls := Option.some.inj (f1.symm.trans e2)
  subst ec
  have ekk : kc = k := Option.some.inj (f2.symm.trans e3)
  subst ekk
  obtain ⟨a', cell', q1, q2, q3⟩ := Term.length_spec h2
  cases ev.symm.trans q1
  have hun : cell.vm ≠ .unknown := fun u => by
    simp [State.arrayAt?, e1, e3, u] at q2
  have A : Arr s s.heap a cell .byte := ⟨e1, ⟨(fun k hk => by rw [hk] at e4; cases e4), kc, e3, comp, f3⟩, hun⟩
  have ha := A.fin (Vm.Alike.refl _)
  cases ha.symm.trans q2
  have hsz : cell.slots.size < 2 ^ 31 := by
    refine Nat.lt_of_not_le fun q => ?_
    simp [Term.eval, ev, ha, Nat.not_lt.mpr q] at h2
  have en : cell.slots.size.toInt32 = (100 : Int32) := (Value.int.inj q3).symm
  have S : cell.slots.size = 100 := by
    have r : (cell.slots.size.toInt32).toInt = 100 := by rw [en]; rfl
    rw [len_toInt hsz] at r; omega
  have all := Cond.all_elim ev ha hall
  refine ⟨_, Arv.start hf A hsz en (by decide) (by rw [List.length_map, hL]; rfl) (own_hasOf _ _ fun i hi => ?_)⟩
  rw [List.length_map, hL] at hi
  have v := eqv_i (hY i hi) (all i (by omega))
  have ei : (Term.index 0).eval args s none [i] s = some (.int i.toInt32) := by simp [Term.eval]
  have g := (elem_in v (ht i) ei e1).2
  have et : (i.toInt32).toNatClampNeg = i := by
    have := len_toInt (n := i) (by omega)
    simp only [Int32.toNatClampNeg]; omega
  rw [et] at g
  rw [Nat.zero_add, g, List.getElem?_map, List.getD_eq_getElem?_getD]
  rw [List.getElem?_eq_getElem (by omega : i < L.length)]; rfl
theorem own_Y1 {s : State} {args : Array Value} {i : Nat} (hi : i < 100) : (Term.add (Term.int (48 : Int32)) (Term.rem (Term.index 0) (Term.int (10 : Int32)))).eval args s none [i] s = some (.int (own_ones.getD i 0)) := by
  have e : own_ones.getD i 0 = (48 : Int32) + Nat.toInt32 i % (10 : Int32) := by rw [own_ones, List.getD_eq_getElem?_getD, List.getElem?_map, List.getElem?_range hi]; rfl
  rw [e]; simp [Term.eval]
theorem own_Y2 {s : State} {args : Array Value} {i : Nat} (hi : i < 100) : (Term.add (Term.int (48 : Int32)) (Term.div (Term.index 0) (Term.int (10 : Int32)))).eval args s none [i] s = some (.int (own_tens.getD i 0)) := by
  have e : own_tens.getD i 0 = (48 : Int32) + Nat.toInt32 i / (10 : Int32) := by rw [own_tens, List.getD_eq_getElem?_getD, List.getElem?_map, List.getElem?_range hi]; rfl
  rw [e]; simp [Term.eval]
def own_HasE (args : Array Value) (s : State) (t : Term) : Nat → List Value → Prop
  | _, [] => True
  | i, v :: r => (Term.elem t (.int (Int32.ofNat i))).eval args s none [] s = some v ∧ own_HasE args s t (i + 1) r
theorem own_eqv_r {s : State} {args : Array Value} {X F : Term} {a : Addr} (hF : F.eval args s none [] s = some (.ref a)) (h : (Cond.eq X F).value args s none s [] = some true) : X.eval args s none [] s = some (.ref a) := by
  obtain ⟨x, y', e1, e2, k1, k2⟩ := cmp_v (Or.inl h)
  cases hF.symm.trans e2
  have hx : x.isRef = true := k2.2
  exact e1.trans (congrArg some (gotT (eq_R e1 e2 hx rfl) h))
theorem own_hasL {args : Array Value} {s : State} {t : Term} {a : Addr} {c : Cell} (ev : t.eval args s none [] s = some (.ref a)) (hc : s.heap[a]? = some c) : ∀ (vs : List Value) (i : Nat), i + vs.length < 2 ^ 31 → own_HasE args s t i vs → HasL c i vs
  | [], _, _, _ => trivial
  | v :: r, i, hi, ⟨h1, h2⟩ => by
    have hi' : i < 2 ^ 31 := by simp only [List.length_cons] at hi; omega
    have e1 : (Int32.ofNat i).toNatClampNeg = i := by
      have := Int32.toInt_ofNat_small (n := i) (by omega)
      simp only [Int32.toNatClampNeg]; omega
    have q := (elem_in h1 ev rfl hc).2
    rw [e1] at q
    exact ⟨q, own_hasL ev hc r (i + 1) (by simp only [List.length_cons] at hi; omega) h2⟩
theorem own_arr {s : State} {args : Array Value} (hf : Fit s) {t : Term} {a : Addr} {ty : FieldType} {n : Int32} {vs : List Value} {dv : Value} (ev : t.eval args s none [] s = some (.ref a)) (h1 : (Cond.arrayOf t ty).value args s none s [] = some true)
    (h2 : (Term.length t).eval args s none [] s = some (.int n)) (hn : ¬ n < 0) (hl : n.toNatClampNeg = vs.length) (he : own_HasE args s t 0 vs) : ∃ k, Arv s s.heap a k ty n vs dv := by
  obtain ⟨c, A⟩ := Arr.start ev h1
  have ha := A.fin (Vm.Alike.refl _)
  obtain ⟨a', c', e1, e2, e3⟩ := Term.length_spec h2
  cases ev.symm.trans e1
  cases ha.symm.trans e2
  have hsz : c.slots.size < 2 ^ 31 := by
    refine Nat.lt_of_not_le fun q => ?_
    simp [Term.eval, ev, ha, Nat.not_lt.mpr q] at h2
  have hb := (back32 hn).2
  exact ⟨_, Arv.start hf A hsz (Value.int.inj e3).symm hn hl (own_hasL ev A.1 vs 0 (by omega) he)⟩
def OwnEN (Z : State) (Gg0 : Addr) (Gg1 : Addr) (Kg2 : ClassId) (Kg3 : ClassId) : Prop := Sta Z Z.heap "java/lang/Integer" "DigitOnes" "[B" (.ref Gg0) ∧ Exa Z Z.heap Gg0 "[B" ∧ Sta Z Z.heap "java/lang/Integer" "DigitTens" "[B" (.ref Gg1) ∧ Exa Z Z.heap Gg1 "[B" ∧ Arv Z Z.heap Gg0 Kg2 .byte (100 : Int32) (own_ones.map Value.int) (.int 0) ∧ Arv Z Z.heap Gg1 Kg3 .byte (100 : Int32) (own_tens.map Value.int) (.int 0)
theorem ef0 (m : MethodId) (x0 : Int32) (x1 : Int32) (x2 : Int32) : entryFrame m #[.int x0, .int x1, .int x2] maxLocals = mkF m 0 #[.val (.int x0), .val (.int x1), .val (.int x2), .unset, .unset, .unset, .unset, .unset] [] := by first | (simp [entryFrame, mkF, argsToLocals, Value.category, maxLocals]; done) | rfl
theorem pn0 : plainName "com/example/foreground_courier/foregroundcourier/CacheStatsToStringPinLaw" = true := by first | (simp [plainName, overriddenIn]; done) | decide +kernel
theorem ef1 (m : MethodId) (x0 : Int32) : entryFrame m #[.int x0] 3 = mkF m 0 #[.val (.int x0), .unset, .unset] [] := by first | (simp [entryFrame, mkF, argsToLocals, Value.category]; done) | rfl
abbrev D (c : ByteArray) (p : Nat) (i : Instr) (n : Nat) : Prop := decode c p = .ok (i, n)
abbrev AB_ : String := "java/lang/AbstractStringBuilder"
abbrev ST_ : String := "java/lang/String"
abbrev SB_ : String := "java/lang/StringBuilder"
abbrev CF_ : String := "com/example/foreground_courier/foregroundcourier/CacheStats"
abbrev VA (Z : State) (h : Heap) (a x : Addr) : Prop := Fld Z h a "java/lang/AbstractStringBuilder" "value" "[B" (.ref x)
abbrev VC (Z : State) (h : Heap) (a : Addr) : Prop := Fld Z h a "java/lang/AbstractStringBuilder" "coder" "B" (.int 0)
abbrev VN (Z : State) (h : Heap) (a : Addr) (n : Int32) : Prop := Fld Z h a "java/lang/AbstractStringBuilder" "count" "I" (.int n)
abbrev SV (Z : State) (h : Heap) (a x : Addr) : Prop := Fld Z h a "java/lang/String" "value" "[B" (.ref x)
abbrev SC (Z : State) (h : Heap) (a : Addr) : Prop := Fld Z h a "java/lang/String" "coder" "B" (.int 0)
abbrev CO (Z : State) (g : Int32) : Prop := Sta Z Z.heap "java/lang/String" "COMPACT_STRINGS" "Z" (.int g)
abbrev NZ (g : Int32) : Prop := ¬ (g = (0 : Int32))
abbrev PA (Z : State) (h : Heap) (a : Addr) (k : ClassId) (t : FieldType) (n : Int32) (L : List Int32) : Prop := Arv Z h a k t n (L.map Value.int) (.int 0)
abbrev NN (x : Int32) : Nat := x.toNatClampNeg
abbrev QT : Type := Option Value → Heap → List Loc → Prop
section Sq
variable (l : Launch) (Z : State) (a0 : Array Value)
theorem d0_0 : D C1_ 0 (.iload_n 0) 1 := by decide +kernel
theorem d0_1 : D C1_ 1 .i2l 1 := by decide +kernel
theorem d0_2 : D C1_ 2 (.lstore_n 1) 1 := by decide +kernel
theorem d0_3 : D C1_ 3 (.lload_n 1) 1 := by decide +kernel
theorem d0_4 : D C1_ 4 (.lconst 0) 1 := by decide +kernel
theorem d0_5 : D C1_ 5 .lcmp 1 := by decide +kernel
theorem d0_6 : D C1_ 6 (.ifCond .ge 11) 3 := by decide +kernel
theorem d0_9 : D C1_ 9 (.iconst 1) 1 := by decide +kernel
theorem d0_10 : D C1_ 10 (.lload_n 1) 1 := by decide +kernel
theorem d0_11 : D C1_ 11 .lneg 1 := by decide +kernel
theorem d0_12 : D C1_ 12 (.invokestatic 25) 3 := by decide +kernel
theorem ef2 (m : MethodId) (x0 : Int64) : entryFrame m #[.long x0] 2 = mkF m 0 #[.val (.long x0), .second] [] := by first | (simp [entryFrame, mkF, argsToLocals, Value.category]; done) | rfl
theorem d1_0 : D C0_ 0 (.lload_n 0) 1 := by decide +kernel
theorem d1_1 : D C0_ 1 (.ldc2_w 7) 3 := by decide +kernel
theorem d1_4 : D C0_ 4 .lcmp 1 := by decide +kernel
theorem d1_5 : D C0_ 5 (.ifCond .lt 6) 3 := by decide +kernel
theorem d1_11 : D C0_ 11 (.lload_n 0) 1 := by decide +kernel
theorem d1_12 : D C0_ 12 (.ldc2_w 9) 3 := by decide +kernel
theorem d1_15 : D C0_ 15 .lcmp 1 := by decide +kernel
theorem d1_16 : D C0_ 16 (.ifCond .lt 6) 3 := by decide +kernel
theorem d1_22 : D C0_ 22 (.lload_n 0) 1 := by decide +kernel
theorem d1_23 : D C0_ 23 (.ldc2_w 11) 3 := by decide +kernel
theorem d1_26 : D C0_ 26 .lcmp 1 := by decide +kernel
theorem d1_27 : D C0_ 27 (.ifCond .lt 6) 3 := by decide +kernel
theorem d1_33 : D C0_ 33 (.lload_n 0) 1 := by decide +kernel
theorem d1_34 : D C0_ 34 (.ldc2_w 13) 3 := by decide +kernel
theorem d1_37 : D C0_ 37 .lcmp 1 := by decide +kernel
theorem d1_38 : D C0_ 38 (.ifCond .lt 6) 3 := by decide +kernel
theorem d1_44 : D C0_ 44 (.lload_n 0) 1 := by decide +kernel
theorem d1_45 : D C0_ 45 (.ldc2_w 15) 3 := by decide +kernel
theorem d1_48 : D C0_ 48 .lcmp 1 := by decide +kernel
theorem d1_49 : D C0_ 49 (.ifCond .lt 6) 3 := by decide +kernel
theorem d1_55 : D C0_ 55 (.lload_n 0) 1 := by decide +kernel
theorem d1_56 : D C0_ 56 (.ldc2_w 17) 3 := by decide +kernel
theorem d1_59 : D C0_ 59 .lcmp 1 := by decide +kernel
theorem d1_60 : D C0_ 60 (.ifCond .lt 5) 3 := by decide +kernel
theorem d1_65 : D C0_ 65 (.lload_n 0) 1 := by decide +kernel
theorem d1_66 : D C0_ 66 (.ldc2_w 19) 3 := by decide +kernel
theorem d1_69 : D C0_ 69 .lcmp 1 := by decide +kernel
theorem d1_70 : D C0_ 70 (.ifCond .lt 5) 3 := by decide +kernel
theorem d1_75 : D C0_ 75 (.lload_n 0) 1 := by decide +kernel
theorem d1_76 : D C0_ 76 (.ldc2_w 21) 3 := by decide +kernel
theorem d1_79 : D C0_ 79 .lcmp 1 := by decide +kernel
theorem d1_80 : D C0_ 80 (.ifCond .lt 5) 3 := by decide +kernel
theorem d1_85 : D C0_ 85 (.lload_n 0) 1 := by decide +kernel
theorem d1_86 : D C0_ 86 (.ldc2_w 23) 3 := by decide +kernel
theorem d1_89 : D C0_ 89 .lcmp 1 := by decide +kernel
theorem d1_90 : D C0_ 90 (.ifCond .lt 5) 3 := by decide +kernel
theorem d1_95 : D C0_ 95 (.iconst 1) 1 := by decide +kernel
theorem d1_96 : D C0_ 96 .ireturn 1 := by decide +kernel
theorem d1_93 : D C0_ 93 (.iconst 2) 1 := by decide +kernel
theorem d1_94 : D C0_ 94 .ireturn 1 := by decide +kernel
theorem d1_83 : D C0_ 83 (.iconst 3) 1 := by decide +kernel
theorem d1_84 : D C0_ 84 .ireturn 1 := by decide +kernel
theorem d1_73 : D C0_ 73 (.iconst 4) 1 := by decide +kernel
theorem d1_74 : D C0_ 74 .ireturn 1 := by decide +kernel
theorem d1_63 : D C0_ 63 (.iconst 5) 1 := by decide +kernel
theorem d1_64 : D C0_ 64 .ireturn 1 := by decide +kernel
theorem d1_52 : D C0_ 52 (.bipush 6) 2 := by decide +kernel
theorem d1_54 : D C0_ 54 .ireturn 1 := by decide +kernel
theorem d1_41 : D C0_ 41 (.bipush 7) 2 := by decide +kernel
theorem d1_43 : D C0_ 43 .ireturn 1 := by decide +kernel
theorem d1_30 : D C0_ 30 (.bipush 8) 2 := by decide +kernel
theorem d1_32 : D C0_ 32 .ireturn 1 := by decide +kernel
theorem d1_19 : D C0_ 19 (.bipush 9) 2 := by decide +kernel
theorem d1_21 : D C0_ 21 .ireturn 1 := by decide +kernel
theorem d1_8 : D C0_ 8 (.bipush 10) 2 := by decide +kernel
theorem d1_10 : D C0_ 10 .ireturn 1 := by decide +kernel
-- com/example/foreground_courier/foregroundcourier/CacheStatsToStringPinLaw.digits(J)I
def Q1 (Z : State) (qj1 : Int64) (h0 : Heap) (n0 : Nat) : QT := fun v h L => v = some (.int (own_ld qj1)) ∧ Fr n0 L ∧ h = h0
theorem rm1 (hw : HW a0 Z) (qj1 : Int64) (h0 : Heap) (n0 : Nat) (X00 : Old Z n0 h0) (hv0 : ¬ qj1 < 0) (hvb : ¬ (2147483648 : Int64) < qj1) :
    MF l Z Y0_ method_2_code 2 (some .int) (Rm 0 0 0 0) #[.long qj1] h0 (Q1 Z qj1 h0 n0) := by
 refine own_sF pn0 rfl (fun m => ef2 m qj1) ?_
 intro p e s m below meth c s₁ Bd hZ hh hx hby hml hown hnm X0 e0 pre0
 have N0 := Fr.nil n0
 have pr1 : Pr p e below s₁ m 5 #[.val (.long qj1), .second] [(.int (XT.cmpL qj1 (1000000000 : Int64)))] s₁ (entryFrame m #[.long qj1] 2) := fun t k => pre0 t (by
  show Sx p e below s₁ m 0 #[.val (.long qj1), .second] [] _
  refine XS.lloadN X0.here hx rfl (hb hby d1_0) rfl ?_
  refine X0.ldc2Long hx hown (mvT hZ (w7_ hw)) (g := (mkF m 1 #[.val (.long qj1), .second] [.long qj1])) rfl (hb hby d1_1) _ ?_
  refine XT.lcmp X0.here hx rfl (hb hby d1_4) rfl ?_
  exact k)
 by_cases hc2 : qj1 < (1000000000 : Int64)
 ·
  skip
  have pr3 : Pr p e below s₁ m 16 #[.val (.long qj1), .second] [(.int (XT.cmpL qj1 (100000000 : Int64)))] s₁ (entryFrame m #[.long qj1] 2) := fun t k => pr1 t (by
   show Sx p e below s₁ m 5 #[.val (.long qj1), .second] [(.int (XT.cmpL qj1 (1000000000 : Int64)))] _
   refine zp (pc' := 11) X0 Bd d1_5 (XT.ll_lt_t (hc2 : qj1 < (1000000000 : Int64))) rfl ?_
   refine XS.lloadN X0.here hx rfl (hb hby d1_11) rfl ?_
   refine X0.ldc2Long hx hown (mvT hZ (w8_ hw)) (g := (mkF m 12 #[.val (.long qj1), .second] [.long qj1])) rfl (hb hby d1_12) _ ?_
   refine XT.lcmp X0.here hx rfl (hb hby d1_15) rfl ?_
   exact k)
  by_cases hc4 : qj1 < (100000000 : Int64)
  ·
   skip
   have pr5 : Pr p e below s₁ m 27 #[.val (.long qj1), .second] [(.int (XT.cmpL qj1 (10000000 : Int64)))] s₁ (entryFrame m #[.long qj1] 2) := fun t k => pr3 t (by
    show Sx p e below s₁ m 16 #[.val (.long qj1), .second] [(.int (XT.cmpL qj1 (100000000 : Int64)))] _
    refine zp (pc' := 22) X0 Bd d1_16 (XT.ll_lt_t (hc4 : qj1 < (100000000 : Int64))) rfl ?_
    refine XS.lloadN X0.here hx rfl (hb hby d1_22) rfl ?_
    refine X0.ldc2Long hx hown (mvT hZ (w9_ hw)) (g := (mkF m 23 #[.val (.long qj1), .second] [.long qj1])) rfl (hb hby d1_23) _ ?_
    refine XT.lcmp X0.here hx rfl (hb hby d1_26) rfl ?_
    exact k)
   by_cases hc6 : qj1 < (10000000 : Int64)
   ·
    skip
    have pr7 : Pr p e below s₁ m 38 #[.val (.long qj1), .second] [(.int (XT.cmpL qj1 (1000000 : Int64)))] s₁ (entryFrame m #[.long qj1] 2) := fun t k => pr5 t (by
     show Sx p e below s₁ m 27 #[.val (.long qj1), .second] [(.int (XT.cmpL qj1 (10000000 : Int64)))] _
     refine zp (pc' := 33) X0 Bd d1_27 (XT.ll_lt_t (hc6 : qj1 < (10000000 : Int64))) rfl ?_
     refine XS.lloadN X0.here hx rfl (hb hby d1_33) rfl ?_
     refine X0.ldc2Long hx hown (mvT hZ (w10_ hw)) (g := (mkF m 34 #[.val (.long qj1), .second] [.long qj1])) rfl (hb hby d1_34) _ ?_
     refine XT.lcmp X0.here hx rfl (hb hby d1_37) rfl ?_
     exact k)
    by_cases hc8 : qj1 < (1000000 : Int64)
    ·
     skip
     have pr9 : Pr p e below s₁ m 49 #[.val (.long qj1), .second] [(.int (XT.cmpL qj1 (100000 : Int64)))] s₁ (entryFrame m #[.long qj1] 2) := fun t k => pr7 t (by
      show Sx p e below s₁ m 38 #[.val (.long qj1), .second] [(.int (XT.cmpL qj1 (1000000 : Int64)))] _
      refine zp (pc' := 44) X0 Bd d1_38 (XT.ll_lt_t (hc8 : qj1 < (1000000 : Int64))) rfl ?_
      refine XS.lloadN X0.here hx rfl (hb hby d1_44) rfl ?_
      refine X0.ldc2Long hx hown (mvT hZ (w11_ hw)) (g := (mkF m 45 #[.val (.long qj1), .second] [.long qj1])) rfl (hb hby d1_45) _ ?_
      refine XT.lcmp X0.here hx rfl (hb hby d1_48) rfl ?_
      exact k)
     by_cases hc10 : qj1 < (100000 : Int64)
     ·
      skip
      have pr11 : Pr p e below s₁ m 60 #[.val (.long qj1), .second] [(.int (XT.cmpL qj1 (10000 : Int64)))] s₁ (entryFrame m #[.long qj1] 2) := fun t k => pr9 t (by
       show Sx p e below s₁ m 49 #[.val (.long qj1), .second] [(.int (XT.cmpL qj1 (100000 : Int64)))] _
       refine zp (pc' := 55) X0 Bd d1_49 (XT.ll_lt_t (hc10 : qj1 < (100000 : Int64))) rfl ?_
       refine XS.lloadN X0.here hx rfl (hb hby d1_55) rfl ?_
       refine X0.ldc2Long hx hown (mvT hZ (w12_ hw)) (g := (mkF m 56 #[.val (.long qj1), .second] [.long qj1])) rfl (hb hby d1_56) _ ?_
       refine XT.lcmp X0.here hx rfl (hb hby d1_59) rfl ?_
       exact k)
      by_cases hc12 : qj1 < (10000 : Int64)
      ·
       skip
       have pr13 : Pr p e below s₁ m 70 #[.val (.long qj1), .second] [(.int (XT.cmpL qj1 (1000 : Int64)))] s₁ (entryFrame m #[.long qj1] 2) := fun t k => pr11 t (by
        show Sx p e below s₁ m 60 #[.val (.long qj1), .second] [(.int (XT.cmpL qj1 (10000 : Int64)))] _
        refine zp (pc' := 65) X0 Bd d1_60 (XT.ll_lt_t (hc12 : qj1 < (10000 : Int64))) rfl ?_
        refine XS.lloadN X0.here hx rfl (hb hby d1_65) rfl ?_
        refine X0.ldc2Long hx hown (mvT hZ (w13_ hw)) (g := (mkF m 66 #[.val (.long qj1), .second] [.long qj1])) rfl (hb hby d1_66) _ ?_
        refine XT.lcmp X0.here hx rfl (hb hby d1_69) rfl ?_
        exact k)
       by_cases hc14 : qj1 < (1000 : Int64)
       ·
        skip
        have pr15 : Pr p e below s₁ m 80 #[.val (.long qj1), .second] [(.int (XT.cmpL qj1 (100 : Int64)))] s₁ (entryFrame m #[.long qj1] 2) := fun t k => pr13 t (by
         show Sx p e below s₁ m 70 #[.val (.long qj1), .second] [(.int (XT.cmpL qj1 (1000 : Int64)))] _
         refine zp (pc' := 75) X0 Bd d1_70 (XT.ll_lt_t (hc14 : qj1 < (1000 : Int64))) rfl ?_
         refine XS.lloadN X0.here hx rfl (hb hby d1_75) rfl ?_
         refine X0.ldc2Long hx hown (mvT hZ (w14_ hw)) (g := (mkF m 76 #[.val (.long qj1), .second] [.long qj1])) rfl (hb hby d1_76) _ ?_
         refine XT.lcmp X0.here hx rfl (hb hby d1_79) rfl ?_
         exact k)
        by_cases hc16 : qj1 < (100 : Int64)
        ·
         skip
         have pr17 : Pr p e below s₁ m 90 #[.val (.long qj1), .second] [(.int (XT.cmpL qj1 (10 : Int64)))] s₁ (entryFrame m #[.long qj1] 2) := fun t k => pr15 t (by
          show Sx p e below s₁ m 80 #[.val (.long qj1), .second] [(.int (XT.cmpL qj1 (100 : Int64)))] _
          refine zp (pc' := 85) X0 Bd d1_80 (XT.ll_lt_t (hc16 : qj1 < (100 : Int64))) rfl ?_
          refine XS.lloadN X0.here hx rfl (hb hby d1_85) rfl ?_
          refine X0.ldc2Long hx hown (mvT hZ (w15_ hw)) (g := (mkF m 86 #[.val (.long qj1), .second] [.long qj1])) rfl (hb hby d1_86) _ ?_
          refine XT.lcmp X0.here hx rfl (hb hby d1_89) rfl ?_
          exact k)
         by_cases hc18 : qj1 < (10 : Int64)
         ·
          skip
          refine own_lvF X0 Bd (.int 1) e0 ⟨(congrArg (fun z => some (Value.int z)) (own_ldk1 hv0 hc18).symm), N0, rfl⟩ rfl (fun fs hr => pr17 _ (by
           show Sx p e below s₁ m 90 #[.val (.long qj1), .second] [(.int (XT.cmpL qj1 (10 : Int64)))] _
           refine zp (pc' := 95) X0 Bd d1_90 (XT.ll_lt_t (hc18 : qj1 < (10 : Int64))) rfl ?_
           refine zc X0 Bd d1_95 ?_
           exact retI X0 hx Bd.returns (hb hby d1_96) hr))
         ·
          skip
          refine own_lvF X0 Bd (.int 2) e0 ⟨(congrArg (fun z => some (Value.int z)) (own_ldk2 hv0 hc18 hc16).symm), N0, rfl⟩ rfl (fun fs hr => pr17 _ (by
           show Sx p e below s₁ m 90 #[.val (.long qj1), .second] [(.int (XT.cmpL qj1 (10 : Int64)))] _
           refine zo X0 Bd d1_90 (XT.ll_lt_f (hc18 : ¬ (qj1 < (10 : Int64)))) ?_
           refine zc X0 Bd d1_93 ?_
           exact retI X0 hx Bd.returns (hb hby d1_94) hr))
        ·
         skip
         refine own_lvF X0 Bd (.int 3) e0 ⟨(congrArg (fun z => some (Value.int z)) (own_ldk3 hv0 hc16 hc14).symm), N0, rfl⟩ rfl (fun fs hr => pr15 _ (by
          show Sx p e below s₁ m 80 #[.val (.long qj1), .second] [(.int (XT.cmpL qj1 (100 : Int64)))] _
          refine zo X0 Bd d1_80 (XT.ll_lt_f (hc16 : ¬ (qj1 < (100 : Int64)))) ?_
          refine zc X0 Bd d1_83 ?_
          exact retI X0 hx Bd.returns (hb hby d1_84) hr))
       ·
        skip
        refine own_lvF X0 Bd (.int 4) e0 ⟨(congrArg (fun z => some (Value.int z)) (own_ldk4 hv0 hc14 hc12).symm), N0, rfl⟩ rfl (fun fs hr => pr13 _ (by
         show Sx p e below s₁ m 70 #[.val (.long qj1), .second] [(.int (XT.cmpL qj1 (1000 : Int64)))] _
         refine zo X0 Bd d1_70 (XT.ll_lt_f (hc14 : ¬ (qj1 < (1000 : Int64)))) ?_
         refine zc X0 Bd d1_73 ?_
         exact retI X0 hx Bd.returns (hb hby d1_74) hr))
      ·
       skip
       refine own_lvF X0 Bd (.int 5) e0 ⟨(congrArg (fun z => some (Value.int z)) (own_ldk5 hv0 hc12 hc10).symm), N0, rfl⟩ rfl (fun fs hr => pr11 _ (by
        show Sx p e below s₁ m 60 #[.val (.long qj1), .second] [(.int (XT.cmpL qj1 (10000 : Int64)))] _
        refine zo X0 Bd d1_60 (XT.ll_lt_f (hc12 : ¬ (qj1 < (10000 : Int64)))) ?_
        refine zc X0 Bd d1_63 ?_
        exact retI X0 hx Bd.returns (hb hby d1_64) hr))
     ·
      skip
      refine own_lvF X0 Bd (.int 6) e0 ⟨(congrArg (fun z => some (Value.int z)) (own_ldk6 hv0 hc10 hc8).symm), N0, rfl⟩ rfl (fun fs hr => pr9 _ (by
       show Sx p e below s₁ m 49 #[.val (.long qj1), .second] [(.int (XT.cmpL qj1 (100000 : Int64)))] _
       refine zo X0 Bd d1_49 (XT.ll_lt_f (hc10 : ¬ (qj1 < (100000 : Int64)))) ?_
       refine zd X0 Bd d1_52 ?_
       exact retI X0 hx Bd.returns (hb hby d1_54) hr))
    ·
     skip
     refine own_lvF X0 Bd (.int 7) e0 ⟨(congrArg (fun z => some (Value.int z)) (own_ldk7 hv0 hc8 hc6).symm), N0, rfl⟩ rfl (fun fs hr => pr7 _ (by
      show Sx p e below s₁ m 38 #[.val (.long qj1), .second] [(.int (XT.cmpL qj1 (1000000 : Int64)))] _
      refine zo X0 Bd d1_38 (XT.ll_lt_f (hc8 : ¬ (qj1 < (1000000 : Int64)))) ?_
      refine zd X0 Bd d1_41 ?_
      exact retI X0 hx Bd.returns (hb hby d1_43) hr))
   ·
    skip
    refine own_lvF X0 Bd (.int 8) e0 ⟨(congrArg (fun z => some (Value.int z)) (own_ldk8 hv0 hc6 hc4).symm), N0, rfl⟩ rfl (fun fs hr => pr5 _ (by
     show Sx p e below s₁ m 27 #[.val (.long qj1), .second] [(.int (XT.cmpL qj1 (10000000 : Int64)))] _
     refine zo X0 Bd d1_27 (XT.ll_lt_f (hc6 : ¬ (qj1 < (10000000 : Int64)))) ?_
     refine zd X0 Bd d1_30 ?_
     exact retI X0 hx Bd.returns (hb hby d1_32) hr))
  ·
   skip
   refine own_lvF X0 Bd (.int 9) e0 ⟨(congrArg (fun z => some (Value.int z)) (own_ldk9 hv0 hc4 hc2).symm), N0, rfl⟩ rfl (fun fs hr => pr3 _ (by
    show Sx p e below s₁ m 16 #[.val (.long qj1), .second] [(.int (XT.cmpL qj1 (100000000 : Int64)))] _
    refine zo X0 Bd d1_16 (XT.ll_lt_f (hc4 : ¬ (qj1 < (100000000 : Int64)))) ?_
    refine zd X0 Bd d1_19 ?_
    exact retI X0 hx Bd.returns (hb hby d1_21) hr))
 ·
  skip
  refine own_lvF X0 Bd (.int 10) e0 ⟨(congrArg (fun z => some (Value.int z)) (own_ldk10 hv0 hc2 hvb).symm), N0, rfl⟩ rfl (fun fs hr => pr1 _ (by
   show Sx p e below s₁ m 5 #[.val (.long qj1), .second] [(.int (XT.cmpL qj1 (1000000000 : Int64)))] _
   refine zo X0 Bd d1_5 (XT.ll_lt_f (hc2 : ¬ (qj1 < (1000000000 : Int64)))) ?_
   refine zd X0 Bd d1_8 ?_
   exact retI X0 hx Bd.returns (hb hby d1_10) hr))
theorem pd0 : parseMethodDescriptor "(J)I" = some ⟨[.long], some .int⟩ := by decide +kernel
theorem d0_15 : D C1_ 15 .iadd 1 := by decide +kernel
theorem d0_16 : D C1_ 16 .ireturn 1 := by decide +kernel
theorem d0_17 : D C1_ 17 (.lload_n 1) 1 := by decide +kernel
theorem d0_18 : D C1_ 18 (.invokestatic 25) 3 := by decide +kernel
theorem d0_21 : D C1_ 21 .ireturn 1 := by decide +kernel
-- com/example/foreground_courier/foregroundcourier/CacheStatsToStringPinLaw.width(I)I
def Q2 (Z : State) (qi1 : Int32) (h0 : Heap) (n0 : Nat) : QT := fun v h L => v = some (.int (own_wd qi1)) ∧ Fr n0 L ∧ h = h0
abbrev l0_ (qi1 : Int32) : Array Slot := #[iv qi1, .val (.long ((qi1).toInt64)), .second]
theorem rm2 (hw : HW a0 Z) (qi1 : Int32) (h0 : Heap) (n0 : Nat) (X00 : Old Z n0 h0)  :
    MF l Z Y1_ method_3_code 3 (some .int) (Rm 1 0 0 14) #[.int qi1] h0 (Q2 Z qi1 h0 n0) := by
 refine own_sF pn0 rfl (fun m => ef1 m qi1) ?_
 intro p e s m below meth c s₁ Bd hZ hh hx hby hml hown hnm X0 e0 pre0
 have N0 := Fr.nil n0
 have pr1 : Pr p e below s₁ m 6 (l0_ qi1) [(.int (XT.cmpL ((qi1).toInt64) (0 : Int64)))] s₁ (entryFrame m #[.int qi1] 3) := fun t k => pre0 t (by
  show Sx p e below s₁ m 0 #[iv qi1, .unset, .unset] [] _
  refine zj X0 Bd d0_0 rfl ?_
  refine XS.i2l X0.here hx rfl (hb hby d0_1) rfl ?_
  refine XS.lstoreN X0.here hx rfl (hb hby d0_2) rfl (l' := (l0_ qi1)) rfl ?_
  refine XS.lloadN X0.here hx rfl (hb hby d0_3) rfl ?_
  refine XS.lconst X0.here hx rfl (hb hby d0_4) ?_
  refine XT.lcmp X0.here hx rfl (hb hby d0_5) rfl ?_
  exact k)
 by_cases hc2 : ((qi1).toInt64) < (0 : Int64)
 ·
  skip
  obtain ⟨_, T3, L3, X3, hQ3, st3⟩ := own_cS 0 0 [.int 1] 12 (l0_ qi1) X0 hx hZ hown (w4_ hw) (w5_ hw) (w2_ hw) (w6_ hw) (rm1 l Z a0 hw  (-((qi1).toInt64)) h0 n0 X00 (own_n0 hc2) (own_nb qi1)) pd0 hml.symm (hb hby d0_12) e0 rfl rfl rfl rfl (by decide)
  obtain ⟨rfl, N3q, e3q⟩ := hQ3
  have N3 := Fr.app N0 N3q
  refine own_lvF X3 Bd (.int ((1 : Int32) + (own_ld (-((qi1).toInt64))))) e3q ⟨(congrArg (fun z => some (Value.int z)) (own_wdN hc2)), N3, rfl⟩ rfl (fun fs hr => pr1 _ (by
   show Sx p e below s₁ m 6 (l0_ qi1) [(.int (XT.cmpL ((qi1).toInt64) (0 : Int64)))] _
   refine zo X0 Bd d0_6 (XT.ll_ge_f (hc2 : ((qi1).toInt64) < (0 : Int64))) ?_
   refine zc X0 Bd d0_9 ?_
   refine XS.lloadN X0.here hx rfl (hb hby d0_10) rfl ?_
   refine XS.lneg X0.here hx rfl (hb hby d0_11) rfl ?_
   refine st3 _ ?_
   refine XS.iadd X3.here hx rfl (hb hby d0_15) rfl ?_
   exact retI X3 hx Bd.returns (hb hby d0_16) hr))
 ·
  skip
  obtain ⟨_, T4, L4, X4, hQ4, st4⟩ := own_cS 0 0 [] 18 (l0_ qi1) X0 hx hZ hown (w4_ hw) (w5_ hw) (w2_ hw) (w6_ hw) (rm1 l Z a0 hw  ((qi1).toInt64) h0 n0 X00 hc2 (own_pb qi1)) pd0 hml.symm (hb hby d0_18) e0 rfl rfl rfl rfl (by decide)
  obtain ⟨rfl, N4q, e4q⟩ := hQ4
  have N4 := Fr.app N0 N4q
  refine own_lvF X4 Bd (.int (own_ld ((qi1).toInt64))) e4q ⟨(congrArg (fun z => some (Value.int z)) (own_wdP hc2)), N4, rfl⟩ rfl (fun fs hr => pr1 _ (by
   show Sx p e below s₁ m 6 (l0_ qi1) [(.int (XT.cmpL ((qi1).toInt64) (0 : Int64)))] _
   refine zp (pc' := 17) X0 Bd d0_6 (XT.ll_ge_t (hc2 : ¬ (((qi1).toInt64) < (0 : Int64)))) rfl ?_
   refine XS.lloadN X0.here hx rfl (hb hby d0_17) rfl ?_
   refine st4 _ ?_
   exact retI X4 hx Bd.returns (hb hby d0_21) hr))
theorem pd1 : parseMethodDescriptor "(I)I" = some ⟨[.int], some .int⟩ := by decide +kernel
theorem ef3 (m : MethodId) (x0 : Addr) (x1 : Int32) (x2 : Int32) : entryFrame m #[.ref x0, .int x1, .int x2] 8 = mkF m 0 #[.val (.ref x0), .val (.int x1), .val (.int x2), .unset, .unset, .unset, .unset, .unset] [] := by first | (simp [entryFrame, mkF, argsToLocals, Value.category]; done) | rfl
theorem d2_0 : D C2_ 0 (.iload_n 2) 1 := by decide +kernel
theorem d2_1 : D C2_ 1 .i2l 1 := by decide +kernel
theorem d2_2 : D C2_ 2 (.lstore_n 3) 1 := by decide +kernel
theorem d2_3 : D C2_ 3 (.iload_n 1) 1 := by decide +kernel
theorem d2_4 : D C2_ 4 (.istore 5) 2 := by decide +kernel
theorem d2_6 : D C2_ 6 (.lload_n 3) 1 := by decide +kernel
theorem d2_7 : D C2_ 7 (.lconst 0) 1 := by decide +kernel
theorem d2_8 : D C2_ 8 .lcmp 1 := by decide +kernel
theorem d2_9 : D C2_ 9 (.ifCond .ge 18) 3 := by decide +kernel
theorem d2_12 : D C2_ 12 (.aload_n 0) 1 := by decide +kernel
theorem d2_13 : D C2_ 13 (.iload 5) 2 := by decide +kernel
theorem d2_15 : D C2_ 15 (.bipush 45) 2 := by decide +kernel
theorem d2_17 : D C2_ 17 .castore 1 := by decide +kernel
theorem d2_18 : D C2_ 18 (.iload 5) 2 := by decide +kernel
theorem d2_20 : D C2_ 20 (.iconst 1) 1 := by decide +kernel
theorem d2_21 : D C2_ 21 .iadd 1 := by decide +kernel
theorem d2_22 : D C2_ 22 (.istore 5) 2 := by decide +kernel
theorem d2_24 : D C2_ 24 (.lload_n 3) 1 := by decide +kernel
theorem d2_25 : D C2_ 25 .lneg 1 := by decide +kernel
theorem d2_26 : D C2_ 26 (.lstore_n 3) 1 := by decide +kernel
theorem d2_27 : D C2_ 27 (.lload_n 3) 1 := by decide +kernel
theorem d2_28 : D C2_ 28 (.invokestatic 25) 3 := by decide +kernel
theorem d2_31 : D C2_ 31 (.istore 6) 2 := by decide +kernel
theorem d2_33 : D C2_ 33 (.iload 5) 2 := by decide +kernel
theorem d2_35 : D C2_ 35 (.iload 6) 2 := by decide +kernel
theorem d2_37 : D C2_ 37 .iadd 1 := by decide +kernel
theorem d2_38 : D C2_ 38 (.istore 7) 2 := by decide +kernel
theorem d2_40 : D C2_ 40 (.aload_n 0) 1 := by decide +kernel
theorem d2_41 : D C2_ 41 (.iload 7) 2 := by decide +kernel
theorem d2_43 : D C2_ 43 (.iconst 1) 1 := by decide +kernel
theorem d2_44 : D C2_ 44 .isub 1 := by decide +kernel
theorem d2_45 : D C2_ 45 (.bipush 48) 2 := by decide +kernel
theorem d2_47 : D C2_ 47 (.lload_n 3) 1 := by decide +kernel
theorem d2_48 : D C2_ 48 (.ldc2_w 23) 3 := by decide +kernel
theorem d2_51 : D C2_ 51 .lrem 1 := by decide +kernel
theorem d2_52 : D C2_ 52 .l2i 1 := by decide +kernel
theorem d2_53 : D C2_ 53 .iadd 1 := by decide +kernel
theorem d2_54 : D C2_ 54 .i2c 1 := by decide +kernel
theorem d2_55 : D C2_ 55 .castore 1 := by decide +kernel
theorem d2_56 : D C2_ 56 (.lload_n 3) 1 := by decide +kernel
theorem d2_57 : D C2_ 57 (.ldc2_w 23) 3 := by decide +kernel
theorem d2_60 : D C2_ 60 .ldiv 1 := by decide +kernel
theorem d2_61 : D C2_ 61 (.lstore_n 3) 1 := by decide +kernel
theorem d2_62 : D C2_ 62 (.iload 6) 2 := by decide +kernel
theorem d2_64 : D C2_ 64 (.iconst 1) 1 := by decide +kernel
theorem d2_65 : D C2_ 65 (.if_icmp .le 19) 3 := by decide +kernel
theorem d2_68 : D C2_ 68 (.aload_n 0) 1 := by decide +kernel
theorem d2_69 : D C2_ 69 (.iload 7) 2 := by decide +kernel
theorem d2_71 : D C2_ 71 (.iconst 2) 1 := by decide +kernel
theorem d2_72 : D C2_ 72 .isub 1 := by decide +kernel
theorem d2_73 : D C2_ 73 (.bipush 48) 2 := by decide +kernel
theorem d2_75 : D C2_ 75 (.lload_n 3) 1 := by decide +kernel
theorem d2_76 : D C2_ 76 (.ldc2_w 23) 3 := by decide +kernel
theorem d2_79 : D C2_ 79 .lrem 1 := by decide +kernel
theorem d2_80 : D C2_ 80 .l2i 1 := by decide +kernel
theorem d2_81 : D C2_ 81 .iadd 1 := by decide +kernel
theorem d2_82 : D C2_ 82 .i2c 1 := by decide +kernel
theorem d2_83 : D C2_ 83 .castore 1 := by decide +kernel
theorem d2_84 : D C2_ 84 (.lload_n 3) 1 := by decide +kernel
theorem d2_85 : D C2_ 85 (.ldc2_w 23) 3 := by decide +kernel
theorem d2_88 : D C2_ 88 .ldiv 1 := by decide +kernel
theorem d2_89 : D C2_ 89 (.lstore_n 3) 1 := by decide +kernel
theorem d2_90 : D C2_ 90 (.iload 6) 2 := by decide +kernel
theorem d2_92 : D C2_ 92 (.iconst 2) 1 := by decide +kernel
theorem d2_93 : D C2_ 93 (.if_icmp .le 19) 3 := by decide +kernel
theorem d2_96 : D C2_ 96 (.aload_n 0) 1 := by decide +kernel
theorem d2_97 : D C2_ 97 (.iload 7) 2 := by decide +kernel
theorem d2_99 : D C2_ 99 (.iconst 3) 1 := by decide +kernel
theorem d2_100 : D C2_ 100 .isub 1 := by decide +kernel
theorem d2_101 : D C2_ 101 (.bipush 48) 2 := by decide +kernel
theorem d2_103 : D C2_ 103 (.lload_n 3) 1 := by decide +kernel
theorem d2_104 : D C2_ 104 (.ldc2_w 23) 3 := by decide +kernel
theorem d2_107 : D C2_ 107 .lrem 1 := by decide +kernel
theorem d2_108 : D C2_ 108 .l2i 1 := by decide +kernel
theorem d2_109 : D C2_ 109 .iadd 1 := by decide +kernel
theorem d2_110 : D C2_ 110 .i2c 1 := by decide +kernel
theorem d2_111 : D C2_ 111 .castore 1 := by decide +kernel
theorem d2_112 : D C2_ 112 (.lload_n 3) 1 := by decide +kernel
theorem d2_113 : D C2_ 113 (.ldc2_w 23) 3 := by decide +kernel
theorem d2_116 : D C2_ 116 .ldiv 1 := by decide +kernel
theorem d2_117 : D C2_ 117 (.lstore_n 3) 1 := by decide +kernel
theorem d2_118 : D C2_ 118 (.iload 6) 2 := by decide +kernel
theorem d2_120 : D C2_ 120 (.iconst 3) 1 := by decide +kernel
theorem d2_121 : D C2_ 121 (.if_icmp .le 19) 3 := by decide +kernel
theorem d2_124 : D C2_ 124 (.aload_n 0) 1 := by decide +kernel
theorem d2_125 : D C2_ 125 (.iload 7) 2 := by decide +kernel
theorem d2_127 : D C2_ 127 (.iconst 4) 1 := by decide +kernel
theorem d2_128 : D C2_ 128 .isub 1 := by decide +kernel
theorem d2_129 : D C2_ 129 (.bipush 48) 2 := by decide +kernel
theorem d2_131 : D C2_ 131 (.lload_n 3) 1 := by decide +kernel
theorem d2_132 : D C2_ 132 (.ldc2_w 23) 3 := by decide +kernel
theorem d2_135 : D C2_ 135 .lrem 1 := by decide +kernel
theorem d2_136 : D C2_ 136 .l2i 1 := by decide +kernel
theorem d2_137 : D C2_ 137 .iadd 1 := by decide +kernel
theorem d2_138 : D C2_ 138 .i2c 1 := by decide +kernel
theorem d2_139 : D C2_ 139 .castore 1 := by decide +kernel
theorem d2_140 : D C2_ 140 (.lload_n 3) 1 := by decide +kernel
theorem d2_141 : D C2_ 141 (.ldc2_w 23) 3 := by decide +kernel
theorem d2_144 : D C2_ 144 .ldiv 1 := by decide +kernel
theorem d2_145 : D C2_ 145 (.lstore_n 3) 1 := by decide +kernel
theorem d2_146 : D C2_ 146 (.iload 6) 2 := by decide +kernel
theorem d2_148 : D C2_ 148 (.iconst 4) 1 := by decide +kernel
theorem d2_149 : D C2_ 149 (.if_icmp .le 19) 3 := by decide +kernel
theorem d2_152 : D C2_ 152 (.aload_n 0) 1 := by decide +kernel
theorem d2_153 : D C2_ 153 (.iload 7) 2 := by decide +kernel
theorem d2_155 : D C2_ 155 (.iconst 5) 1 := by decide +kernel
theorem d2_156 : D C2_ 156 .isub 1 := by decide +kernel
theorem d2_157 : D C2_ 157 (.bipush 48) 2 := by decide +kernel
theorem d2_159 : D C2_ 159 (.lload_n 3) 1 := by decide +kernel
theorem d2_160 : D C2_ 160 (.ldc2_w 23) 3 := by decide +kernel
theorem d2_163 : D C2_ 163 .lrem 1 := by decide +kernel
theorem d2_164 : D C2_ 164 .l2i 1 := by decide +kernel
theorem d2_165 : D C2_ 165 .iadd 1 := by decide +kernel
theorem d2_166 : D C2_ 166 .i2c 1 := by decide +kernel
theorem d2_167 : D C2_ 167 .castore 1 := by decide +kernel
theorem d2_168 : D C2_ 168 (.lload_n 3) 1 := by decide +kernel
theorem d2_169 : D C2_ 169 (.ldc2_w 23) 3 := by decide +kernel
theorem d2_172 : D C2_ 172 .ldiv 1 := by decide +kernel
theorem d2_173 : D C2_ 173 (.lstore_n 3) 1 := by decide +kernel
theorem d2_174 : D C2_ 174 (.iload 6) 2 := by decide +kernel
theorem d2_176 : D C2_ 176 (.iconst 5) 1 := by decide +kernel
theorem d2_177 : D C2_ 177 (.if_icmp .le 20) 3 := by decide +kernel
theorem d2_180 : D C2_ 180 (.aload_n 0) 1 := by decide +kernel
theorem d2_181 : D C2_ 181 (.iload 7) 2 := by decide +kernel
theorem d2_183 : D C2_ 183 (.bipush 6) 2 := by decide +kernel
theorem d2_185 : D C2_ 185 .isub 1 := by decide +kernel
theorem d2_186 : D C2_ 186 (.bipush 48) 2 := by decide +kernel
theorem d2_188 : D C2_ 188 (.lload_n 3) 1 := by decide +kernel
theorem d2_189 : D C2_ 189 (.ldc2_w 23) 3 := by decide +kernel
theorem d2_192 : D C2_ 192 .lrem 1 := by decide +kernel
theorem d2_193 : D C2_ 193 .l2i 1 := by decide +kernel
theorem d2_194 : D C2_ 194 .iadd 1 := by decide +kernel
theorem d2_195 : D C2_ 195 .i2c 1 := by decide +kernel
theorem d2_196 : D C2_ 196 .castore 1 := by decide +kernel
theorem d2_197 : D C2_ 197 (.lload_n 3) 1 := by decide +kernel
theorem d2_198 : D C2_ 198 (.ldc2_w 23) 3 := by decide +kernel
theorem d2_201 : D C2_ 201 .ldiv 1 := by decide +kernel
theorem d2_202 : D C2_ 202 (.lstore_n 3) 1 := by decide +kernel
theorem d2_203 : D C2_ 203 (.iload 6) 2 := by decide +kernel
theorem d2_205 : D C2_ 205 (.bipush 6) 2 := by decide +kernel
theorem d2_207 : D C2_ 207 (.if_icmp .le 20) 3 := by decide +kernel
theorem d2_210 : D C2_ 210 (.aload_n 0) 1 := by decide +kernel
theorem d2_211 : D C2_ 211 (.iload 7) 2 := by decide +kernel
theorem d2_213 : D C2_ 213 (.bipush 7) 2 := by decide +kernel
theorem d2_215 : D C2_ 215 .isub 1 := by decide +kernel
theorem d2_216 : D C2_ 216 (.bipush 48) 2 := by decide +kernel
theorem d2_218 : D C2_ 218 (.lload_n 3) 1 := by decide +kernel
theorem d2_219 : D C2_ 219 (.ldc2_w 23) 3 := by decide +kernel
theorem d2_222 : D C2_ 222 .lrem 1 := by decide +kernel
theorem d2_223 : D C2_ 223 .l2i 1 := by decide +kernel
theorem d2_224 : D C2_ 224 .iadd 1 := by decide +kernel
theorem d2_225 : D C2_ 225 .i2c 1 := by decide +kernel
theorem d2_226 : D C2_ 226 .castore 1 := by decide +kernel
theorem d2_227 : D C2_ 227 (.lload_n 3) 1 := by decide +kernel
theorem d2_228 : D C2_ 228 (.ldc2_w 23) 3 := by decide +kernel
theorem d2_231 : D C2_ 231 .ldiv 1 := by decide +kernel
theorem d2_232 : D C2_ 232 (.lstore_n 3) 1 := by decide +kernel
theorem d2_233 : D C2_ 233 (.iload 6) 2 := by decide +kernel
theorem d2_235 : D C2_ 235 (.bipush 7) 2 := by decide +kernel
theorem d2_237 : D C2_ 237 (.if_icmp .le 20) 3 := by decide +kernel
theorem d2_240 : D C2_ 240 (.aload_n 0) 1 := by decide +kernel
theorem d2_241 : D C2_ 241 (.iload 7) 2 := by decide +kernel
theorem d2_243 : D C2_ 243 (.bipush 8) 2 := by decide +kernel
theorem d2_245 : D C2_ 245 .isub 1 := by decide +kernel
theorem d2_246 : D C2_ 246 (.bipush 48) 2 := by decide +kernel
theorem d2_248 : D C2_ 248 (.lload_n 3) 1 := by decide +kernel
theorem d2_249 : D C2_ 249 (.ldc2_w 23) 3 := by decide +kernel
theorem d2_252 : D C2_ 252 .lrem 1 := by decide +kernel
theorem d2_253 : D C2_ 253 .l2i 1 := by decide +kernel
theorem d2_254 : D C2_ 254 .iadd 1 := by decide +kernel
theorem d2_255 : D C2_ 255 .i2c 1 := by decide +kernel
theorem d2_256 : D C2_ 256 .castore 1 := by decide +kernel
theorem d2_257 : D C2_ 257 (.lload_n 3) 1 := by decide +kernel
theorem d2_258 : D C2_ 258 (.ldc2_w 23) 3 := by decide +kernel
theorem d2_261 : D C2_ 261 .ldiv 1 := by decide +kernel
theorem d2_262 : D C2_ 262 (.lstore_n 3) 1 := by decide +kernel
theorem d2_263 : D C2_ 263 (.iload 6) 2 := by decide +kernel
theorem d2_265 : D C2_ 265 (.bipush 8) 2 := by decide +kernel
theorem d2_267 : D C2_ 267 (.if_icmp .le 20) 3 := by decide +kernel
theorem d2_270 : D C2_ 270 (.aload_n 0) 1 := by decide +kernel
theorem d2_271 : D C2_ 271 (.iload 7) 2 := by decide +kernel
theorem d2_273 : D C2_ 273 (.bipush 9) 2 := by decide +kernel
theorem d2_275 : D C2_ 275 .isub 1 := by decide +kernel
theorem d2_276 : D C2_ 276 (.bipush 48) 2 := by decide +kernel
theorem d2_278 : D C2_ 278 (.lload_n 3) 1 := by decide +kernel
theorem d2_279 : D C2_ 279 (.ldc2_w 23) 3 := by decide +kernel
theorem d2_282 : D C2_ 282 .lrem 1 := by decide +kernel
theorem d2_283 : D C2_ 283 .l2i 1 := by decide +kernel
theorem d2_284 : D C2_ 284 .iadd 1 := by decide +kernel
theorem d2_285 : D C2_ 285 .i2c 1 := by decide +kernel
theorem d2_286 : D C2_ 286 .castore 1 := by decide +kernel
theorem d2_287 : D C2_ 287 (.lload_n 3) 1 := by decide +kernel
theorem d2_288 : D C2_ 288 (.ldc2_w 23) 3 := by decide +kernel
theorem d2_291 : D C2_ 291 .ldiv 1 := by decide +kernel
theorem d2_292 : D C2_ 292 (.lstore_n 3) 1 := by decide +kernel
theorem d2_293 : D C2_ 293 (.iload 6) 2 := by decide +kernel
theorem d2_295 : D C2_ 295 (.bipush 9) 2 := by decide +kernel
theorem d2_297 : D C2_ 297 (.if_icmp .le 20) 3 := by decide +kernel
theorem d2_300 : D C2_ 300 (.aload_n 0) 1 := by decide +kernel
theorem d2_301 : D C2_ 301 (.iload 7) 2 := by decide +kernel
theorem d2_303 : D C2_ 303 (.bipush 10) 2 := by decide +kernel
theorem d2_305 : D C2_ 305 .isub 1 := by decide +kernel
theorem d2_306 : D C2_ 306 (.bipush 48) 2 := by decide +kernel
theorem d2_308 : D C2_ 308 (.lload_n 3) 1 := by decide +kernel
theorem d2_309 : D C2_ 309 (.ldc2_w 23) 3 := by decide +kernel
theorem d2_312 : D C2_ 312 .lrem 1 := by decide +kernel
theorem d2_313 : D C2_ 313 .l2i 1 := by decide +kernel
theorem d2_314 : D C2_ 314 .iadd 1 := by decide +kernel
theorem d2_315 : D C2_ 315 .i2c 1 := by decide +kernel
theorem d2_316 : D C2_ 316 .castore 1 := by decide +kernel
theorem d2_317 : D C2_ 317 (.iload 7) 2 := by decide +kernel
theorem d2_319 : D C2_ 319 .ireturn 1 := by decide +kernel
-- com/example/foreground_courier/foregroundcourier/CacheStatsToStringPinLaw.putNum([CII)I
def Q3 (Z : State) (qa1 : Addr) (qi2 : Int32) (qi3 : Int32) (qk4 : ClassId) (qi5 : Int32) (qc6 : List Int32) (h0 : Heap) (n0 : Nat) : QT := fun v h L => v = some (.int (qi2 + (own_wd qi3))) ∧ Fr n0 L ∧ Keep h0 h [qa1] ∧ PA Z h qa1 qk4 .char qi5 (qc6 ++ (own_dec qi3))
abbrev l1_ (k_ : Nat) (qa1 : Addr) (qi2 : Int32) (qi3 : Int32) (v_ : Int64) (q_ : Int32) : Array Slot := #[rv qa1, iv qi2, iv qi3, .val (.long (own_q v_ k_)), .second, iv q_, iv (own_ld v_), iv (q_ + (own_ld v_))]
abbrev l2_ (qa1 : Addr) (qi2 : Int32) (qi3 : Int32) : Array Slot := #[rv qa1, iv qi2, iv qi3, .val (.long ((qi3).toInt64)), .second, iv qi2, .unset, .unset]
abbrev l3_ (qa1 : Addr) (qi2 : Int32) (qi3 : Int32) (v_ : Int64) (q_ : Int32) : Array Slot := #[rv qa1, iv qi2, iv qi3, .val (.long v_), .second, iv q_, iv (own_ld v_), iv (q_ + (own_ld v_))]
theorem rm3 (hw : HW a0 Z) (qa1 : Addr) (qi2 : Int32) (qi3 : Int32) (qk4 : ClassId) (qi5 : Int32) (qc6 : List Int32) (h0 : Heap) (n0 : Nat) (X00 : Old Z n0 h0) (A_qa1 : PA Z h0 qa1 qk4 .char qi5 qc6) (hk1 : (qi2).toInt = ((qc6).length : Int)) (hk2 : (((qc6).length + (own_dec qi3).length : Nat) : Int) ≤ (qi5).toInt) (hk3 : (qc6).length ≤ 900) (g_qa1 : n0 ≤ qa1) :
    MF l Z Y2_ method_4_code 8 (some .int) (Rm 1 0 0 13) #[.ref qa1, .int qi2, .int qi3] h0 (Q3 Z qa1 qi2 qi3 qk4 qi5 qc6 h0 n0) := by
 refine own_sF pn0 rfl (fun m => ef3 m qa1 qi2 qi3) ?_
 intro p e s m below meth c s₁ Bd hZ hh hx hby hml hown hnm X0 e0 pre0
 have N0 := Fr.nil n0
 have pr4 : Pr p e below s₁ m 6 (l2_ qa1 qi2 qi3) [] s₁ (entryFrame m #[.ref qa1, .int qi2, .int qi3] 8) := fun t k => pre0 t (by
  show Sx p e below s₁ m 0 #[rv qa1, iv qi2, iv qi3, .unset, .unset, .unset, .unset, .unset] [] _
  refine zj X0 Bd d2_0 rfl ?_
  refine XS.i2l X0.here hx rfl (hb hby d2_1) rfl ?_
  refine XS.lstoreN X0.here hx rfl (hb hby d2_2) rfl (l' := #[rv qa1, iv qi2, iv qi3, .val (.long ((qi3).toInt64)), .second, .unset, .unset, .unset]) rfl ?_
  refine zj X0 Bd d2_3 rfl ?_
  refine zs X0 Bd d2_4 (l' := (l2_ qa1 qi2 qi3)) rfl ?_
  exact k)
 refine cps (A := ∃ T5 : State, ∃ L5 : List Loc, ∃ h5 : Heap, ∃ v_ : Int64, ∃ q_ : Int32, ∃ B_ : List Int32, Stand p l e (Rm 1 0 0 13) s m #[.ref qa1, .int qi2, .int qi3] below meth c T5 L5 0 0 ∧ T5.heap = h5 ∧ Fr n0 L5 ∧ Keep h0 h5 [qa1] ∧ PA Z h5 qa1 qk4 .char qi5 B_ ∧ (¬ v_ < 0) ∧ (¬ (2147483648 : Int64) < v_) ∧ (q_.toInt = (B_.length : Int)) ∧ (B_.length ≤ 1000) ∧ (((B_.length + own_wn v_ : Nat) : Int) ≤ (qi5).toInt) ∧ (B_ ++ own_digs v_.toInt.toNat = qc6 ++ (own_dec qi3)) ∧ (q_ + own_ld v_ = qi2 + own_wd qi3) ∧ Pr p e below T5 m 27 #[rv qa1, iv qi2, iv qi3, .val (.long v_), .second, iv q_, .unset, .unset] [] s₁ (entryFrame m #[.ref qa1, .int qi2, .int qi3] 8)) (fun kont5 => ?_) (fun hA5 => ?_)
 ·
  skip
  have pr6 : Pr p e below s₁ m 9 (l2_ qa1 qi2 qi3) [(.int (XT.cmpL ((qi3).toInt64) (0 : Int64)))] s₁ (entryFrame m #[.ref qa1, .int qi2, .int qi3] 8) := fun t k => pr4 t (by
   show Sx p e below s₁ m 6 (l2_ qa1 qi2 qi3) [] _
   refine XS.lloadN X0.here hx rfl (hb hby d2_6) rfl ?_
   refine XS.lconst X0.here hx rfl (hb hby d2_7) ?_
   refine XT.lcmp X0.here hx rfl (hb hby d2_8) rfl ?_
   exact k)
  by_cases hc7 : ((qi3).toInt64) < (0 : Int64)
  ·
   skip
   have av8 := A_qa1
   obtain ⟨cl8, Ar8, q8, S8, N8, H8, Gf8⟩ := av8
   have hin9 := inb_of S8 (own_in0 hk1 hk2 (by have q_ := own_dec_len qi3; omega))
   obtain ⟨T9, h9, X9, e9, W9, st9⟩ := stC X0 hx hZ e0 Ar8 (j := qi2) hin9 (g := (mkF m 17 (l2_ qa1 qi2 qi3) [.int 45, .int qi2, .ref qa1])) rfl rfl (hb hby d2_17)
   have N9_ := Fr.snoc X9 N0 g_qa1
   have K10 := (Keep.refl h0 [qa1]).wr W9 (Or.inl (mI 0 rfl))
   have A11_ : PA Z h9 qa1 qk4 .char qi5 (qc6 ++ ([45] : List Int32)) := own_push A_qa1 (own_natI hk1) (fits_nar_char _) ((by decide) : nar .char (45 : Int32) = (45 : Int32)) W9
   have pr12 : Pr p e below T9 m 27 #[rv qa1, iv qi2, iv qi3, .val (.long (-((qi3).toInt64))), .second, iv (qi2 + (1 : Int32)), .unset, .unset] [] s₁ (entryFrame m #[.ref qa1, .int qi2, .int qi3] 8) := fun t k => pr6 t (by
    show Sx p e below s₁ m 9 (l2_ qa1 qi2 qi3) [(.int (XT.cmpL ((qi3).toInt64) (0 : Int64)))] _
    refine zo X0 Bd d2_9 (XT.ll_ge_f (hc7 : ((qi3).toInt64) < (0 : Int64))) ?_
    refine zb X0 Bd d2_12 rfl rfl ?_
    refine zi X0 Bd d2_13 rfl ?_
    refine zd X0 Bd d2_15 ?_
    refine st9 _ ?_
    refine zi X9 Bd d2_18 rfl ?_
    refine zc X9 Bd d2_20 ?_
    refine XS.iadd X9.here hx rfl (hb hby d2_21) rfl ?_
    refine zs X9 Bd d2_22 (l' := #[rv qa1, iv qi2, iv qi3, .val (.long ((qi3).toInt64)), .second, iv (qi2 + (1 : Int32)), .unset, .unset]) rfl ?_
    refine XS.lloadN X9.here hx rfl (hb hby d2_24) rfl ?_
    refine XS.lneg X9.here hx rfl (hb hby d2_25) rfl ?_
    refine XS.lstoreN X9.here hx rfl (hb hby d2_26) rfl (l' := #[rv qa1, iv qi2, iv qi3, .val (.long (-((qi3).toInt64))), .second, iv (qi2 + (1 : Int32)), .unset, .unset]) rfl ?_
    exact k)
   exact kont5 ⟨T9, _, h9, (-((qi3).toInt64)), (qi2 + (1 : Int32)), (qc6 ++ ([45] : List Int32)), (X9.mono (lE rfl) (lE rfl)), e9, N9_, ((Keep.refl h0 [qa1]).wr W9 (Or.inl (mI 0 rfl))), A11_, (own_n0 hc7), (own_nb qi3), (own_p1 hk1 (Nat.le_trans hk3 (by decide))), (by have q_ := hk3; simp only [List.length_append, List.length_cons, List.length_nil]; omega), (own_dNN hc7 hk2), (own_j6N hc7), (own_eN hc7), (fun t k => pr12 t k)⟩
  ·
   skip
   have pr13 : Pr p e below s₁ m 27 (l2_ qa1 qi2 qi3) [] s₁ (entryFrame m #[.ref qa1, .int qi2, .int qi3] 8) := fun t k => pr6 t (by
    show Sx p e below s₁ m 9 (l2_ qa1 qi2 qi3) [(.int (XT.cmpL ((qi3).toInt64) (0 : Int64)))] _
    refine zp (pc' := 27) X0 Bd d2_9 (XT.ll_ge_t (hc7 : ¬ (((qi3).toInt64) < (0 : Int64)))) rfl ?_
    exact k)
   exact kont5 ⟨s₁, _, h0, ((qi3).toInt64), qi2, qc6, (X0.mono (lE rfl) (lE rfl)), e0, N0, (Keep.refl h0 [qa1]), A_qa1, hc7, (own_pb qi3), hk1, (Nat.le_trans hk3 (by decide)), (own_dNP hc7 hk2), (own_j6P hc7), (own_eP hc7), (fun t k => pr13 t k)⟩
 ·
  obtain ⟨T5, L5, h5, v_, q_, B_, X5, e5, N5, K5j, A14_, hp5_0, hp5_1, hp5_2, hp5_3, hp5_4, hp5_5, hp5_6, pr5⟩ := hA5
  have K15 := (Keep.refl h0 [qa1]).trans K5j (allS (Or.inl (mI 0 rfl)) all0)
  have O17 := X00.keep K5j (allS g_qa1 all0)
  obtain ⟨_, T16, L16, X16, hQ16, st16⟩ := own_cS 0 0 [] 28 #[rv qa1, iv qi2, iv qi3, .val (.long v_), .second, iv q_, .unset, .unset] X5 hx hZ hown (w4_ hw) (w5_ hw) (w2_ hw) (w6_ hw) (rm1 l Z a0 hw  v_ h5 n0 O17 hp5_0 hp5_1) pd0 hml.symm (hb hby d2_28) e5 rfl rfl rfl rfl (by decide)
  obtain ⟨rfl, N16q, e16q⟩ := hQ16
  have N16 := Fr.app N5 N16q
  have av18 := A14_
  obtain ⟨cl18, Ar18, q18, S18, N18, H18, Gf18⟩ := av18
  have hin19 := inb_of S18 (own_jin (i := 0) hp5_2 hp5_3 (own_w1 v_).1 hp5_4)
  obtain ⟨T19, h19, X19, e19, W19, st19⟩ := stC X16 hx hZ e16q Ar18 (j := ((q_ + (own_ld v_)) - (1 : Int32))) hin19 (g := (mkF m 55 (l3_ qa1 qi2 qi3 v_ q_) [(.int (own_ch v_ 0)), (.int ((q_ + (own_ld v_)) - (1 : Int32))), .ref qa1])) rfl rfl (hb hby d2_55)
  have N19_ := Fr.snoc X19 N16 g_qa1
  have K20 := K15.wr W19 (Or.inl (mI 0 rfl))
  have A21_ : PA Z h19 qa1 qk4 .char qi5 (B_ ++ List.replicate (own_wn v_ - 1) 0 ++ (own_tl v_ 1)) := own_back1 (own_wn v_ - 1) A14_ (own_jb (i := 0) hp5_2 hp5_3 (own_w1 v_).1) (fits_nar_char _) ((own_ch_nar _ _) : nar .char (own_ch v_ 0) = (own_ch v_ 0)) W19
  have A22_ : PA Z h19 qa1 qk4 .char qi5 (own_st v_ B_ 1) := own_sub1 A21_ (own_stT (own_w1 v_).1)
  have pr23 : Pr p e below T19 m 62 (l1_ 1 qa1 qi2 qi3 v_ q_) [] s₁ (entryFrame m #[.ref qa1, .int qi2, .int qi3] 8) := fun t k => pr5 t (by
   show Sx p e below T5 m 27 #[rv qa1, iv qi2, iv qi3, .val (.long v_), .second, iv q_, .unset, .unset] [] _
   refine XS.lloadN X5.here hx rfl (hb hby d2_27) rfl ?_
   refine st16 _ ?_
   refine zs X16 Bd d2_31 (l' := #[rv qa1, iv qi2, iv qi3, .val (.long v_), .second, iv q_, iv (own_ld v_), .unset]) rfl ?_
   refine zi X16 Bd d2_33 rfl ?_
   refine zi X16 Bd d2_35 rfl ?_
   refine XS.iadd X16.here hx rfl (hb hby d2_37) rfl ?_
   refine zs X16 Bd d2_38 (l' := (l3_ qa1 qi2 qi3 v_ q_)) rfl ?_
   refine zb X16 Bd d2_40 rfl rfl ?_
   refine zi X16 Bd d2_41 rfl ?_
   refine zc X16 Bd d2_43 ?_
   refine XS.isub X16.here hx rfl (hb hby d2_44) rfl ?_
   refine zd X16 Bd d2_45 ?_
   refine XS.lloadN X16.here hx rfl (hb hby d2_47) rfl ?_
   refine X16.ldc2Long hx hown (mvT hZ (w15_ hw)) (g := (mkF m 48 (l3_ qa1 qi2 qi3 v_ q_) [.long v_, .int 48, (.int ((q_ + (own_ld v_)) - (1 : Int32))), .ref qa1])) rfl (hb hby d2_48) _ ?_
   refine XS.lrem X16.here hx rfl (hb hby d2_51) rfl (by decide) ?_
   refine XS.l2i X16.here hx rfl (hb hby d2_52) rfl ?_
   refine XS.iadd X16.here hx rfl (hb hby d2_53) rfl ?_
   refine XS.i2c X16.here hx rfl (hb hby d2_54) rfl ?_
   refine st19 _ ?_
   refine XS.lloadN X19.here hx rfl (hb hby d2_56) rfl ?_
   refine X19.ldc2Long hx hown (mvT hZ (w15_ hw)) (g := (mkF m 57 (l3_ qa1 qi2 qi3 v_ q_) [.long v_])) rfl (hb hby d2_57) _ ?_
   refine XS.ldiv X19.here hx rfl (hb hby d2_60) rfl (by decide) ?_
   refine XS.lstoreN X19.here hx rfl (hb hby d2_61) rfl (l' := (l1_ 1 qa1 qi2 qi3 v_ q_)) rfl ?_
   exact k)
  refine cps (A := ∃ T24 : State, ∃ L24 : List Loc, ∃ h24 : Heap, Stand p l e (Rm 1 0 0 13) s m #[.ref qa1, .int qi2, .int qi3] below meth c T24 L24 0 0 ∧ T24.heap = h24 ∧ Fr n0 L24 ∧ Keep h19 h24 [qa1] ∧ PA Z h24 qa1 qk4 .char qi5 (own_st v_ B_ 2) ∧ Pr p e below T24 m 84 (l1_ 1 qa1 qi2 qi3 v_ q_) [] s₁ (entryFrame m #[.ref qa1, .int qi2, .int qi3] 8)) (fun kont24 => ?_) (fun hA24 => ?_)
  ·
   skip
   have pr25 : Pr p e below T19 m 65 (l1_ 1 qa1 qi2 qi3 v_ q_) [.int 1, (.int (own_ld v_))] s₁ (entryFrame m #[.ref qa1, .int qi2, .int qi3] 8) := fun t k => pr23 t (by
    show Sx p e below T19 m 62 (l1_ 1 qa1 qi2 qi3 v_ q_) [] _
    refine zi X19 Bd d2_62 rfl ?_
    refine zc X19 Bd d2_64 ?_
    exact k)
   by_cases hc26 : (1 : Int32) < (own_ld v_)
   ·
    skip
    have av27 := A22_
    obtain ⟨cl27, Ar27, q27, S27, N27, H27, Gf27⟩ := av27
    have hin28 := inb_of S27 (own_jin (i := 1) hp5_2 hp5_3 (own_wi (i := 1) (by decide) hc26) hp5_4)
    obtain ⟨T28, h28, X28, e28, W28, st28⟩ := stC X19 hx hZ e19 Ar27 (j := ((q_ + (own_ld v_)) - (2 : Int32))) hin28 (g := (mkF m 83 (l1_ 1 qa1 qi2 qi3 v_ q_) [(.int (own_ch v_ 1)), (.int ((q_ + (own_ld v_)) - (2 : Int32))), .ref qa1])) rfl rfl (hb hby d2_83)
    have N28_ := Fr.snoc X28 N19_ g_qa1
    have K29 := K20.wr W28 (Or.inl (mI 0 rfl))
    have A30_ : PA Z h28 qa1 qk4 .char qi5 (B_ ++ List.replicate (own_wn v_ - 2) 0 ++ (own_tl v_ 2)) := own_back2 (own_wn v_ - 2) (own_wn v_ - 1) (by have q_ : 2 ≤ own_wn v_ := (own_wi (i := 1) (by decide) hc26); omega) (own_sub1 A22_ (own_stT (Nat.le_of_succ_le (own_wi (i := 1) (by decide) hc26))).symm) (own_jb (i := 1) hp5_2 hp5_3 (own_wi (i := 1) (by decide) hc26)) (fits_nar_char _) ((own_ch_nar _ _) : nar .char (own_ch v_ 1) = (own_ch v_ 1)) W28
    have pr31 : Pr p e below T28 m 84 (l1_ 1 qa1 qi2 qi3 v_ q_) [] s₁ (entryFrame m #[.ref qa1, .int qi2, .int qi3] 8) := fun t k => pr25 t (by
     show Sx p e below T19 m 65 (l1_ 1 qa1 qi2 qi3 v_ q_) [.int 1, (.int (own_ld v_))] _
     refine zn X19 Bd d2_65 (XT.ii_le_f (hc26 : (1 : Int32) < (own_ld v_))) ?_
     refine zb X19 Bd d2_68 rfl rfl ?_
     refine zi X19 Bd d2_69 rfl ?_
     refine zc X19 Bd d2_71 ?_
     refine XS.isub X19.here hx rfl (hb hby d2_72) rfl ?_
     refine zd X19 Bd d2_73 ?_
     refine XS.lloadN X19.here hx rfl (hb hby d2_75) rfl ?_
     refine X19.ldc2Long hx hown (mvT hZ (w15_ hw)) (g := (mkF m 76 (l1_ 1 qa1 qi2 qi3 v_ q_) [(.long (own_q v_ 1)), .int 48, (.int ((q_ + (own_ld v_)) - (2 : Int32))), .ref qa1])) rfl (hb hby d2_76) _ ?_
     refine XS.lrem X19.here hx rfl (hb hby d2_79) rfl (by decide) ?_
     refine XS.l2i X19.here hx rfl (hb hby d2_80) rfl ?_
     refine XS.iadd X19.here hx rfl (hb hby d2_81) rfl ?_
     refine XS.i2c X19.here hx rfl (hb hby d2_82) rfl ?_
     refine st28 _ ?_
     exact k)
    exact kont24 ⟨T28, _, h28, (X28.mono (lE rfl) (lE rfl)), e28, N28_, ((Keep.refl h19 [qa1]).wr W28 (Or.inl (mI 0 rfl))), (own_sub1 A30_ (own_stT (own_wi (i := 1) (by decide) hc26))), (fun t k => pr31 t k)⟩
   ·
    skip
    have pr32 : Pr p e below T19 m 84 (l1_ 1 qa1 qi2 qi3 v_ q_) [] s₁ (entryFrame m #[.ref qa1, .int qi2, .int qi3] 8) := fun t k => pr25 t (by
     show Sx p e below T19 m 65 (l1_ 1 qa1 qi2 qi3 v_ q_) [.int 1, (.int (own_ld v_))] _
     refine zy (pc' := 84) X19 Bd d2_65 (XT.ii_le_t (hc26 : ¬ ((1 : Int32) < (own_ld v_)))) rfl ?_
     exact k)
    exact kont24 ⟨T19, _, h19, (X19.mono (lE rfl) (lE rfl)), e19, N19_, (Keep.refl h19 [qa1]), (own_sub1 A22_ (own_stF (by decide) hc26)), (fun t k => pr32 t k)⟩
  ·
   obtain ⟨T24, L24, h24, X24, e24, N24, K24j, A33_, pr24⟩ := hA24
   have K34 := K20.trans K24j (allS (Or.inl (mI 0 rfl)) all0)
   have pr35 : Pr p e below T24 m 90 (l1_ 2 qa1 qi2 qi3 v_ q_) [] s₁ (entryFrame m #[.ref qa1, .int qi2, .int qi3] 8) := fun t k => pr24 t (by
    show Sx p e below T24 m 84 (l1_ 1 qa1 qi2 qi3 v_ q_) [] _
    refine XS.lloadN X24.here hx rfl (hb hby d2_84) rfl ?_
    refine X24.ldc2Long hx hown (mvT hZ (w15_ hw)) (g := (mkF m 85 (l1_ 1 qa1 qi2 qi3 v_ q_) [(.long (own_q v_ 1))])) rfl (hb hby d2_85) _ ?_
    refine XS.ldiv X24.here hx rfl (hb hby d2_88) rfl (by decide) ?_
    refine XS.lstoreN X24.here hx rfl (hb hby d2_89) rfl (l' := (l1_ 2 qa1 qi2 qi3 v_ q_)) rfl ?_
    exact k)
   refine cps (A := ∃ T36 : State, ∃ L36 : List Loc, ∃ h36 : Heap, Stand p l e (Rm 1 0 0 13) s m #[.ref qa1, .int qi2, .int qi3] below meth c T36 L36 0 0 ∧ T36.heap = h36 ∧ Fr n0 L36 ∧ Keep h24 h36 [qa1] ∧ PA Z h36 qa1 qk4 .char qi5 (own_st v_ B_ 3) ∧ Pr p e below T36 m 112 (l1_ 2 qa1 qi2 qi3 v_ q_) [] s₁ (entryFrame m #[.ref qa1, .int qi2, .int qi3] 8)) (fun kont36 => ?_) (fun hA36 => ?_)
   ·
    skip
    have pr37 : Pr p e below T24 m 93 (l1_ 2 qa1 qi2 qi3 v_ q_) [.int 2, (.int (own_ld v_))] s₁ (entryFrame m #[.ref qa1, .int qi2, .int qi3] 8) := fun t k => pr35 t (by
     show Sx p e below T24 m 90 (l1_ 2 qa1 qi2 qi3 v_ q_) [] _
     refine zi X24 Bd d2_90 rfl ?_
     refine zc X24 Bd d2_92 ?_
     exact k)
    by_cases hc38 : (2 : Int32) < (own_ld v_)
    ·
     skip
     have av39 := A33_
     obtain ⟨cl39, Ar39, q39, S39, N39, H39, Gf39⟩ := av39
     have hin40 := inb_of S39 (own_jin (i := 2) hp5_2 hp5_3 (own_wi (i := 2) (by decide) hc38) hp5_4)
     obtain ⟨T40, h40, X40, e40, W40, st40⟩ := stC X24 hx hZ e24 Ar39 (j := ((q_ + (own_ld v_)) - (3 : Int32))) hin40 (g := (mkF m 111 (l1_ 2 qa1 qi2 qi3 v_ q_) [(.int (own_ch v_ 2)), (.int ((q_ + (own_ld v_)) - (3 : Int32))), .ref qa1])) rfl rfl (hb hby d2_111)
     have N40_ := Fr.snoc X40 N24 g_qa1
     have K41 := K34.wr W40 (Or.inl (mI 0 rfl))
     have A42_ : PA Z h40 qa1 qk4 .char qi5 (B_ ++ List.replicate (own_wn v_ - 3) 0 ++ (own_tl v_ 3)) := own_back2 (own_wn v_ - 3) (own_wn v_ - 2) (by have q_ : 3 ≤ own_wn v_ := (own_wi (i := 2) (by decide) hc38); omega) (own_sub1 A33_ (own_stT (Nat.le_of_succ_le (own_wi (i := 2) (by decide) hc38))).symm) (own_jb (i := 2) hp5_2 hp5_3 (own_wi (i := 2) (by decide) hc38)) (fits_nar_char _) ((own_ch_nar _ _) : nar .char (own_ch v_ 2) = (own_ch v_ 2)) W40
     have pr43 : Pr p e below T40 m 112 (l1_ 2 qa1 qi2 qi3 v_ q_) [] s₁ (entryFrame m #[.ref qa1, .int qi2, .int qi3] 8) := fun t k => pr37 t (by
      show Sx p e below T24 m 93 (l1_ 2 qa1 qi2 qi3 v_ q_) [.int 2, (.int (own_ld v_))] _
      refine zn X24 Bd d2_93 (XT.ii_le_f (hc38 : (2 : Int32) < (own_ld v_))) ?_
      refine zb X24 Bd d2_96 rfl rfl ?_
      refine zi X24 Bd d2_97 rfl ?_
      refine zc X24 Bd d2_99 ?_
      refine XS.isub X24.here hx rfl (hb hby d2_100) rfl ?_
      refine zd X24 Bd d2_101 ?_
      refine XS.lloadN X24.here hx rfl (hb hby d2_103) rfl ?_
      refine X24.ldc2Long hx hown (mvT hZ (w15_ hw)) (g := (mkF m 104 (l1_ 2 qa1 qi2 qi3 v_ q_) [(.long (own_q v_ 2)), .int 48, (.int ((q_ + (own_ld v_)) - (3 : Int32))), .ref qa1])) rfl (hb hby d2_104) _ ?_
      refine XS.lrem X24.here hx rfl (hb hby d2_107) rfl (by decide) ?_
      refine XS.l2i X24.here hx rfl (hb hby d2_108) rfl ?_
      refine XS.iadd X24.here hx rfl (hb hby d2_109) rfl ?_
      refine XS.i2c X24.here hx rfl (hb hby d2_110) rfl ?_
      refine st40 _ ?_
      exact k)
     exact kont36 ⟨T40, _, h40, (X40.mono (lE rfl) (lE rfl)), e40, N40_, ((Keep.refl h24 [qa1]).wr W40 (Or.inl (mI 0 rfl))), (own_sub1 A42_ (own_stT (own_wi (i := 2) (by decide) hc38))), (fun t k => pr43 t k)⟩
    ·
     skip
     have pr44 : Pr p e below T24 m 112 (l1_ 2 qa1 qi2 qi3 v_ q_) [] s₁ (entryFrame m #[.ref qa1, .int qi2, .int qi3] 8) := fun t k => pr37 t (by
      show Sx p e below T24 m 93 (l1_ 2 qa1 qi2 qi3 v_ q_) [.int 2, (.int (own_ld v_))] _
      refine zy (pc' := 112) X24 Bd d2_93 (XT.ii_le_t (hc38 : ¬ ((2 : Int32) < (own_ld v_)))) rfl ?_
      exact k)
     exact kont36 ⟨T24, _, h24, (X24.mono (lE rfl) (lE rfl)), e24, N24, (Keep.refl h24 [qa1]), (own_sub1 A33_ (own_stF (by decide) hc38)), (fun t k => pr44 t k)⟩
   ·
    obtain ⟨T36, L36, h36, X36, e36, N36, K36j, A45_, pr36⟩ := hA36
    have K46 := K34.trans K36j (allS (Or.inl (mI 0 rfl)) all0)
    have pr47 : Pr p e below T36 m 118 (l1_ 3 qa1 qi2 qi3 v_ q_) [] s₁ (entryFrame m #[.ref qa1, .int qi2, .int qi3] 8) := fun t k => pr36 t (by
     show Sx p e below T36 m 112 (l1_ 2 qa1 qi2 qi3 v_ q_) [] _
     refine XS.lloadN X36.here hx rfl (hb hby d2_112) rfl ?_
     refine X36.ldc2Long hx hown (mvT hZ (w15_ hw)) (g := (mkF m 113 (l1_ 2 qa1 qi2 qi3 v_ q_) [(.long (own_q v_ 2))])) rfl (hb hby d2_113) _ ?_
     refine XS.ldiv X36.here hx rfl (hb hby d2_116) rfl (by decide) ?_
     refine XS.lstoreN X36.here hx rfl (hb hby d2_117) rfl (l' := (l1_ 3 qa1 qi2 qi3 v_ q_)) rfl ?_
     exact k)
    refine cps (A := ∃ T48 : State, ∃ L48 : List Loc, ∃ h48 : Heap, Stand p l e (Rm 1 0 0 13) s m #[.ref qa1, .int qi2, .int qi3] below meth c T48 L48 0 0 ∧ T48.heap = h48 ∧ Fr n0 L48 ∧ Keep h36 h48 [qa1] ∧ PA Z h48 qa1 qk4 .char qi5 (own_st v_ B_ 4) ∧ Pr p e below T48 m 140 (l1_ 3 qa1 qi2 qi3 v_ q_) [] s₁ (entryFrame m #[.ref qa1, .int qi2, .int qi3] 8)) (fun kont48 => ?_) (fun hA48 => ?_)
    ·
     skip
     have pr49 : Pr p e below T36 m 121 (l1_ 3 qa1 qi2 qi3 v_ q_) [.int 3, (.int (own_ld v_))] s₁ (entryFrame m #[.ref qa1, .int qi2, .int qi3] 8) := fun t k => pr47 t (by
      show Sx p e below T36 m 118 (l1_ 3 qa1 qi2 qi3 v_ q_) [] _
      refine zi X36 Bd d2_118 rfl ?_
      refine zc X36 Bd d2_120 ?_
      exact k)
     by_cases hc50 : (3 : Int32) < (own_ld v_)
     ·
      skip
      have av51 := A45_
      obtain ⟨cl51, Ar51, q51, S51, N51, H51, Gf51⟩ := av51
      have hin52 := inb_of S51 (own_jin (i := 3) hp5_2 hp5_3 (own_wi (i := 3) (by decide) hc50) hp5_4)
      obtain ⟨T52, h52, X52, e52, W52, st52⟩ := stC X36 hx hZ e36 Ar51 (j := ((q_ + (own_ld v_)) - (4 : Int32))) hin52 (g := (mkF m 139 (l1_ 3 qa1 qi2 qi3 v_ q_) [(.int (own_ch v_ 3)), (.int ((q_ + (own_ld v_)) - (4 : Int32))), .ref qa1])) rfl rfl (hb hby d2_139)
      have N52_ := Fr.snoc X52 N36 g_qa1
      have K53 := K46.wr W52 (Or.inl (mI 0 rfl))
      have A54_ : PA Z h52 qa1 qk4 .char qi5 (B_ ++ List.replicate (own_wn v_ - 4) 0 ++ (own_tl v_ 4)) := own_back2 (own_wn v_ - 4) (own_wn v_ - 3) (by have q_ : 4 ≤ own_wn v_ := (own_wi (i := 3) (by decide) hc50); omega) (own_sub1 A45_ (own_stT (Nat.le_of_succ_le (own_wi (i := 3) (by decide) hc50))).symm) (own_jb (i := 3) hp5_2 hp5_3 (own_wi (i := 3) (by decide) hc50)) (fits_nar_char _) ((own_ch_nar _ _) : nar .char (own_ch v_ 3) = (own_ch v_ 3)) W52
      have pr55 : Pr p e below T52 m 140 (l1_ 3 qa1 qi2 qi3 v_ q_) [] s₁ (entryFrame m #[.ref qa1, .int qi2, .int qi3] 8) := fun t k => pr49 t (by
       show Sx p e below T36 m 121 (l1_ 3 qa1 qi2 qi3 v_ q_) [.int 3, (.int (own_ld v_))] _
       refine zn X36 Bd d2_121 (XT.ii_le_f (hc50 : (3 : Int32) < (own_ld v_))) ?_
       refine zb X36 Bd d2_124 rfl rfl ?_
       refine zi X36 Bd d2_125 rfl ?_
       refine zc X36 Bd d2_127 ?_
       refine XS.isub X36.here hx rfl (hb hby d2_128) rfl ?_
       refine zd X36 Bd d2_129 ?_
       refine XS.lloadN X36.here hx rfl (hb hby d2_131) rfl ?_
       refine X36.ldc2Long hx hown (mvT hZ (w15_ hw)) (g := (mkF m 132 (l1_ 3 qa1 qi2 qi3 v_ q_) [(.long (own_q v_ 3)), .int 48, (.int ((q_ + (own_ld v_)) - (4 : Int32))), .ref qa1])) rfl (hb hby d2_132) _ ?_
       refine XS.lrem X36.here hx rfl (hb hby d2_135) rfl (by decide) ?_
       refine XS.l2i X36.here hx rfl (hb hby d2_136) rfl ?_
       refine XS.iadd X36.here hx rfl (hb hby d2_137) rfl ?_
       refine XS.i2c X36.here hx rfl (hb hby d2_138) rfl ?_
       refine st52 _ ?_
       exact k)
      exact kont48 ⟨T52, _, h52, (X52.mono (lE rfl) (lE rfl)), e52, N52_, ((Keep.refl h36 [qa1]).wr W52 (Or.inl (mI 0 rfl))), (own_sub1 A54_ (own_stT (own_wi (i := 3) (by decide) hc50))), (fun t k => pr55 t k)⟩
     ·
      skip
      have pr56 : Pr p e below T36 m 140 (l1_ 3 qa1 qi2 qi3 v_ q_) [] s₁ (entryFrame m #[.ref qa1, .int qi2, .int qi3] 8) := fun t k => pr49 t (by
       show Sx p e below T36 m 121 (l1_ 3 qa1 qi2 qi3 v_ q_) [.int 3, (.int (own_ld v_))] _
       refine zy (pc' := 140) X36 Bd d2_121 (XT.ii_le_t (hc50 : ¬ ((3 : Int32) < (own_ld v_)))) rfl ?_
       exact k)
      exact kont48 ⟨T36, _, h36, (X36.mono (lE rfl) (lE rfl)), e36, N36, (Keep.refl h36 [qa1]), (own_sub1 A45_ (own_stF (by decide) hc50)), (fun t k => pr56 t k)⟩
    ·
     obtain ⟨T48, L48, h48, X48, e48, N48, K48j, A57_, pr48⟩ := hA48
     have K58 := K46.trans K48j (allS (Or.inl (mI 0 rfl)) all0)
     have pr59 : Pr p e below T48 m 146 (l1_ 4 qa1 qi2 qi3 v_ q_) [] s₁ (entryFrame m #[.ref qa1, .int qi2, .int qi3] 8) := fun t k => pr48 t (by
      show Sx p e below T48 m 140 (l1_ 3 qa1 qi2 qi3 v_ q_) [] _
      refine XS.lloadN X48.here hx rfl (hb hby d2_140) rfl ?_
      refine X48.ldc2Long hx hown (mvT hZ (w15_ hw)) (g := (mkF m 141 (l1_ 3 qa1 qi2 qi3 v_ q_) [(.long (own_q v_ 3))])) rfl (hb hby d2_141) _ ?_
      refine XS.ldiv X48.here hx rfl (hb hby d2_144) rfl (by decide) ?_
      refine XS.lstoreN X48.here hx rfl (hb hby d2_145) rfl (l' := (l1_ 4 qa1 qi2 qi3 v_ q_)) rfl ?_
      exact k)
     refine cps (A := ∃ T60 : State, ∃ L60 : List Loc, ∃ h60 : Heap, Stand p l e (Rm 1 0 0 13) s m #[.ref qa1, .int qi2, .int qi3] below meth c T60 L60 0 0 ∧ T60.heap = h60 ∧ Fr n0 L60 ∧ Keep h48 h60 [qa1] ∧ PA Z h60 qa1 qk4 .char qi5 (own_st v_ B_ 5) ∧ Pr p e below T60 m 168 (l1_ 4 qa1 qi2 qi3 v_ q_) [] s₁ (entryFrame m #[.ref qa1, .int qi2, .int qi3] 8)) (fun kont60 => ?_) (fun hA60 => ?_)
     ·
      skip
      have pr61 : Pr p e below T48 m 149 (l1_ 4 qa1 qi2 qi3 v_ q_) [.int 4, (.int (own_ld v_))] s₁ (entryFrame m #[.ref qa1, .int qi2, .int qi3] 8) := fun t k => pr59 t (by
       show Sx p e below T48 m 146 (l1_ 4 qa1 qi2 qi3 v_ q_) [] _
       refine zi X48 Bd d2_146 rfl ?_
       refine zc X48 Bd d2_148 ?_
       exact k)
      by_cases hc62 : (4 : Int32) < (own_ld v_)
      ·
       skip
       have av63 := A57_
       obtain ⟨cl63, Ar63, q63, S63, N63, H63, Gf63⟩ := av63
       have hin64 := inb_of S63 (own_jin (i := 4) hp5_2 hp5_3 (own_wi (i := 4) (by decide) hc62) hp5_4)
       obtain ⟨T64, h64, X64, e64, W64, st64⟩ := stC X48 hx hZ e48 Ar63 (j := ((q_ + (own_ld v_)) - (5 : Int32))) hin64 (g := (mkF m 167 (l1_ 4 qa1 qi2 qi3 v_ q_) [(.int (own_ch v_ 4)), (.int ((q_ + (own_ld v_)) - (5 : Int32))), .ref qa1])) rfl rfl (hb hby d2_167)
       have N64_ := Fr.snoc X64 N48 g_qa1
       have K65 := K58.wr W64 (Or.inl (mI 0 rfl))
       have A66_ : PA Z h64 qa1 qk4 .char qi5 (B_ ++ List.replicate (own_wn v_ - 5) 0 ++ (own_tl v_ 5)) := own_back2 (own_wn v_ - 5) (own_wn v_ - 4) (by have q_ : 5 ≤ own_wn v_ := (own_wi (i := 4) (by decide) hc62); omega) (own_sub1 A57_ (own_stT (Nat.le_of_succ_le (own_wi (i := 4) (by decide) hc62))).symm) (own_jb (i := 4) hp5_2 hp5_3 (own_wi (i := 4) (by decide) hc62)) (fits_nar_char _) ((own_ch_nar _ _) : nar .char (own_ch v_ 4) = (own_ch v_ 4)) W64
       have pr67 : Pr p e below T64 m 168 (l1_ 4 qa1 qi2 qi3 v_ q_) [] s₁ (entryFrame m #[.ref qa1, .int qi2, .int qi3] 8) := fun t k => pr61 t (by
        show Sx p e below T48 m 149 (l1_ 4 qa1 qi2 qi3 v_ q_) [.int 4, (.int (own_ld v_))] _
        refine zn X48 Bd d2_149 (XT.ii_le_f (hc62 : (4 : Int32) < (own_ld v_))) ?_
        refine zb X48 Bd d2_152 rfl rfl ?_
        refine zi X48 Bd d2_153 rfl ?_
        refine zc X48 Bd d2_155 ?_
        refine XS.isub X48.here hx rfl (hb hby d2_156) rfl ?_
        refine zd X48 Bd d2_157 ?_
        refine XS.lloadN X48.here hx rfl (hb hby d2_159) rfl ?_
        refine X48.ldc2Long hx hown (mvT hZ (w15_ hw)) (g := (mkF m 160 (l1_ 4 qa1 qi2 qi3 v_ q_) [(.long (own_q v_ 4)), .int 48, (.int ((q_ + (own_ld v_)) - (5 : Int32))), .ref qa1])) rfl (hb hby d2_160) _ ?_
        refine XS.lrem X48.here hx rfl (hb hby d2_163) rfl (by decide) ?_
        refine XS.l2i X48.here hx rfl (hb hby d2_164) rfl ?_
        refine XS.iadd X48.here hx rfl (hb hby d2_165) rfl ?_
        refine XS.i2c X48.here hx rfl (hb hby d2_166) rfl ?_
        refine st64 _ ?_
        exact k)
       exact kont60 ⟨T64, _, h64, (X64.mono (lE rfl) (lE rfl)), e64, N64_, ((Keep.refl h48 [qa1]).wr W64 (Or.inl (mI 0 rfl))), (own_sub1 A66_ (own_stT (own_wi (i := 4) (by decide) hc62))), (fun t k => pr67 t k)⟩
      ·
       skip
       have pr68 : Pr p e below T48 m 168 (l1_ 4 qa1 qi2 qi3 v_ q_) [] s₁ (entryFrame m #[.ref qa1, .int qi2, .int qi3] 8) := fun t k => pr61 t (by
        show Sx p e below T48 m 149 (l1_ 4 qa1 qi2 qi3 v_ q_) [.int 4, (.int (own_ld v_))] _
        refine zy (pc' := 168) X48 Bd d2_149 (XT.ii_le_t (hc62 : ¬ ((4 : Int32) < (own_ld v_)))) rfl ?_
        exact k)
       exact kont60 ⟨T48, _, h48, (X48.mono (lE rfl) (lE rfl)), e48, N48, (Keep.refl h48 [qa1]), (own_sub1 A57_ (own_stF (by decide) hc62)), (fun t k => pr68 t k)⟩
     ·
      obtain ⟨T60, L60, h60, X60, e60, N60, K60j, A69_, pr60⟩ := hA60
      have K70 := K58.trans K60j (allS (Or.inl (mI 0 rfl)) all0)
      have pr71 : Pr p e below T60 m 174 (l1_ 5 qa1 qi2 qi3 v_ q_) [] s₁ (entryFrame m #[.ref qa1, .int qi2, .int qi3] 8) := fun t k => pr60 t (by
       show Sx p e below T60 m 168 (l1_ 4 qa1 qi2 qi3 v_ q_) [] _
       refine XS.lloadN X60.here hx rfl (hb hby d2_168) rfl ?_
       refine X60.ldc2Long hx hown (mvT hZ (w15_ hw)) (g := (mkF m 169 (l1_ 4 qa1 qi2 qi3 v_ q_) [(.long (own_q v_ 4))])) rfl (hb hby d2_169) _ ?_
       refine XS.ldiv X60.here hx rfl (hb hby d2_172) rfl (by decide) ?_
       refine XS.lstoreN X60.here hx rfl (hb hby d2_173) rfl (l' := (l1_ 5 qa1 qi2 qi3 v_ q_)) rfl ?_
       exact k)
      refine cps (A := ∃ T72 : State, ∃ L72 : List Loc, ∃ h72 : Heap, Stand p l e (Rm 1 0 0 13) s m #[.ref qa1, .int qi2, .int qi3] below meth c T72 L72 0 0 ∧ T72.heap = h72 ∧ Fr n0 L72 ∧ Keep h60 h72 [qa1] ∧ PA Z h72 qa1 qk4 .char qi5 (own_st v_ B_ 6) ∧ Pr p e below T72 m 197 (l1_ 5 qa1 qi2 qi3 v_ q_) [] s₁ (entryFrame m #[.ref qa1, .int qi2, .int qi3] 8)) (fun kont72 => ?_) (fun hA72 => ?_)
      ·
       skip
       have pr73 : Pr p e below T60 m 177 (l1_ 5 qa1 qi2 qi3 v_ q_) [.int 5, (.int (own_ld v_))] s₁ (entryFrame m #[.ref qa1, .int qi2, .int qi3] 8) := fun t k => pr71 t (by
        show Sx p e below T60 m 174 (l1_ 5 qa1 qi2 qi3 v_ q_) [] _
        refine zi X60 Bd d2_174 rfl ?_
        refine zc X60 Bd d2_176 ?_
        exact k)
       by_cases hc74 : (5 : Int32) < (own_ld v_)
       ·
        skip
        have av75 := A69_
        obtain ⟨cl75, Ar75, q75, S75, N75, H75, Gf75⟩ := av75
        have hin76 := inb_of S75 (own_jin (i := 5) hp5_2 hp5_3 (own_wi (i := 5) (by decide) hc74) hp5_4)
        obtain ⟨T76, h76, X76, e76, W76, st76⟩ := stC X60 hx hZ e60 Ar75 (j := ((q_ + (own_ld v_)) - (6 : Int32))) hin76 (g := (mkF m 196 (l1_ 5 qa1 qi2 qi3 v_ q_) [(.int (own_ch v_ 5)), (.int ((q_ + (own_ld v_)) - (6 : Int32))), .ref qa1])) rfl rfl (hb hby d2_196)
        have N76_ := Fr.snoc X76 N60 g_qa1
        have K77 := K70.wr W76 (Or.inl (mI 0 rfl))
        have A78_ : PA Z h76 qa1 qk4 .char qi5 (B_ ++ List.replicate (own_wn v_ - 6) 0 ++ (own_tl v_ 6)) := own_back2 (own_wn v_ - 6) (own_wn v_ - 5) (by have q_ : 6 ≤ own_wn v_ := (own_wi (i := 5) (by decide) hc74); omega) (own_sub1 A69_ (own_stT (Nat.le_of_succ_le (own_wi (i := 5) (by decide) hc74))).symm) (own_jb (i := 5) hp5_2 hp5_3 (own_wi (i := 5) (by decide) hc74)) (fits_nar_char _) ((own_ch_nar _ _) : nar .char (own_ch v_ 5) = (own_ch v_ 5)) W76
        have pr79 : Pr p e below T76 m 197 (l1_ 5 qa1 qi2 qi3 v_ q_) [] s₁ (entryFrame m #[.ref qa1, .int qi2, .int qi3] 8) := fun t k => pr73 t (by
         show Sx p e below T60 m 177 (l1_ 5 qa1 qi2 qi3 v_ q_) [.int 5, (.int (own_ld v_))] _
         refine zn X60 Bd d2_177 (XT.ii_le_f (hc74 : (5 : Int32) < (own_ld v_))) ?_
         refine zb X60 Bd d2_180 rfl rfl ?_
         refine zi X60 Bd d2_181 rfl ?_
         refine zd X60 Bd d2_183 ?_
         refine XS.isub X60.here hx rfl (hb hby d2_185) rfl ?_
         refine zd X60 Bd d2_186 ?_
         refine XS.lloadN X60.here hx rfl (hb hby d2_188) rfl ?_
         refine X60.ldc2Long hx hown (mvT hZ (w15_ hw)) (g := (mkF m 189 (l1_ 5 qa1 qi2 qi3 v_ q_) [(.long (own_q v_ 5)), .int 48, (.int ((q_ + (own_ld v_)) - (6 : Int32))), .ref qa1])) rfl (hb hby d2_189) _ ?_
         refine XS.lrem X60.here hx rfl (hb hby d2_192) rfl (by decide) ?_
         refine XS.l2i X60.here hx rfl (hb hby d2_193) rfl ?_
         refine XS.iadd X60.here hx rfl (hb hby d2_194) rfl ?_
         refine XS.i2c X60.here hx rfl (hb hby d2_195) rfl ?_
         refine st76 _ ?_
         exact k)
        exact kont72 ⟨T76, _, h76, (X76.mono (lE rfl) (lE rfl)), e76, N76_, ((Keep.refl h60 [qa1]).wr W76 (Or.inl (mI 0 rfl))), (own_sub1 A78_ (own_stT (own_wi (i := 5) (by decide) hc74))), (fun t k => pr79 t k)⟩
       ·
        skip
        have pr80 : Pr p e below T60 m 197 (l1_ 5 qa1 qi2 qi3 v_ q_) [] s₁ (entryFrame m #[.ref qa1, .int qi2, .int qi3] 8) := fun t k => pr73 t (by
         show Sx p e below T60 m 177 (l1_ 5 qa1 qi2 qi3 v_ q_) [.int 5, (.int (own_ld v_))] _
         refine zy (pc' := 197) X60 Bd d2_177 (XT.ii_le_t (hc74 : ¬ ((5 : Int32) < (own_ld v_)))) rfl ?_
         exact k)
        exact kont72 ⟨T60, _, h60, (X60.mono (lE rfl) (lE rfl)), e60, N60, (Keep.refl h60 [qa1]), (own_sub1 A69_ (own_stF (by decide) hc74)), (fun t k => pr80 t k)⟩
      ·
       obtain ⟨T72, L72, h72, X72, e72, N72, K72j, A81_, pr72⟩ := hA72
       have K82 := K70.trans K72j (allS (Or.inl (mI 0 rfl)) all0)
       have pr83 : Pr p e below T72 m 203 (l1_ 6 qa1 qi2 qi3 v_ q_) [] s₁ (entryFrame m #[.ref qa1, .int qi2, .int qi3] 8) := fun t k => pr72 t (by
        show Sx p e below T72 m 197 (l1_ 5 qa1 qi2 qi3 v_ q_) [] _
        refine XS.lloadN X72.here hx rfl (hb hby d2_197) rfl ?_
        refine X72.ldc2Long hx hown (mvT hZ (w15_ hw)) (g := (mkF m 198 (l1_ 5 qa1 qi2 qi3 v_ q_) [(.long (own_q v_ 5))])) rfl (hb hby d2_198) _ ?_
        refine XS.ldiv X72.here hx rfl (hb hby d2_201) rfl (by decide) ?_
        refine XS.lstoreN X72.here hx rfl (hb hby d2_202) rfl (l' := (l1_ 6 qa1 qi2 qi3 v_ q_)) rfl ?_
        exact k)
       refine cps (A := ∃ T84 : State, ∃ L84 : List Loc, ∃ h84 : Heap, Stand p l e (Rm 1 0 0 13) s m #[.ref qa1, .int qi2, .int qi3] below meth c T84 L84 0 0 ∧ T84.heap = h84 ∧ Fr n0 L84 ∧ Keep h72 h84 [qa1] ∧ PA Z h84 qa1 qk4 .char qi5 (own_st v_ B_ 7) ∧ Pr p e below T84 m 227 (l1_ 6 qa1 qi2 qi3 v_ q_) [] s₁ (entryFrame m #[.ref qa1, .int qi2, .int qi3] 8)) (fun kont84 => ?_) (fun hA84 => ?_)
       ·
        skip
        have pr85 : Pr p e below T72 m 207 (l1_ 6 qa1 qi2 qi3 v_ q_) [.int 6, (.int (own_ld v_))] s₁ (entryFrame m #[.ref qa1, .int qi2, .int qi3] 8) := fun t k => pr83 t (by
         show Sx p e below T72 m 203 (l1_ 6 qa1 qi2 qi3 v_ q_) [] _
         refine zi X72 Bd d2_203 rfl ?_
         refine zd X72 Bd d2_205 ?_
         exact k)
        by_cases hc86 : (6 : Int32) < (own_ld v_)
        ·
         skip
         have av87 := A81_
         obtain ⟨cl87, Ar87, q87, S87, N87, H87, Gf87⟩ := av87
         have hin88 := inb_of S87 (own_jin (i := 6) hp5_2 hp5_3 (own_wi (i := 6) (by decide) hc86) hp5_4)
         obtain ⟨T88, h88, X88, e88, W88, st88⟩ := stC X72 hx hZ e72 Ar87 (j := ((q_ + (own_ld v_)) - (7 : Int32))) hin88 (g := (mkF m 226 (l1_ 6 qa1 qi2 qi3 v_ q_) [(.int (own_ch v_ 6)), (.int ((q_ + (own_ld v_)) - (7 : Int32))), .ref qa1])) rfl rfl (hb hby d2_226)
         have N88_ := Fr.snoc X88 N72 g_qa1
         have K89 := K82.wr W88 (Or.inl (mI 0 rfl))
         have A90_ : PA Z h88 qa1 qk4 .char qi5 (B_ ++ List.replicate (own_wn v_ - 7) 0 ++ (own_tl v_ 7)) := own_back2 (own_wn v_ - 7) (own_wn v_ - 6) (by have q_ : 7 ≤ own_wn v_ := (own_wi (i := 6) (by decide) hc86); omega) (own_sub1 A81_ (own_stT (Nat.le_of_succ_le (own_wi (i := 6) (by decide) hc86))).symm) (own_jb (i := 6) hp5_2 hp5_3 (own_wi (i := 6) (by decide) hc86)) (fits_nar_char _) ((own_ch_nar _ _) : nar .char (own_ch v_ 6) = (own_ch v_ 6)) W88
         have pr91 : Pr p e below T88 m 227 (l1_ 6 qa1 qi2 qi3 v_ q_) [] s₁ (entryFrame m #[.ref qa1, .int qi2, .int qi3] 8) := fun t k => pr85 t (by
          show Sx p e below T72 m 207 (l1_ 6 qa1 qi2 qi3 v_ q_) [.int 6, (.int (own_ld v_))] _
          refine zn X72 Bd d2_207 (XT.ii_le_f (hc86 : (6 : Int32) < (own_ld v_))) ?_
          refine zb X72 Bd d2_210 rfl rfl ?_
          refine zi X72 Bd d2_211 rfl ?_
          refine zd X72 Bd d2_213 ?_
          refine XS.isub X72.here hx rfl (hb hby d2_215) rfl ?_
          refine zd X72 Bd d2_216 ?_
          refine XS.lloadN X72.here hx rfl (hb hby d2_218) rfl ?_
          refine X72.ldc2Long hx hown (mvT hZ (w15_ hw)) (g := (mkF m 219 (l1_ 6 qa1 qi2 qi3 v_ q_) [(.long (own_q v_ 6)), .int 48, (.int ((q_ + (own_ld v_)) - (7 : Int32))), .ref qa1])) rfl (hb hby d2_219) _ ?_
          refine XS.lrem X72.here hx rfl (hb hby d2_222) rfl (by decide) ?_
          refine XS.l2i X72.here hx rfl (hb hby d2_223) rfl ?_
          refine XS.iadd X72.here hx rfl (hb hby d2_224) rfl ?_
          refine XS.i2c X72.here hx rfl (hb hby d2_225) rfl ?_
          refine st88 _ ?_
          exact k)
         exact kont84 ⟨T88, _, h88, (X88.mono (lE rfl) (lE rfl)), e88, N88_, ((Keep.refl h72 [qa1]).wr W88 (Or.inl (mI 0 rfl))), (own_sub1 A90_ (own_stT (own_wi (i := 6) (by decide) hc86))), (fun t k => pr91 t k)⟩
        ·
         skip
         have pr92 : Pr p e below T72 m 227 (l1_ 6 qa1 qi2 qi3 v_ q_) [] s₁ (entryFrame m #[.ref qa1, .int qi2, .int qi3] 8) := fun t k => pr85 t (by
          show Sx p e below T72 m 207 (l1_ 6 qa1 qi2 qi3 v_ q_) [.int 6, (.int (own_ld v_))] _
          refine zy (pc' := 227) X72 Bd d2_207 (XT.ii_le_t (hc86 : ¬ ((6 : Int32) < (own_ld v_)))) rfl ?_
          exact k)
         exact kont84 ⟨T72, _, h72, (X72.mono (lE rfl) (lE rfl)), e72, N72, (Keep.refl h72 [qa1]), (own_sub1 A81_ (own_stF (by decide) hc86)), (fun t k => pr92 t k)⟩
       ·
        obtain ⟨T84, L84, h84, X84, e84, N84, K84j, A93_, pr84⟩ := hA84
        have K94 := K82.trans K84j (allS (Or.inl (mI 0 rfl)) all0)
        have pr95 : Pr p e below T84 m 233 (l1_ 7 qa1 qi2 qi3 v_ q_) [] s₁ (entryFrame m #[.ref qa1, .int qi2, .int qi3] 8) := fun t k => pr84 t (by
         show Sx p e below T84 m 227 (l1_ 6 qa1 qi2 qi3 v_ q_) [] _
         refine XS.lloadN X84.here hx rfl (hb hby d2_227) rfl ?_
         refine X84.ldc2Long hx hown (mvT hZ (w15_ hw)) (g := (mkF m 228 (l1_ 6 qa1 qi2 qi3 v_ q_) [(.long (own_q v_ 6))])) rfl (hb hby d2_228) _ ?_
         refine XS.ldiv X84.here hx rfl (hb hby d2_231) rfl (by decide) ?_
         refine XS.lstoreN X84.here hx rfl (hb hby d2_232) rfl (l' := (l1_ 7 qa1 qi2 qi3 v_ q_)) rfl ?_
         exact k)
        refine cps (A := ∃ T96 : State, ∃ L96 : List Loc, ∃ h96 : Heap, Stand p l e (Rm 1 0 0 13) s m #[.ref qa1, .int qi2, .int qi3] below meth c T96 L96 0 0 ∧ T96.heap = h96 ∧ Fr n0 L96 ∧ Keep h84 h96 [qa1] ∧ PA Z h96 qa1 qk4 .char qi5 (own_st v_ B_ 8) ∧ Pr p e below T96 m 257 (l1_ 7 qa1 qi2 qi3 v_ q_) [] s₁ (entryFrame m #[.ref qa1, .int qi2, .int qi3] 8)) (fun kont96 => ?_) (fun hA96 => ?_)
        ·
         skip
         have pr97 : Pr p e below T84 m 237 (l1_ 7 qa1 qi2 qi3 v_ q_) [.int 7, (.int (own_ld v_))] s₁ (entryFrame m #[.ref qa1, .int qi2, .int qi3] 8) := fun t k => pr95 t (by
          show Sx p e below T84 m 233 (l1_ 7 qa1 qi2 qi3 v_ q_) [] _
          refine zi X84 Bd d2_233 rfl ?_
          refine zd X84 Bd d2_235 ?_
          exact k)
         by_cases hc98 : (7 : Int32) < (own_ld v_)
         ·
          skip
          have av99 := A93_
          obtain ⟨cl99, Ar99, q99, S99, N99, H99, Gf99⟩ := av99
          have hin100 := inb_of S99 (own_jin (i := 7) hp5_2 hp5_3 (own_wi (i := 7) (by decide) hc98) hp5_4)
          obtain ⟨T100, h100, X100, e100, W100, st100⟩ := stC X84 hx hZ e84 Ar99 (j := ((q_ + (own_ld v_)) - (8 : Int32))) hin100 (g := (mkF m 256 (l1_ 7 qa1 qi2 qi3 v_ q_) [(.int (own_ch v_ 7)), (.int ((q_ + (own_ld v_)) - (8 : Int32))), .ref qa1])) rfl rfl (hb hby d2_256)
          have N100_ := Fr.snoc X100 N84 g_qa1
          have K101 := K94.wr W100 (Or.inl (mI 0 rfl))
          have A102_ : PA Z h100 qa1 qk4 .char qi5 (B_ ++ List.replicate (own_wn v_ - 8) 0 ++ (own_tl v_ 8)) := own_back2 (own_wn v_ - 8) (own_wn v_ - 7) (by have q_ : 8 ≤ own_wn v_ := (own_wi (i := 7) (by decide) hc98); omega) (own_sub1 A93_ (own_stT (Nat.le_of_succ_le (own_wi (i := 7) (by decide) hc98))).symm) (own_jb (i := 7) hp5_2 hp5_3 (own_wi (i := 7) (by decide) hc98)) (fits_nar_char _) ((own_ch_nar _ _) : nar .char (own_ch v_ 7) = (own_ch v_ 7)) W100
          have pr103 : Pr p e below T100 m 257 (l1_ 7 qa1 qi2 qi3 v_ q_) [] s₁ (entryFrame m #[.ref qa1, .int qi2, .int qi3] 8) := fun t k => pr97 t (by
           show Sx p e below T84 m 237 (l1_ 7 qa1 qi2 qi3 v_ q_) [.int 7, (.int (own_ld v_))] _
           refine zn X84 Bd d2_237 (XT.ii_le_f (hc98 : (7 : Int32) < (own_ld v_))) ?_
           refine zb X84 Bd d2_240 rfl rfl ?_
           refine zi X84 Bd d2_241 rfl ?_
           refine zd X84 Bd d2_243 ?_
           refine XS.isub X84.here hx rfl (hb hby d2_245) rfl ?_
           refine zd X84 Bd d2_246 ?_
           refine XS.lloadN X84.here hx rfl (hb hby d2_248) rfl ?_
           refine X84.ldc2Long hx hown (mvT hZ (w15_ hw)) (g := (mkF m 249 (l1_ 7 qa1 qi2 qi3 v_ q_) [(.long (own_q v_ 7)), .int 48, (.int ((q_ + (own_ld v_)) - (8 : Int32))), .ref qa1])) rfl (hb hby d2_249) _ ?_
           refine XS.lrem X84.here hx rfl (hb hby d2_252) rfl (by decide) ?_
           refine XS.l2i X84.here hx rfl (hb hby d2_253) rfl ?_
           refine XS.iadd X84.here hx rfl (hb hby d2_254) rfl ?_
           refine XS.i2c X84.here hx rfl (hb hby d2_255) rfl ?_
           refine st100 _ ?_
           exact k)
          exact kont96 ⟨T100, _, h100, (X100.mono (lE rfl) (lE rfl)), e100, N100_, ((Keep.refl h84 [qa1]).wr W100 (Or.inl (mI 0 rfl))), (own_sub1 A102_ (own_stT (own_wi (i := 7) (by decide) hc98))), (fun t k => pr103 t k)⟩
         ·
          skip
          have pr104 : Pr p e below T84 m 257 (l1_ 7 qa1 qi2 qi3 v_ q_) [] s₁ (entryFrame m #[.ref qa1, .int qi2, .int qi3] 8) := fun t k => pr97 t (by
           show Sx p e below T84 m 237 (l1_ 7 qa1 qi2 qi3 v_ q_) [.int 7, (.int (own_ld v_))] _
           refine zy (pc' := 257) X84 Bd d2_237 (XT.ii_le_t (hc98 : ¬ ((7 : Int32) < (own_ld v_)))) rfl ?_
           exact k)
          exact kont96 ⟨T84, _, h84, (X84.mono (lE rfl) (lE rfl)), e84, N84, (Keep.refl h84 [qa1]), (own_sub1 A93_ (own_stF (by decide) hc98)), (fun t k => pr104 t k)⟩
        ·
         obtain ⟨T96, L96, h96, X96, e96, N96, K96j, A105_, pr96⟩ := hA96
         have K106 := K94.trans K96j (allS (Or.inl (mI 0 rfl)) all0)
         have pr107 : Pr p e below T96 m 263 (l1_ 8 qa1 qi2 qi3 v_ q_) [] s₁ (entryFrame m #[.ref qa1, .int qi2, .int qi3] 8) := fun t k => pr96 t (by
          show Sx p e below T96 m 257 (l1_ 7 qa1 qi2 qi3 v_ q_) [] _
          refine XS.lloadN X96.here hx rfl (hb hby d2_257) rfl ?_
          refine X96.ldc2Long hx hown (mvT hZ (w15_ hw)) (g := (mkF m 258 (l1_ 7 qa1 qi2 qi3 v_ q_) [(.long (own_q v_ 7))])) rfl (hb hby d2_258) _ ?_
          refine XS.ldiv X96.here hx rfl (hb hby d2_261) rfl (by decide) ?_
          refine XS.lstoreN X96.here hx rfl (hb hby d2_262) rfl (l' := (l1_ 8 qa1 qi2 qi3 v_ q_)) rfl ?_
          exact k)
         refine cps (A := ∃ T108 : State, ∃ L108 : List Loc, ∃ h108 : Heap, Stand p l e (Rm 1 0 0 13) s m #[.ref qa1, .int qi2, .int qi3] below meth c T108 L108 0 0 ∧ T108.heap = h108 ∧ Fr n0 L108 ∧ Keep h96 h108 [qa1] ∧ PA Z h108 qa1 qk4 .char qi5 (own_st v_ B_ 9) ∧ Pr p e below T108 m 287 (l1_ 8 qa1 qi2 qi3 v_ q_) [] s₁ (entryFrame m #[.ref qa1, .int qi2, .int qi3] 8)) (fun kont108 => ?_) (fun hA108 => ?_)
         ·
          skip
          have pr109 : Pr p e below T96 m 267 (l1_ 8 qa1 qi2 qi3 v_ q_) [.int 8, (.int (own_ld v_))] s₁ (entryFrame m #[.ref qa1, .int qi2, .int qi3] 8) := fun t k => pr107 t (by
           show Sx p e below T96 m 263 (l1_ 8 qa1 qi2 qi3 v_ q_) [] _
           refine zi X96 Bd d2_263 rfl ?_
           refine zd X96 Bd d2_265 ?_
           exact k)
          by_cases hc110 : (8 : Int32) < (own_ld v_)
          ·
           skip
           have av111 := A105_
           obtain ⟨cl111, Ar111, q111, S111, N111, H111, Gf111⟩ := av111
           have hin112 := inb_of S111 (own_jin (i := 8) hp5_2 hp5_3 (own_wi (i := 8) (by decide) hc110) hp5_4)
           obtain ⟨T112, h112, X112, e112, W112, st112⟩ := stC X96 hx hZ e96 Ar111 (j := ((q_ + (own_ld v_)) - (9 : Int32))) hin112 (g := (mkF m 286 (l1_ 8 qa1 qi2 qi3 v_ q_) [(.int (own_ch v_ 8)), (.int ((q_ + (own_ld v_)) - (9 : Int32))), .ref qa1])) rfl rfl (hb hby d2_286)
           have N112_ := Fr.snoc X112 N96 g_qa1
           have K113 := K106.wr W112 (Or.inl (mI 0 rfl))
           have A114_ : PA Z h112 qa1 qk4 .char qi5 (B_ ++ List.replicate (own_wn v_ - 9) 0 ++ (own_tl v_ 9)) := own_back2 (own_wn v_ - 9) (own_wn v_ - 8) (by have q_ : 9 ≤ own_wn v_ := (own_wi (i := 8) (by decide) hc110); omega) (own_sub1 A105_ (own_stT (Nat.le_of_succ_le (own_wi (i := 8) (by decide) hc110))).symm) (own_jb (i := 8) hp5_2 hp5_3 (own_wi (i := 8) (by decide) hc110)) (fits_nar_char _) ((own_ch_nar _ _) : nar .char (own_ch v_ 8) = (own_ch v_ 8)) W112
           have pr115 : Pr p e below T112 m 287 (l1_ 8 qa1 qi2 qi3 v_ q_) [] s₁ (entryFrame m #[.ref qa1, .int qi2, .int qi3] 8) := fun t k => pr109 t (by
            show Sx p e below T96 m 267 (l1_ 8 qa1 qi2 qi3 v_ q_) [.int 8, (.int (own_ld v_))] _
            refine zn X96 Bd d2_267 (XT.ii_le_f (hc110 : (8 : Int32) < (own_ld v_))) ?_
            refine zb X96 Bd d2_270 rfl rfl ?_
            refine zi X96 Bd d2_271 rfl ?_
            refine zd X96 Bd d2_273 ?_
            refine XS.isub X96.here hx rfl (hb hby d2_275) rfl ?_
            refine zd X96 Bd d2_276 ?_
            refine XS.lloadN X96.here hx rfl (hb hby d2_278) rfl ?_
            refine X96.ldc2Long hx hown (mvT hZ (w15_ hw)) (g := (mkF m 279 (l1_ 8 qa1 qi2 qi3 v_ q_) [(.long (own_q v_ 8)), .int 48, (.int ((q_ + (own_ld v_)) - (9 : Int32))), .ref qa1])) rfl (hb hby d2_279) _ ?_
            refine XS.lrem X96.here hx rfl (hb hby d2_282) rfl (by decide) ?_
            refine XS.l2i X96.here hx rfl (hb hby d2_283) rfl ?_
            refine XS.iadd X96.here hx rfl (hb hby d2_284) rfl ?_
            refine XS.i2c X96.here hx rfl (hb hby d2_285) rfl ?_
            refine st112 _ ?_
            exact k)
           exact kont108 ⟨T112, _, h112, (X112.mono (lE rfl) (lE rfl)), e112, N112_, ((Keep.refl h96 [qa1]).wr W112 (Or.inl (mI 0 rfl))), (own_sub1 A114_ (own_stT (own_wi (i := 8) (by decide) hc110))), (fun t k => pr115 t k)⟩
          ·
           skip
           have pr116 : Pr p e below T96 m 287 (l1_ 8 qa1 qi2 qi3 v_ q_) [] s₁ (entryFrame m #[.ref qa1, .int qi2, .int qi3] 8) := fun t k => pr109 t (by
            show Sx p e below T96 m 267 (l1_ 8 qa1 qi2 qi3 v_ q_) [.int 8, (.int (own_ld v_))] _
            refine zy (pc' := 287) X96 Bd d2_267 (XT.ii_le_t (hc110 : ¬ ((8 : Int32) < (own_ld v_)))) rfl ?_
            exact k)
           exact kont108 ⟨T96, _, h96, (X96.mono (lE rfl) (lE rfl)), e96, N96, (Keep.refl h96 [qa1]), (own_sub1 A105_ (own_stF (by decide) hc110)), (fun t k => pr116 t k)⟩
         ·
          obtain ⟨T108, L108, h108, X108, e108, N108, K108j, A117_, pr108⟩ := hA108
          have K118 := K106.trans K108j (allS (Or.inl (mI 0 rfl)) all0)
          have pr119 : Pr p e below T108 m 293 (l1_ 9 qa1 qi2 qi3 v_ q_) [] s₁ (entryFrame m #[.ref qa1, .int qi2, .int qi3] 8) := fun t k => pr108 t (by
           show Sx p e below T108 m 287 (l1_ 8 qa1 qi2 qi3 v_ q_) [] _
           refine XS.lloadN X108.here hx rfl (hb hby d2_287) rfl ?_
           refine X108.ldc2Long hx hown (mvT hZ (w15_ hw)) (g := (mkF m 288 (l1_ 8 qa1 qi2 qi3 v_ q_) [(.long (own_q v_ 8))])) rfl (hb hby d2_288) _ ?_
           refine XS.ldiv X108.here hx rfl (hb hby d2_291) rfl (by decide) ?_
           refine XS.lstoreN X108.here hx rfl (hb hby d2_292) rfl (l' := (l1_ 9 qa1 qi2 qi3 v_ q_)) rfl ?_
           exact k)
          refine cps (A := ∃ T120 : State, ∃ L120 : List Loc, ∃ h120 : Heap, Stand p l e (Rm 1 0 0 13) s m #[.ref qa1, .int qi2, .int qi3] below meth c T120 L120 0 0 ∧ T120.heap = h120 ∧ Fr n0 L120 ∧ Keep h108 h120 [qa1] ∧ PA Z h120 qa1 qk4 .char qi5 (own_st v_ B_ 10) ∧ Pr p e below T120 m 317 (l1_ 9 qa1 qi2 qi3 v_ q_) [] s₁ (entryFrame m #[.ref qa1, .int qi2, .int qi3] 8)) (fun kont120 => ?_) (fun hA120 => ?_)
          ·
           skip
           have pr121 : Pr p e below T108 m 297 (l1_ 9 qa1 qi2 qi3 v_ q_) [.int 9, (.int (own_ld v_))] s₁ (entryFrame m #[.ref qa1, .int qi2, .int qi3] 8) := fun t k => pr119 t (by
            show Sx p e below T108 m 293 (l1_ 9 qa1 qi2 qi3 v_ q_) [] _
            refine zi X108 Bd d2_293 rfl ?_
            refine zd X108 Bd d2_295 ?_
            exact k)
           by_cases hc122 : (9 : Int32) < (own_ld v_)
           ·
            skip
            have av123 := A117_
            obtain ⟨cl123, Ar123, q123, S123, N123, H123, Gf123⟩ := av123
            have hin124 := inb_of S123 (own_jin (i := 9) hp5_2 hp5_3 (own_wi (i := 9) (by decide) hc122) hp5_4)
            obtain ⟨T124, h124, X124, e124, W124, st124⟩ := stC X108 hx hZ e108 Ar123 (j := ((q_ + (own_ld v_)) - (10 : Int32))) hin124 (g := (mkF m 316 (l1_ 9 qa1 qi2 qi3 v_ q_) [(.int (own_ch v_ 9)), (.int ((q_ + (own_ld v_)) - (10 : Int32))), .ref qa1])) rfl rfl (hb hby d2_316)
            have N124_ := Fr.snoc X124 N108 g_qa1
            have K125 := K118.wr W124 (Or.inl (mI 0 rfl))
            have A126_ : PA Z h124 qa1 qk4 .char qi5 (B_ ++ List.replicate (own_wn v_ - 10) 0 ++ (own_tl v_ 10)) := own_back2 (own_wn v_ - 10) (own_wn v_ - 9) (by have q_ : 10 ≤ own_wn v_ := (own_wi (i := 9) (by decide) hc122); omega) (own_sub1 A117_ (own_stT (Nat.le_of_succ_le (own_wi (i := 9) (by decide) hc122))).symm) (own_jb (i := 9) hp5_2 hp5_3 (own_wi (i := 9) (by decide) hc122)) (fits_nar_char _) ((own_ch_nar _ _) : nar .char (own_ch v_ 9) = (own_ch v_ 9)) W124
            have pr127 : Pr p e below T124 m 317 (l1_ 9 qa1 qi2 qi3 v_ q_) [] s₁ (entryFrame m #[.ref qa1, .int qi2, .int qi3] 8) := fun t k => pr121 t (by
             show Sx p e below T108 m 297 (l1_ 9 qa1 qi2 qi3 v_ q_) [.int 9, (.int (own_ld v_))] _
             refine zn X108 Bd d2_297 (XT.ii_le_f (hc122 : (9 : Int32) < (own_ld v_))) ?_
             refine zb X108 Bd d2_300 rfl rfl ?_
             refine zi X108 Bd d2_301 rfl ?_
             refine zd X108 Bd d2_303 ?_
             refine XS.isub X108.here hx rfl (hb hby d2_305) rfl ?_
             refine zd X108 Bd d2_306 ?_
             refine XS.lloadN X108.here hx rfl (hb hby d2_308) rfl ?_
             refine X108.ldc2Long hx hown (mvT hZ (w15_ hw)) (g := (mkF m 309 (l1_ 9 qa1 qi2 qi3 v_ q_) [(.long (own_q v_ 9)), .int 48, (.int ((q_ + (own_ld v_)) - (10 : Int32))), .ref qa1])) rfl (hb hby d2_309) _ ?_
             refine XS.lrem X108.here hx rfl (hb hby d2_312) rfl (by decide) ?_
             refine XS.l2i X108.here hx rfl (hb hby d2_313) rfl ?_
             refine XS.iadd X108.here hx rfl (hb hby d2_314) rfl ?_
             refine XS.i2c X108.here hx rfl (hb hby d2_315) rfl ?_
             refine st124 _ ?_
             exact k)
            exact kont120 ⟨T124, _, h124, (X124.mono (lE rfl) (lE rfl)), e124, N124_, ((Keep.refl h108 [qa1]).wr W124 (Or.inl (mI 0 rfl))), (own_sub1 A126_ (own_stT (own_wi (i := 9) (by decide) hc122))), (fun t k => pr127 t k)⟩
           ·
            skip
            have pr128 : Pr p e below T108 m 317 (l1_ 9 qa1 qi2 qi3 v_ q_) [] s₁ (entryFrame m #[.ref qa1, .int qi2, .int qi3] 8) := fun t k => pr121 t (by
             show Sx p e below T108 m 297 (l1_ 9 qa1 qi2 qi3 v_ q_) [.int 9, (.int (own_ld v_))] _
             refine zy (pc' := 317) X108 Bd d2_297 (XT.ii_le_t (hc122 : ¬ ((9 : Int32) < (own_ld v_)))) rfl ?_
             exact k)
            exact kont120 ⟨T108, _, h108, (X108.mono (lE rfl) (lE rfl)), e108, N108, (Keep.refl h108 [qa1]), (own_sub1 A117_ (own_stF (by decide) hc122)), (fun t k => pr128 t k)⟩
          ·
           obtain ⟨T120, L120, h120, X120, e120, N120, K120j, A129_, pr120⟩ := hA120
           have K130 := K118.trans K120j (allS (Or.inl (mI 0 rfl)) all0)
           refine own_lvF X120 Bd (.int (q_ + (own_ld v_))) e120 ⟨(congrArg (fun z => some (Value.int z)) hp5_6), N120, K130, (own_sub1 A129_ ((own_stE hp5_0 hp5_1).trans hp5_5))⟩ rfl (fun fs hr => pr120 _ (by
            show Sx p e below T120 m 317 (l1_ 9 qa1 qi2 qi3 v_ q_) [] _
            refine zi X120 Bd d2_317 rfl ?_
            exact retI X120 hx Bd.returns (hb hby d2_319) hr))
theorem pd2 : parseMethodDescriptor "([CII)I" = some ⟨[(.array .char), .int, .int], some .int⟩ := by decide +kernel
theorem pd3 : parseMethodDescriptor "([C)V" = some ⟨[(.array .char)], none⟩ := by decide +kernel
theorem ef4 (m : MethodId) (x0 : Addr) (x1 : Int32) (x2 : Int32) (x3 : Int32) : entryFrame m #[.ref x0, .int x1, .int x2, .int x3] 4 = mkF m 0 #[.val (.ref x0), .val (.int x1), .val (.int x2), .val (.int x3)] [] := by first | (simp [entryFrame, mkF, argsToLocals, Value.category]; done) | rfl
theorem pn1 : plainName CF_ = true := by first | (simp [plainName, overriddenIn]; done) | decide +kernel
theorem d3_0 : D C8_ 0 (.aload_n 0) 1 := by decide +kernel
theorem d3_1 : D C8_ 1 (.invokespecial 1) 3 := by decide +kernel
theorem d3_4 : D C8_ 4 (.aload_n 0) 1 := by decide +kernel
theorem d3_5 : D C8_ 5 (.iload_n 1) 1 := by decide +kernel
theorem d3_6 : D C8_ 6 (.putfield 7) 3 := by decide +kernel
theorem d3_9 : D C8_ 9 (.aload_n 0) 1 := by decide +kernel
theorem d3_10 : D C8_ 10 (.iload_n 2) 1 := by decide +kernel
theorem d3_11 : D C8_ 11 (.putfield 13) 3 := by decide +kernel
theorem d3_14 : D C8_ 14 (.aload_n 0) 1 := by decide +kernel
theorem d3_15 : D C8_ 15 (.iload_n 3) 1 := by decide +kernel
theorem d3_16 : D C8_ 16 (.putfield 16) 3 := by decide +kernel
theorem d3_19 : D C8_ 19 .return_ 1 := by decide +kernel
-- com/example/foreground_courier/foregroundcourier/CacheStats.<init>(III)V
def Q4 (Z : State) (qa1 : Addr) (qi2 : Int32) (qi3 : Int32) (qi4 : Int32) (h0 : Heap) (n0 : Nat) : QT := fun v h L => v = none ∧ Fr n0 L ∧ Keep h0 h [qa1] ∧ Exa Z h qa1 CF_ ∧ Fld Z h qa1 CF_ "requestCount" "I" (.int qi2) ∧ Fld Z h qa1 CF_ "networkCount" "I" (.int qi3) ∧ Fld Z h qa1 CF_ "hitCount" "I" (.int qi4)
theorem rm4 (hw : HW a0 Z) (qa1 : Addr) (qi2 : Int32) (qi3 : Int32) (qi4 : Int32) (h0 : Heap) (n0 : Nat) (X00 : Old Z n0 h0) (E_qa1 : Exa Z h0 qa1 CF_) (F_qa1_requestCount : Fld Z h0 qa1 CF_ "requestCount" "I" (.int 0)) (g_qa1 : n0 ≤ qa1) (F_qa1_networkCount : Fld Z h0 qa1 CF_ "networkCount" "I" (.int 0)) (F_qa1_hitCount : Fld Z h0 qa1 CF_ "hitCount" "I" (.int 0)) :
    MF l Z Y3_ prog_1_method_1_code 4 none (Rm 1 0 0 12) #[.ref qa1, .int qi2, .int qi3, .int qi4] h0 (Q4 Z qa1 qi2 qi3 qi4 h0 n0) := by
 refine own_sF pn1 rfl (fun m => ef4 m qa1 qi2 qi3 qi4) ?_
 intro p e s m below meth c s₁ Bd hZ hh hx hby hml hown hnm X0 e0 pre0
 have N0 := Fr.nil n0
 obtain ⟨T1, X1, e1, st1⟩ := initO X0 hx hZ hown (w55_ hw) (w31_ hw) (w32_ hw) e0 (g := (mkF m 1 #[rv qa1, iv qi2, iv qi3, iv qi4] [.ref qa1])) rfl hml.symm rfl (hb hby d3_1) (by decide) (W := 0) (own_hw rfl) (lE rfl)
 obtain ⟨T2, h2, X2, e2, W2, st2⟩ := putF X1 hx hZ hown (host := "") (Or.inl (w56_ hw)) Via.refl e1 F_qa1_requestCount E_qa1 (Or.inr ⟨(w57_ hw), rfl, hnm⟩) (w50_ hw) (ty := .int) (by decide) rfl rfl (g := (mkF m 6 #[rv qa1, iv qi2, iv qi3, iv qi4] [.int qi2, .ref qa1])) rfl rfl (hb hby d3_6)
 have N2 := Fr.snoc X2 N0 g_qa1
 have K3 := (Keep.refl h0 [qa1]).wr W2 (Or.inl (mI 0 rfl))
 have F4_ : Fld Z h2 qa1 CF_ "requestCount" "I" (.int qi2) := F_qa1_requestCount.same W2
 have F5_ := F_qa1_networkCount.other W2 (Or.inr (slot_ne (Or.inr (w59_ hw)) (Or.inr (w57_ hw)) (by decide) (t := .int) (t' := .int) (by decide) (by decide)))
 have E6_ := E_qa1.wr W2
 obtain ⟨T7, h7, X7, e7, W7, st7⟩ := putF X2 hx hZ hown (host := "") (Or.inl (w58_ hw)) Via.refl e2 F5_ E6_ (Or.inr ⟨(w59_ hw), rfl, hnm⟩) (w50_ hw) (ty := .int) (by decide) rfl rfl (g := (mkF m 11 #[rv qa1, iv qi2, iv qi3, iv qi4] [.int qi3, .ref qa1])) rfl rfl (hb hby d3_11)
 have N7 := Fr.snoc X7 N2 g_qa1
 have K8 := K3.wr W7 (Or.inl (mI 0 rfl))
 have F9_ : Fld Z h7 qa1 CF_ "networkCount" "I" (.int qi3) := F5_.same W7
 have F10_ := F_qa1_hitCount.other W2 (Or.inr (slot_ne (Or.inr (w61_ hw)) (Or.inr (w57_ hw)) (by decide) (t := .int) (t' := .int) (by decide) (by decide)))
 have F11_ := F10_.other W7 (Or.inr (slot_ne (Or.inr (w61_ hw)) (Or.inr (w59_ hw)) (by decide) (t := .int) (t' := .int) (by decide) (by decide)))
 have E12_ := E6_.wr W7
 obtain ⟨T13, h13, X13, e13, W13, st13⟩ := putF X7 hx hZ hown (host := "") (Or.inl (w60_ hw)) Via.refl e7 F11_ E12_ (Or.inr ⟨(w61_ hw), rfl, hnm⟩) (w50_ hw) (ty := .int) (by decide) rfl rfl (g := (mkF m 16 #[rv qa1, iv qi2, iv qi3, iv qi4] [.int qi4, .ref qa1])) rfl rfl (hb hby d3_16)
 have N13 := Fr.snoc X13 N7 g_qa1
 have K14 := K8.wr W13 (Or.inl (mI 0 rfl))
 have F15_ : Fld Z h13 qa1 CF_ "hitCount" "I" (.int qi4) := F11_.same W13
 have E16_ := E12_.wr W13
 have F17_ := F4_.other W7 (Or.inr (slot_ne (Or.inr (w57_ hw)) (Or.inr (w59_ hw)) (by decide) (t := .int) (t' := .int) (by decide) (by decide)))
 have F18_ := F17_.other W13 (Or.inr (slot_ne (Or.inr (w57_ hw)) (Or.inr (w61_ hw)) (by decide) (t := .int) (t' := .int) (by decide) (by decide)))
 have F19_ := F9_.other W13 (Or.inr (slot_ne (Or.inr (w59_ hw)) (Or.inr (w61_ hw)) (by decide) (t := .int) (t' := .int) (by decide) (by decide)))
 refine own_lvN X13 Bd e13 ⟨rfl, N13, K14, E16_, F18_, F19_, F15_⟩ rfl (fun fs hr => pre0 _ (by
  show Sx p e below s₁ m 0 #[rv qa1, iv qi2, iv qi3, iv qi4] [] _
  refine zb X0 Bd d3_0 rfl rfl ?_
  refine st1 _ ?_
  refine zb X1 Bd d3_4 rfl rfl ?_
  refine zj X1 Bd d3_5 rfl ?_
  refine st2 _ ?_
  refine zb X2 Bd d3_9 rfl rfl ?_
  refine zj X2 Bd d3_10 rfl ?_
  refine st7 _ ?_
  refine zb X7 Bd d3_14 rfl rfl ?_
  refine zj X7 Bd d3_15 rfl ?_
  refine st13 _ ?_
  exact X13.returnOut hx Bd.returns (hb hby d3_19) hr))
theorem pd4 : parseMethodDescriptor "(III)V" = some ⟨[.int, .int, .int], none⟩ := by decide +kernel
theorem ef5 (m : MethodId) (x0 : Addr) : entryFrame m #[.ref x0] 1 = mkF m 0 #[.val (.ref x0)] [] := by first | (simp [entryFrame, mkF, argsToLocals, Value.category]; done) | rfl
theorem d4_0 : D C3_ 0 (.new 19) 3 := by decide +kernel
theorem d4_3 : D C3_ 3 .dup 1 := by decide +kernel
theorem d4_4 : D C3_ 4 (.invokespecial 21) 3 := by decide +kernel
theorem pn2 : plainName SB_ = true := by first | (simp [plainName, overriddenIn]; done) | decide +kernel
theorem d5_0 : D C7_ 0 (.aload_n 0) 1 := by decide +kernel
theorem d5_1 : D C7_ 1 (.bipush 16) 2 := by decide +kernel
theorem d5_3 : D C7_ 3 (.invokespecial 1) 3 := by decide +kernel
theorem ef6 (m : MethodId) (x0 : Addr) (x1 : Int32) : entryFrame m #[.ref x0, .int x1] 2 = mkF m 0 #[.val (.ref x0), .val (.int x1)] [] := by first | (simp [entryFrame, mkF, argsToLocals, Value.category]; done) | rfl
theorem pn3 : plainName AB_ = true := by first | (simp [plainName, overriddenIn]; done) | decide +kernel
theorem d6_0 : D C6_ 0 (.aload_n 0) 1 := by decide +kernel
theorem d6_1 : D C6_ 1 (.invokespecial 3) 3 := by decide +kernel
theorem d6_4 : D C6_ 4 (.getstatic 18) 3 := by decide +kernel
theorem d6_7 : D C6_ 7 (.ifCond .eq 18) 3 := by decide +kernel
theorem d6_10 : D C6_ 10 (.aload_n 0) 1 := by decide +kernel
theorem d6_11 : D C6_ 11 (.iload_n 1) 1 := by decide +kernel
theorem d6_12 : D C6_ 12 (.newarray .byte) 2 := by decide +kernel
theorem d6_14 : D C6_ 14 (.putfield 15) 3 := by decide +kernel
theorem d6_17 : D C6_ 17 (.aload_n 0) 1 := by decide +kernel
theorem d6_18 : D C6_ 18 (.iconst 0) 1 := by decide +kernel
theorem d6_19 : D C6_ 19 (.putfield 22) 3 := by decide +kernel
theorem d6_22 : D C6_ 22 (.goto 16) 3 := by decide +kernel
theorem d6_38 : D C6_ 38 .return_ 1 := by decide +kernel
-- java/lang/AbstractStringBuilder.<init>(I)V
def Q5 (Z : State) (qa1 : Addr) (h0 : Heap) (n0 : Nat) : QT := fun v h L => ∃ b3 : Addr, ∃ c3 : ClassId, v = none ∧ Fr n0 L ∧ Keep h0 h [qa1] ∧ h0.size ≤ b3 ∧ Exa Z h qa1 SB_ ∧ VA Z h qa1 b3 ∧ VC Z h qa1 ∧ VN Z h qa1 0 ∧ Exa Z h b3 "[B" ∧ PA Z h b3 c3 .byte (16 : Int32) ([] : List Int32)
theorem rm5 (hw : HW a0 Z) (G1 : Int32) (qa1 : Addr) (h0 : Heap) (n0 : Nat) (X00 : Old Z n0 h0) (O2 : CO Z G1) (P5 : NZ G1) (E_qa1 : Exa Z h0 qa1 SB_) (F_qa1_value : Fld Z h0 qa1 AB_ "value" "[B" .null) (g_qa1 : n0 ≤ qa1) (F_qa1_coder : VC Z h0 qa1) (F_qa1_count : VN Z h0 qa1 0) :
    MF l Z Y4_ jdk_68_method_2_code 2 none (Rm 1 1 16 12) #[.ref qa1, .int 16] h0 (Q5 Z qa1 h0 n0) := by
 refine own_sF pn3 rfl (fun m => ef6 m qa1 (16 : Int32)) ?_
 intro p e s m below meth c s₁ Bd hZ hh hx hby hml hown hnm X0 e0 pre0
 have N0 := Fr.nil n0
 obtain ⟨T1, X1, e1, st1⟩ := initO X0 hx hZ hown (w79_ hw) (w31_ hw) (w32_ hw) e0 (g := (mkF m 1 #[rv qa1, iv 16] [.ref qa1])) rfl hml.symm rfl (hb hby d6_1) (by decide) (W := 0) (own_hw rfl) (lE rfl)
 obtain ⟨T2, X2, e2, st2⟩ := getS2 X1 hx hZ hown (host := "") (Or.inl (w80_ hw)) Via.refl e1 (O2.ext X00.2) (g := (mkF m 4 #[rv qa1, iv 16] [])) rfl (hb hby d6_4)
 obtain ⟨T3, h3, c3, X3, e3, E3, A3, Ex3, st3⟩ := own_newPE X2 hx hZ (w38_ hw) e2 (g := (mkF m 12 #[rv qa1, iv 16] [.int 16, .ref qa1])) rfl (hb hby d6_12) rfl (by decide) (cap := 16) (by decide) (lE rfl) (lE rfl) (lE rfl)
 obtain ⟨b3, g3⟩ : ∃ z, z = h0.size := ⟨_, rfl⟩
 rw [← g3] at A3 st3 Ex3
 replace X3 : Stand p l e (Rm 1 1 16 12) s m #[.ref qa1, .int 16] below meth c T3 _ 1 16 := X3
 have K4 := (Keep.refl h0 [qa1]).ext E3
 have A5_ : PA Z h3 b3 c3 .byte (16 : Int32) ([] : List Int32) := Arv.new A3 (by decide)
 have F6_ := F_qa1_value.ext E3
 have E7_ := E_qa1.ext E3
 obtain ⟨T8, h8, X8, e8, W8, st8⟩ := putF X3 hx hZ hown (host := "") (Or.inl (w81_ hw)) Via.refl e3 F6_ E7_ (Or.inl (w82_ hw)) (w68_ hw) (ty := (.array .byte)) (by decide) rfl rfl (g := (mkF m 14 #[rv qa1, iv 16] [.ref b3, .ref qa1])) rfl rfl (hb hby d6_14)
 have N8 := Fr.snoc X8 N0 g_qa1
 have K9 := K4.wr W8 (Or.inl (mI 0 rfl))
 have F10_ : VA Z h8 qa1 b3 := F6_.same W8
 have F11_ := F_qa1_coder.ext E3
 have F12_ := F11_.other W8 (Or.inr (slot_ne (Or.inl (w84_ hw)) (Or.inl (w82_ hw)) (by decide) (t := .byte) (t' := (.array .byte)) (by decide) (by decide)))
 have E13_ := E7_.wr W8
 obtain ⟨T14, h14, X14, e14, W14, st14⟩ := putF X8 hx hZ hown (host := "") (Or.inl (w83_ hw)) Via.refl e8 F12_ E13_ (Or.inl (w84_ hw)) (w68_ hw) (ty := .byte) (by decide) rfl rfl (g := (mkF m 19 #[rv qa1, iv 16] [.int 0, .ref qa1])) rfl rfl (hb hby d6_19)
 have N14 := Fr.snoc X14 N8 g_qa1
 have K15 := K9.wr W14 (Or.inl (mI 0 rfl))
 have F16_ : VC Z h14 qa1 := F12_.same W14
 have sz_b3 : h0.size ≤ b3 := (Nat.le_of_eq g3.symm)
 have E17_ := E13_.wr W14
 have F18_ := F10_.other W14 (Or.inr (slot_ne (Or.inl (w82_ hw)) (Or.inl (w84_ hw)) (by decide) (t := (.array .byte)) (t' := .byte) (by decide) (by decide)))
 have F19_ := F_qa1_count.ext E3
 have F20_ := F19_.other W8 (Or.inr (slot_ne (Or.inl (w109_ hw)) (Or.inl (w82_ hw)) (by decide) (t := .int) (t' := (.array .byte)) (by decide) (by decide)))
 have F21_ := F20_.other W14 (Or.inr (slot_ne (Or.inl (w109_ hw)) (Or.inl (w84_ hw)) (by decide) (t := .int) (t' := .byte) (by decide) (by decide)))
 have E22_ := Ex3.wr W8
 have E23_ := E22_.wr W14
 have nx24 : qa1 ≠ b3 := (Nat.ne_of_lt (Nat.lt_of_lt_of_le E_qa1.lt (Nat.le_of_eq g3.symm)))
 have A25_ := A5_.other W8 (Ne.symm nx24)
 have A26_ := A25_.other W14 (Ne.symm nx24)
 refine own_lvN X14 Bd e14 ⟨b3, c3, rfl, N14, K15, sz_b3, E17_, F18_, F16_, F21_, E23_, A26_⟩ rfl (fun fs hr => pre0 _ (by
  show Sx p e below s₁ m 0 #[rv qa1, iv 16] [] _
  refine zb X0 Bd d6_0 rfl rfl ?_
  refine st1 _ ?_
  refine st2 _ ?_
  refine zo X2 Bd d6_7 (XT.i0_eq_f (P5 : ¬ (G1 = (0 : Int32)))) ?_
  refine zb X2 Bd d6_10 rfl rfl ?_
  refine zj X2 Bd d6_11 rfl ?_
  refine st3 _ ?_
  refine st8 _ ?_
  refine zb X8 Bd d6_17 rfl rfl ?_
  refine zc X8 Bd d6_18 ?_
  refine st14 _ ?_
  refine zg (pc' := 38) X14 Bd d6_22 rfl ?_
  exact X14.returnOut hx Bd.returns (hb hby d6_38) hr))
theorem pd5 : parseMethodDescriptor "(I)V" = some ⟨[.int], none⟩ := by decide +kernel
theorem d5_6 : D C7_ 6 .return_ 1 := by decide +kernel
-- java/lang/StringBuilder.<init>()V
def Q6 (Z : State) (qa1 : Addr) (h0 : Heap) (n0 : Nat) : QT := fun v h L => ∃ b2 : Addr, ∃ c3_ : ClassId, v = none ∧ Fr n0 L ∧ Keep h0 h [qa1] ∧ h0.size ≤ b2 ∧ Exa Z h qa1 SB_ ∧ VA Z h qa1 b2 ∧ VC Z h qa1 ∧ VN Z h qa1 0 ∧ Exa Z h b2 "[B" ∧ PA Z h b2 c3_ .byte (16 : Int32) ([] : List Int32)
theorem rm6 (hw : HW a0 Z) (G1 : Int32) (qa1 : Addr) (h0 : Heap) (n0 : Nat) (X00 : Old Z n0 h0) (O2 : CO Z G1) (P5 : NZ G1) (E_qa1 : Exa Z h0 qa1 SB_) (F_qa1_value : Fld Z h0 qa1 AB_ "value" "[B" .null) (g_qa1 : n0 ≤ qa1) (F_qa1_coder : VC Z h0 qa1) (F_qa1_count : VN Z h0 qa1 0) :
    MF l Z Y5_ jdk_67_method_1_code 1 none (Rm 2 1 16 25) #[.ref qa1] h0 (Q6 Z qa1 h0 n0) := by
 refine own_sF pn2 rfl (fun m => ef5 m qa1) ?_
 intro p e s m below meth c s₁ Bd hZ hh hx hby hml hown hnm X0 e0 pre0
 have N0 := Fr.nil n0
 obtain ⟨_, T1, L1, X1, hQ1, st1⟩ := own_cI 1 16 [] 3 #[rv qa1] X0 hx hZ hown (w73_ hw) (w74_ hw) (w77_ hw) (w78_ hw) (rm5 l Z a0 hw G1 qa1 h0 n0 X00 O2 P5 E_qa1 F_qa1_value g_qa1 F_qa1_coder F_qa1_count) pd5 hml.symm (hb hby d5_3) e0 rfl rfl rfl rfl rfl (by decide)
 obtain ⟨b2, c3_, rfl, N1q, K1q, w4, w5, w6, w7, w8, w9, w10⟩ := hQ1
 have N1 := Fr.app N0 N1q
 have K11 := (Keep.refl h0 [qa1]).trans K1q (allS (Or.inl (mI 0 rfl)) all0)
 have sz_b2 : h0.size ≤ b2 := w4
 have E12_ := E_qa1.keep K1q
 refine own_lvN X1 Bd rfl ⟨b2, c3_, rfl, N1, K11, sz_b2, E12_, w6, w7, w8, w9, w10⟩ rfl (fun fs hr => pre0 _ (by
  show Sx p e below s₁ m 0 #[rv qa1] [] _
  refine zb X0 Bd d5_0 rfl rfl ?_
  refine zd X0 Bd d5_1 ?_
  refine st1 _ ?_
  exact X1.returnOut hx Bd.returns (hb hby d5_6) hr))
theorem pd6 : parseMethodDescriptor "()V" = some ⟨[], none⟩ := by decide +kernel
theorem d4_7 : D C3_ 7 (.ldc 22) 2 := by decide +kernel
theorem d4_9 : D C3_ 9 (.invokevirtual 24) 3 := by decide +kernel
theorem ef7 (m : MethodId) (x0 : Addr) (x1 : Addr) : entryFrame m #[.ref x0, .ref x1] 2 = mkF m 0 #[.val (.ref x0), .val (.ref x1)] [] := by first | (simp [entryFrame, mkF, argsToLocals, Value.category]; done) | rfl
theorem d7_0 : D C5_ 0 (.aload_n 0) 1 := by decide +kernel
theorem d7_1 : D C5_ 1 (.aload_n 1) 1 := by decide +kernel
theorem d7_2 : D C5_ 2 (.invokespecial 29) 3 := by decide +kernel
theorem ef8 (m : MethodId) (x0 : Addr) (x1 : Addr) : entryFrame m #[.ref x0, .ref x1] 3 = mkF m 0 #[.val (.ref x0), .val (.ref x1), .unset] [] := by first | (simp [entryFrame, mkF, argsToLocals, Value.category]; done) | rfl
theorem d8_0 : D C16_ 0 (.aload_n 1) 1 := by decide +kernel
theorem d8_1 : D C16_ 1 (.ifnonnull 8) 3 := by decide +kernel
theorem d8_9 : D C16_ 9 (.aload_n 1) 1 := by decide +kernel
theorem d8_10 : D C16_ 10 (.invokevirtual 32) 3 := by decide +kernel
theorem pd7 : parseMethodDescriptor "()I" = some ⟨[], some .int⟩ := by decide +kernel
theorem d8_13 : D C16_ 13 (.istore_n 2) 1 := by decide +kernel
theorem d8_14 : D C16_ 14 (.aload_n 0) 1 := by decide +kernel
theorem d8_15 : D C16_ 15 (.aload_n 0) 1 := by decide +kernel
theorem d8_16 : D C16_ 16 (.getfield 79) 3 := by decide +kernel
theorem d8_19 : D C16_ 19 (.iload_n 2) 1 := by decide +kernel
theorem d8_20 : D C16_ 20 .iadd 1 := by decide +kernel
theorem d8_21 : D C16_ 21 (.invokevirtual 100) 3 := by decide +kernel
theorem ef9 (m : MethodId) (x0 : Addr) (x1 : Int32) : entryFrame m #[.ref x0, .int x1] 3 = mkF m 0 #[.val (.ref x0), .val (.int x1), .unset] [] := by first | (simp [entryFrame, mkF, argsToLocals, Value.category]; done) | rfl
theorem d9_0 : D C9_ 0 (.aload_n 0) 1 := by decide +kernel
theorem d9_1 : D C9_ 1 (.getfield 15) 3 := by decide +kernel
theorem d9_4 : D C9_ 4 .arraylength 1 := by decide +kernel
theorem d9_5 : D C9_ 5 (.aload_n 0) 1 := by decide +kernel
theorem d9_6 : D C9_ 6 (.getfield 22) 3 := by decide +kernel
theorem d9_9 : D C9_ 9 .ishr 1 := by decide +kernel
theorem d9_10 : D C9_ 10 (.istore_n 2) 1 := by decide +kernel
theorem d9_11 : D C9_ 11 (.iload_n 1) 1 := by decide +kernel
theorem d9_12 : D C9_ 12 (.iload_n 2) 1 := by decide +kernel
theorem d9_13 : D C9_ 13 .isub 1 := by decide +kernel
theorem d9_14 : D C9_ 14 (.ifCond .le 24) 3 := by decide +kernel
theorem d9_17 : D C9_ 17 (.aload_n 0) 1 := by decide +kernel
theorem d9_18 : D C9_ 18 (.aload_n 0) 1 := by decide +kernel
theorem d9_19 : D C9_ 19 (.getfield 15) 3 := by decide +kernel
theorem d9_22 : D C9_ 22 (.aload_n 0) 1 := by decide +kernel
theorem d9_23 : D C9_ 23 (.iload_n 1) 1 := by decide +kernel
theorem d9_24 : D C9_ 24 (.invokevirtual 104) 3 := by decide +kernel
theorem ef10 (m : MethodId) (x0 : Addr) (x1 : Int32) : entryFrame m #[.ref x0, .int x1] 6 = mkF m 0 #[.val (.ref x0), .val (.int x1), .unset, .unset, .unset, .unset] [] := by first | (simp [entryFrame, mkF, argsToLocals, Value.category]; done) | rfl
theorem d10_0 : D C14_ 0 (.aload_n 0) 1 := by decide +kernel
theorem d10_1 : D C14_ 1 (.getfield 15) 3 := by decide +kernel
theorem d10_4 : D C14_ 4 .arraylength 1 := by decide +kernel
theorem d10_5 : D C14_ 5 (.istore_n 2) 1 := by decide +kernel
theorem d10_6 : D C14_ 6 (.iload_n 1) 1 := by decide +kernel
theorem d10_7 : D C14_ 7 (.aload_n 0) 1 := by decide +kernel
theorem d10_8 : D C14_ 8 (.getfield 22) 3 := by decide +kernel
theorem d10_11 : D C14_ 11 .ishl 1 := by decide +kernel
theorem d10_12 : D C14_ 12 (.istore_n 3) 1 := by decide +kernel
theorem d10_13 : D C14_ 13 (.iload_n 3) 1 := by decide +kernel
theorem d10_14 : D C14_ 14 (.iload_n 2) 1 := by decide +kernel
theorem d10_15 : D C14_ 15 .isub 1 := by decide +kernel
theorem d10_16 : D C14_ 16 (.istore 4) 2 := by decide +kernel
theorem d10_18 : D C14_ 18 (.iload_n 2) 1 := by decide +kernel
theorem d10_19 : D C14_ 19 (.iload 4) 2 := by decide +kernel
theorem d10_21 : D C14_ 21 (.iload_n 2) 1 := by decide +kernel
theorem d10_22 : D C14_ 22 (.iconst 2) 1 := by decide +kernel
theorem d10_23 : D C14_ 23 (.aload_n 0) 1 := by decide +kernel
theorem d10_24 : D C14_ 24 (.getfield 22) 3 := by decide +kernel
theorem d10_27 : D C14_ 27 .ishl 1 := by decide +kernel
theorem d10_28 : D C14_ 28 .iadd 1 := by decide +kernel
theorem d10_29 : D C14_ 29 (.invokestatic 114) 3 := by decide +kernel
theorem ef11 (m : MethodId) (x0 : Int32) (x1 : Int32) (x2 : Int32) : entryFrame m #[.int x0, .int x1, .int x2] 4 = mkF m 0 #[.val (.int x0), .val (.int x1), .val (.int x2), .unset] [] := by first | (simp [entryFrame, mkF, argsToLocals, Value.category]; done) | rfl
theorem pn4 : plainName "jdk/internal/util/ArraysSupport" = true := by first | (simp [plainName, overriddenIn]; done) | decide +kernel
theorem d11_0 : D C10_ 0 (.iload_n 0) 1 := by decide +kernel
theorem d11_1 : D C10_ 1 (.iload_n 1) 1 := by decide +kernel
theorem d11_2 : D C10_ 2 (.iload_n 2) 1 := by decide +kernel
theorem d11_3 : D C10_ 3 (.invokestatic 194) 3 := by decide +kernel
theorem ef12 (m : MethodId) (x0 : Int32) (x1 : Int32) : entryFrame m #[.int x0, .int x1] 2 = mkF m 0 #[.val (.int x0), .val (.int x1)] [] := by first | (simp [entryFrame, mkF, argsToLocals, Value.category]; done) | rfl
theorem d12_0 : D C20_ 0 (.iload_n 0) 1 := by decide +kernel
theorem d12_1 : D C20_ 1 (.iload_n 1) 1 := by decide +kernel
theorem d12_2 : D C20_ 2 (.if_icmp .lt 7) 3 := by decide +kernel
theorem d12_9 : D C20_ 9 (.iload_n 1) 1 := by decide +kernel
theorem d12_10 : D C20_ 10 .ireturn 1 := by decide +kernel
-- java/lang/Math.max(II)I
def Q7 (Z : State)  (h0 : Heap) (n0 : Nat) : QT := fun v h L => v = some (.int 18) ∧ Fr n0 L ∧ h = h0
theorem rm7 (hw : HW a0 Z)  (h0 : Heap) (n0 : Nat) (X00 : Old Z n0 h0)  :
    MF l Z Y6_ jdk_29_method_65_code 2 (some .int) (Rm 0 0 0 0) #[.int 4, .int 18] h0 (Q7 Z  h0 n0) := by
 refine own_sFm (K := "java/lang/Math") (by decide +kernel) rfl (fun m => ef12 m (4 : Int32) (18 : Int32)) ?_
 intro p e s m below meth c s₁ Bd hZ hh hx hby hml hown hnm X0 e0 pre0
 have N0 := Fr.nil n0
 refine own_lvF X0 Bd (.int 18) e0 ⟨rfl, N0, rfl⟩ rfl (fun fs hr => pre0 _ (by
  show Sx p e below s₁ m 0 #[iv 4, iv 18] [] _
  refine zj X0 Bd d12_0 rfl ?_
  refine zj X0 Bd d12_1 rfl ?_
  refine zy (pc' := 9) X0 Bd d12_2 (XT.ii_lt_t ((by decide) : (4 : Int32) < (18 : Int32))) rfl ?_
  refine zj X0 Bd d12_9 rfl ?_
  exact retI X0 hx Bd.returns (hb hby d12_10) hr))
theorem pd8 : parseMethodDescriptor "(II)I" = some ⟨[.int, .int], some .int⟩ := by decide +kernel
theorem d11_6 : D C10_ 6 .iadd 1 := by decide +kernel
theorem d11_7 : D C10_ 7 (.istore_n 3) 1 := by decide +kernel
theorem d11_8 : D C10_ 8 (.iconst 0) 1 := by decide +kernel
theorem d11_9 : D C10_ 9 (.iload_n 3) 1 := by decide +kernel
theorem d11_10 : D C10_ 10 (.if_icmp .ge 11) 3 := by decide +kernel
theorem d11_13 : D C10_ 13 (.iload_n 3) 1 := by decide +kernel
theorem d11_14 : D C10_ 14 (.ldc 200) 2 := by decide +kernel
theorem d11_16 : D C10_ 16 (.if_icmp .gt 5) 3 := by decide +kernel
theorem d11_19 : D C10_ 19 (.iload_n 3) 1 := by decide +kernel
theorem d11_20 : D C10_ 20 .ireturn 1 := by decide +kernel
-- jdk/internal/util/ArraysSupport.newLength(III)I
def Q8 (Z : State)  (h0 : Heap) (n0 : Nat) : QT := fun v h L => v = some (.int 34) ∧ Fr n0 L ∧ h = h0
theorem rm8 (hw : HW a0 Z)  (h0 : Heap) (n0 : Nat) (X00 : Old Z n0 h0)  :
    MF l Z Y7_ jdk_48_method_27_code 4 (some .int) (Rm 1 0 0 14) #[.int 16, .int 4, .int 18] h0 (Q8 Z  h0 n0) := by
 refine own_sF pn4 rfl (fun m => ef11 m (16 : Int32) (4 : Int32) (18 : Int32)) ?_
 intro p e s m below meth c s₁ Bd hZ hh hx hby hml hown hnm X0 e0 pre0
 have N0 := Fr.nil n0
 obtain ⟨_, T1, L1, X1, hQ1, st1⟩ := own_cS 0 0 [.int 16] 3 #[iv 16, iv 4, iv 18, .unset] X0 hx hZ hown (w124_ hw) (w125_ hw) (w126_ hw) (w127_ hw) (rm7 l Z a0 hw   h0 n0 X00 ) pd8 hml.symm (hb hby d11_3) e0 rfl rfl rfl rfl (by decide)
 obtain ⟨rfl, N1q, e1q⟩ := hQ1
 have N1 := Fr.app N0 N1q
 refine own_lvF X1 Bd (.int 34) e1q ⟨rfl, N1, rfl⟩ rfl (fun fs hr => pre0 _ (by
  show Sx p e below s₁ m 0 #[iv 16, iv 4, iv 18, .unset] [] _
  refine zj X0 Bd d11_0 rfl ?_
  refine zj X0 Bd d11_1 rfl ?_
  refine zj X0 Bd d11_2 rfl ?_
  refine st1 _ ?_
  refine XS.iadd X1.here hx rfl (hb hby d11_6) rfl ?_
  refine zt X1 Bd d11_7 (l' := #[iv 16, iv 4, iv 18, iv 34]) rfl ?_
  refine zc X1 Bd d11_8 ?_
  refine zj X1 Bd d11_9 rfl ?_
  refine zn X1 Bd d11_10 (XT.ii_ge_f ((by decide) : (0 : Int32) < (34 : Int32))) ?_
  refine zj X1 Bd d11_13 rfl ?_
  refine X1.ldcInt hx hown (mvT hZ (w128_ hw)) (g := (mkF m 14 #[iv 16, iv 4, iv 18, iv 34] [.int 34])) rfl (hb hby d11_14) _ ?_
  refine zn X1 Bd d11_16 (XT.ii_gt_f ((by decide) : ¬ ((2147483639 : Int32) < (34 : Int32)))) ?_
  refine zj X1 Bd d11_19 rfl ?_
  exact retI X1 hx Bd.returns (hb hby d11_20) hr))
theorem pd9 : parseMethodDescriptor "(III)I" = some ⟨[.int, .int, .int], some .int⟩ := by decide +kernel
theorem d10_32 : D C14_ 32 (.istore 5) 2 := by decide +kernel
theorem d10_34 : D C14_ 34 (.iload 5) 2 := by decide +kernel
theorem d10_36 : D C14_ 36 (.ldc 39) 2 := by decide +kernel
theorem d10_38 : D C14_ 38 (.if_icmp .ne 13) 3 := by decide +kernel
theorem d10_51 : D C14_ 51 (.iload 5) 2 := by decide +kernel
theorem d10_53 : D C14_ 53 (.aload_n 0) 1 := by decide +kernel
theorem d10_54 : D C14_ 54 (.getfield 22) 3 := by decide +kernel
theorem d10_57 : D C14_ 57 .ishr 1 := by decide +kernel
theorem d10_58 : D C14_ 58 .ireturn 1 := by decide +kernel
-- java/lang/AbstractStringBuilder.newCapacity(I)I
def Q9 (Z : State)  (h0 : Heap) (n0 : Nat) : QT := fun v h L => v = some (.int 34) ∧ Fr n0 L ∧ h = h0
theorem rm9 (hw : HW a0 Z) (qa1 : Addr) (qa2 : Addr) (qk3 : ClassId) (qc4 : List Int32) (h0 : Heap) (n0 : Nat) (X00 : Old Z n0 h0) (F_qa1_value : VA Z h0 qa1 qa2) (A_qa2 : PA Z h0 qa2 qk3 .byte (16 : Int32) qc4) (F_qa1_coder : VC Z h0 qa1) :
    MF l Z Y8_ jdk_68_method_10_code 6 (some .int) (Rm 2 0 0 29) #[.ref qa1, .int 20] h0 (Q9 Z  h0 n0) := by
 refine own_sF pn3 rfl (fun m => ef10 m qa1 (20 : Int32)) ?_
 intro p e s m below meth c s₁ Bd hZ hh hx hby hml hown hnm X0 e0 pre0
 have N0 := Fr.nil n0
 obtain ⟨T1, X1, e1, st1⟩ := own_gF 1 #[rv qa1, iv 20, .unset, .unset, .unset, .unset] [] X0 hx hZ hown (w81_ hw) Via.refl e0 F_qa1_value (hb hby d10_1)
 have av2 := A_qa2
 obtain ⟨cl2, Ar2, q2, S2, N2, H2, Gf2⟩ := av2
 obtain ⟨T3, X3, e3, st3⟩ := own_gF 8 #[rv qa1, iv 20, iv 16, .unset, .unset, .unset] [.int 20] X1 hx hZ hown (w83_ hw) Via.refl e1 F_qa1_coder (hb hby d10_8)
 obtain ⟨T4, X4, e4, st4⟩ := own_gF 24 #[rv qa1, iv 20, iv 16, iv 20, iv 4, .unset] [.int 2, .int 16, .int 4, .int 16] X3 hx hZ hown (w83_ hw) Via.refl e3 F_qa1_coder (hb hby d10_24)
 obtain ⟨_, T5, L5, X5, hQ5, st5⟩ := own_cS 0 0 [] 29 #[rv qa1, iv 20, iv 16, iv 20, iv 4, .unset] X4 hx hZ hown (w120_ hw) (w121_ hw) (w122_ hw) (w123_ hw) (rm8 l Z a0 hw   h0 n0 X00 ) pd9 hml.symm (hb hby d10_29) e4 rfl rfl rfl rfl (by decide)
 obtain ⟨rfl, N5q, e5q⟩ := hQ5
 have N5 := Fr.app N0 N5q
 obtain ⟨T6, X6, e6, st6⟩ := own_gF 54 #[rv qa1, iv 20, iv 16, iv 20, iv 4, iv 34] [.int 34] X5 hx hZ hown (w83_ hw) Via.refl e5q F_qa1_coder (hb hby d10_54)
 refine own_lvF X6 Bd (.int 34) e6 ⟨rfl, N5, rfl⟩ rfl (fun fs hr => pre0 _ (by
  show Sx p e below s₁ m 0 #[rv qa1, iv 20, .unset, .unset, .unset, .unset] [] _
  refine zb X0 Bd d10_0 rfl rfl ?_
  refine st1 _ ?_
  refine X1.arraylength hx (by rw [e1]; exact Ar2.1) (State.isArrayOf_alike hZ.alike Ar2.2.1) (g := (mkF m 4 #[rv qa1, iv 20, .unset, .unset, .unset, .unset] [.ref qa2])) rfl rfl (hb hby d10_4) _ ?_
  rw [len_of S2 N2]
  refine zt X1 Bd d10_5 (l' := #[rv qa1, iv 20, iv 16, .unset, .unset, .unset]) rfl ?_
  refine zj X1 Bd d10_6 rfl ?_
  refine zb X1 Bd d10_7 rfl rfl ?_
  refine st3 _ ?_
  refine XS.ishl X3.here hx rfl (hb hby d10_11) rfl ?_
  refine zt X3 Bd d10_12 (l' := #[rv qa1, iv 20, iv 16, iv 20, .unset, .unset]) rfl ?_
  refine zj X3 Bd d10_13 rfl ?_
  refine zj X3 Bd d10_14 rfl ?_
  refine XS.isub X3.here hx rfl (hb hby d10_15) rfl ?_
  refine zs X3 Bd d10_16 (l' := #[rv qa1, iv 20, iv 16, iv 20, iv 4, .unset]) rfl ?_
  refine zj X3 Bd d10_18 rfl ?_
  refine zi X3 Bd d10_19 rfl ?_
  refine zj X3 Bd d10_21 rfl ?_
  refine zc X3 Bd d10_22 ?_
  refine zb X3 Bd d10_23 rfl rfl ?_
  refine st4 _ ?_
  refine XS.ishl X4.here hx rfl (hb hby d10_27) rfl ?_
  refine XS.iadd X4.here hx rfl (hb hby d10_28) rfl ?_
  refine st5 _ ?_
  refine zs X5 Bd d10_32 (l' := #[rv qa1, iv 20, iv 16, iv 20, iv 4, iv 34]) rfl ?_
  refine zi X5 Bd d10_34 rfl ?_
  refine X5.ldcInt hx hown (mvT hZ (w129_ hw)) (g := (mkF m 36 #[rv qa1, iv 20, iv 16, iv 20, iv 4, iv 34] [.int 34])) rfl (hb hby d10_36) _ ?_
  refine zy (pc' := 51) X5 Bd d10_38 (XT.ii_ne_t ((by decide) : ¬ ((34 : Int32) = (2147483647 : Int32)))) rfl ?_
  refine zi X5 Bd d10_51 rfl ?_
  refine zb X5 Bd d10_53 rfl rfl ?_
  refine st6 _ ?_
  refine XS.ishr X6.here hx rfl (hb hby d10_57) rfl ?_
  exact retI X6 hx Bd.returns (hb hby d10_58) hr))
theorem d9_27 : D C9_ 27 (.aload_n 0) 1 := by decide +kernel
theorem d9_28 : D C9_ 28 (.getfield 22) 3 := by decide +kernel
theorem d9_31 : D C9_ 31 .ishl 1 := by decide +kernel
theorem d9_32 : D C9_ 32 (.invokestatic 108) 3 := by decide +kernel
theorem pn5 : plainName "java/util/Arrays" = true := by first | (simp [plainName, overriddenIn]; done) | decide +kernel
theorem d13_0 : D C32_ 0 (.iload_n 1) 1 := by decide +kernel
theorem d13_1 : D C32_ 1 (.aload_n 0) 1 := by decide +kernel
theorem d13_2 : D C32_ 2 .arraylength 1 := by decide +kernel
theorem d13_3 : D C32_ 3 (.if_icmp .ne 11) 3 := by decide +kernel
theorem d13_14 : D C32_ 14 (.iload_n 1) 1 := by decide +kernel
theorem d13_15 : D C32_ 15 (.newarray .byte) 2 := by decide +kernel
theorem d13_17 : D C32_ 17 (.astore_n 2) 1 := by decide +kernel
theorem d13_18 : D C32_ 18 (.aload_n 0) 1 := by decide +kernel
theorem d13_19 : D C32_ 19 (.iconst 0) 1 := by decide +kernel
theorem d13_20 : D C32_ 20 (.aload_n 2) 1 := by decide +kernel
theorem d13_21 : D C32_ 21 (.iconst 0) 1 := by decide +kernel
theorem d13_22 : D C32_ 22 (.aload_n 0) 1 := by decide +kernel
theorem d13_23 : D C32_ 23 .arraylength 1 := by decide +kernel
theorem d13_24 : D C32_ 24 (.iload_n 1) 1 := by decide +kernel
theorem d13_25 : D C32_ 25 (.invokestatic 304) 3 := by decide +kernel
theorem d14_0 : D C25_ 0 (.iload_n 0) 1 := by decide +kernel
theorem d14_1 : D C25_ 1 (.iload_n 1) 1 := by decide +kernel
theorem d14_2 : D C25_ 2 (.if_icmp .gt 7) 3 := by decide +kernel
theorem d14_5 : D C25_ 5 (.iload_n 0) 1 := by decide +kernel
theorem d14_6 : D C25_ 6 (.goto 4) 3 := by decide +kernel
theorem d14_10 : D C25_ 10 .ireturn 1 := by decide +kernel
-- java/lang/Math.min(II)I
def Q10 (Z : State)  (h0 : Heap) (n0 : Nat) : QT := fun v h L => v = some (.int 16) ∧ Fr n0 L ∧ h = h0
theorem rm10 (hw : HW a0 Z)  (h0 : Heap) (n0 : Nat) (X00 : Old Z n0 h0)  :
    MF l Z Y9_ jdk_29_method_69_code 2 (some .int) (Rm 0 0 0 0) #[.int 16, .int 34] h0 (Q10 Z  h0 n0) := by
 refine own_sFm (K := "java/lang/Math") (by decide +kernel) rfl (fun m => ef12 m (16 : Int32) (34 : Int32)) ?_
 intro p e s m below meth c s₁ Bd hZ hh hx hby hml hown hnm X0 e0 pre0
 have N0 := Fr.nil n0
 refine own_lvF X0 Bd (.int 16) e0 ⟨rfl, N0, rfl⟩ rfl (fun fs hr => pre0 _ (by
  show Sx p e below s₁ m 0 #[iv 16, iv 34] [] _
  refine zj X0 Bd d14_0 rfl ?_
  refine zj X0 Bd d14_1 rfl ?_
  refine zn X0 Bd d14_2 (XT.ii_gt_f ((by decide) : ¬ ((34 : Int32) < (16 : Int32)))) ?_
  refine zj X0 Bd d14_5 rfl ?_
  refine zg (pc' := 10) X0 Bd d14_6 rfl ?_
  exact retI X0 hx Bd.returns (hb hby d14_10) hr))
theorem d13_28 : D C32_ 28 (.invokestatic 150) 3 := by decide +kernel
theorem d13_31 : D C32_ 31 (.aload_n 2) 1 := by decide +kernel
theorem d13_32 : D C32_ 32 .areturn 1 := by decide +kernel
-- java/util/Arrays.copyOf([BI)[B
def Q11 (Z : State) (qc3 : List Int32) (h0 : Heap) (n0 : Nat) : QT := fun v h L => ∃ b2 : Addr, ∃ c2 : ClassId, v = some (.ref b2) ∧ Fr n0 L ∧ Keep h0 h [] ∧ h0.size ≤ b2 ∧ Exa Z h b2 "[B" ∧ PA Z h b2 c2 .byte (34 : Int32) qc3
theorem rm11 (hw : HW a0 Z) (qa1 : Addr) (qk2 : ClassId) (qc3 : List Int32) (h0 : Heap) (n0 : Nat) (X00 : Old Z n0 h0) (A_qa1 : PA Z h0 qa1 qk2 .byte (16 : Int32) qc3) (hk10 : ((0 : Int32)).toNatClampNeg = (([] : List Int32)).length) (hk11 : ((0 : Int32)).toNatClampNeg + ((16 : Int32)).toNatClampNeg ≤ ((16 : Int32)).toNatClampNeg) (hk12 : ((0 : Int32)).toNatClampNeg + ((16 : Int32)).toNatClampNeg ≤ ((34 : Int32)).toNatClampNeg) (hk13 : (qc3).length ≤ ((16 : Int32)).toNatClampNeg) :
    MF l Z Y10_ jdk_65_method_121_code 3 (some (.array .byte)) (Rm 1 1 34 18) #[.ref qa1, .int 34] h0 (Q11 Z qc3 h0 n0) := by
 refine own_sF pn5 rfl (fun m => ef9 m qa1 (34 : Int32)) ?_
 intro p e s m below meth c s₁ Bd hZ hh hx hby hml hown hnm X0 e0 pre0
 have N0 := Fr.nil n0
 have av1 := A_qa1
 obtain ⟨cl1, Ar1, q1, S1, N1, H1, Gf1⟩ := av1
 obtain ⟨T2, h2, c2, X2, e2, E2, A2, Ex2, st2⟩ := own_newPE X0 hx hZ (w38_ hw) e0 (g := (mkF m 15 #[rv qa1, iv 34, .unset] [.int 34])) rfl (hb hby d13_15) rfl (by decide) (cap := 34) (by decide) (lE rfl) (lE rfl) (lE rfl)
 obtain ⟨b2, g2⟩ : ∃ z, z = h0.size := ⟨_, rfl⟩
 rw [← g2] at A2 st2 Ex2
 replace X2 : Stand p l e (Rm 1 1 34 18) s m #[.ref qa1, .int 34] below meth c T2 _ 1 34 := X2
 have K3 := (Keep.refl h0 []).ext E2
 have A4_ : PA Z h2 b2 c2 .byte (34 : Int32) ([] : List Int32) := Arv.new A2 (by decide)
 have A6_ := A_qa1.ext E2
 have av5 := A6_
 obtain ⟨cl5, Ar5, q5, S5, N5, H5, Gf5⟩ := av5
 have O8 := X00.ext E2
 obtain ⟨_, T7, L7, X7, hQ7, st7⟩ := own_cS 1 34 [.int 0, .ref b2, .int 0, .ref qa1] 25 #[rv qa1, iv 34, rv b2] X2 hx hZ hown (w134_ hw) (w135_ hw) (w126_ hw) (w136_ hw) (rm10 l Z a0 hw   h2 n0 O8 ) pd8 hml.symm (hb hby d13_25) e2 rfl rfl rfl rfl (by decide)
 obtain ⟨rfl, N7q, e7q⟩ := hQ7
 have N7 := Fr.app N0 N7q
 have Ad9 := (A4_).pad (own_repl ((16 : Int32)).toNatClampNeg ([] : List Int32))
 have g_b2 : n0 ≤ b2 := Nat.le_trans (Nat.le_trans (Nat.le_of_eq X00.1.symm) X00.2.1) (Nat.le_of_eq g2.symm)
 obtain ⟨T9, h9, L9, X9, e9, N9, K9q, A9, st9⟩ := cpA X7 hx hZ hown (w137_ hw) (w140_ hw) (w138_ hw) (w139_ hw) e7q (vs := qc3.map Value.int) (vd := (([] : List Int32) ++ List.replicate ((16 : Int32)).toNatClampNeg 0).map Value.int) A6_ Ad9 (Or.inl ⟨rfl, rfl⟩) (by decide) (by decide) (by decide) hk11 hk12 rfl (by rw [List.length_map, List.length_append, List.length_replicate, hk10]; exact Nat.le_refl _) N7 g_b2 (g := (mkF m 28 #[rv qa1, iv 34, rv b2] [.int 16, .int 0, .ref b2, .int 0, .ref qa1])) rfl hml.symm rfl (hb hby d13_28) (by decide) (W := 0) (own_hw rfl) (by decide)
 have sz_b2 : h0.size ≤ b2 := (Nat.le_of_eq g2.symm)
 have K14 := K3.trans K9q (allS (Or.inr sz_b2) all0)
 have A15_ : PA Z h9 b2 c2 .byte (34 : Int32) qc3 := A9.pad (own_cpl (S := qc3) (D := ([] : List Int32)) hk10 hk13)
 have E16_ := Ex2.keep K9q
 refine own_lvF X9 Bd (.ref b2) e9 ⟨b2, c2, rfl, N9, K14, sz_b2, E16_, A15_⟩ rfl (fun fs hr => pre0 _ (by
  show Sx p e below s₁ m 0 #[rv qa1, iv 34, .unset] [] _
  refine zj X0 Bd d13_0 rfl ?_
  refine zb X0 Bd d13_1 rfl rfl ?_
  refine X0.arraylength hx (by rw [e0]; exact Ar1.1) (State.isArrayOf_alike hZ.alike Ar1.2.1) (g := (mkF m 2 #[rv qa1, iv 34, .unset] [.ref qa1, .int 34])) rfl rfl (hb hby d13_2) _ ?_
  rw [len_of S1 N1]
  refine zy (pc' := 14) X0 Bd d13_3 (XT.ii_ne_t ((by decide) : ¬ ((34 : Int32) = (16 : Int32)))) rfl ?_
  refine zj X0 Bd d13_14 rfl ?_
  refine st2 _ ?_
  refine XS.astoreN X2.here hx rfl (hb hby d13_17) rfl rfl (l' := #[rv qa1, iv 34, rv b2]) rfl ?_
  refine zb X2 Bd d13_18 rfl rfl ?_
  refine zc X2 Bd d13_19 ?_
  refine zb X2 Bd d13_20 rfl rfl ?_
  refine zc X2 Bd d13_21 ?_
  refine zb X2 Bd d13_22 rfl rfl ?_
  refine X2.arraylength hx (by rw [e2]; exact Ar5.1) (State.isArrayOf_alike hZ.alike Ar5.2.1) (g := (mkF m 23 #[rv qa1, iv 34, rv b2] [.ref qa1, .int 0, .ref b2, .int 0, .ref qa1])) rfl rfl (hb hby d13_23) _ ?_
  rw [len_of S5 N5]
  refine zj X2 Bd d13_24 rfl ?_
  refine st7 _ ?_
  refine st9 _ ?_
  refine zb X9 Bd d13_31 rfl rfl ?_
  exact retOut X9 hx Bd.returns rfl (Or.inr (Or.inr (Or.inr (Or.inr ⟨rfl, rfl, rfl⟩)))) (hb hby d13_32) hr))
theorem pd10 : parseMethodDescriptor "([BI)[B" = some ⟨[(.array .byte), .int], some (.array .byte)⟩ := by decide +kernel
theorem d9_35 : D C9_ 35 (.putfield 15) 3 := by decide +kernel
theorem d9_38 : D C9_ 38 .return_ 1 := by decide +kernel
-- java/lang/AbstractStringBuilder.ensureCapacityInternal(I)V
def Q12 (Z : State) (qa1 : Addr) (qc4 : List Int32) (h0 : Heap) (n0 : Nat) : QT := fun v h L => ∃ b12 : Addr, ∃ c13_ : ClassId, v = none ∧ Fr n0 L ∧ Keep h0 h [qa1] ∧ h0.size ≤ b12 ∧ VA Z h qa1 b12 ∧ VC Z h qa1 ∧ Exa Z h qa1 SB_ ∧ VN Z h qa1 0 ∧ Exa Z h b12 "[B" ∧ PA Z h b12 c13_ .byte (34 : Int32) qc4
theorem rm12 (hw : HW a0 Z) (qa1 : Addr) (qa2 : Addr) (qk3 : ClassId) (qc4 : List Int32) (h0 : Heap) (n0 : Nat) (X00 : Old Z n0 h0) (F_qa1_value : VA Z h0 qa1 qa2) (A_qa2 : PA Z h0 qa2 qk3 .byte (16 : Int32) qc4) (F_qa1_coder : VC Z h0 qa1) (E_qa1 : Exa Z h0 qa1 SB_) (hk8 : ((0 : Int32)).toNatClampNeg = (([] : List Int32)).length) (hk9 : ((0 : Int32)).toNatClampNeg + ((16 : Int32)).toNatClampNeg ≤ ((16 : Int32)).toNatClampNeg) (hk10 : ((0 : Int32)).toNatClampNeg + ((16 : Int32)).toNatClampNeg ≤ ((34 : Int32)).toNatClampNeg) (hk11 : (qc4).length ≤ ((16 : Int32)).toNatClampNeg) (g_qa1 : n0 ≤ qa1) (F_qa1_count : VN Z h0 qa1 0) :
    MF l Z Y11_ jdk_68_method_9_code 3 none (Rm 3 1 34 48) #[.ref qa1, .int 20] h0 (Q12 Z qa1 qc4 h0 n0) := by
 refine own_sF pn3 rfl (fun m => ef9 m qa1 (20 : Int32)) ?_
 intro p e s m below meth c s₁ Bd hZ hh hx hby hml hown hnm X0 e0 pre0
 have N0 := Fr.nil n0
 obtain ⟨T1, X1, e1, st1⟩ := own_gF 1 #[rv qa1, iv 20, .unset] [] X0 hx hZ hown (w81_ hw) Via.refl e0 F_qa1_value (hb hby d9_1)
 have av2 := A_qa2
 obtain ⟨cl2, Ar2, q2, S2, N2, H2, Gf2⟩ := av2
 obtain ⟨T3, X3, e3, st3⟩ := own_gF 6 #[rv qa1, iv 20, .unset] [.int 16] X1 hx hZ hown (w83_ hw) Via.refl e1 F_qa1_coder (hb hby d9_6)
 obtain ⟨T4, X4, e4, st4⟩ := own_gF 19 #[rv qa1, iv 20, iv 16] [.ref qa1] X3 hx hZ hown (w81_ hw) Via.refl e3 F_qa1_value (hb hby d9_19)
 obtain ⟨_, T5, L5, X5, hQ5, st5⟩ := own_cP 0 0 [.ref qa2, .ref qa1] 24 #[rv qa1, iv 20, iv 16] X4 hx hZ hown E_qa1 (w115_ hw) (w116_ hw) (w118_ hw) (w117_ hw) (w77_ hw) (w119_ hw) (rm9 l Z a0 hw  qa1 qa2 qk3 qc4 h0 n0 X00 F_qa1_value A_qa2 F_qa1_coder) pd1 hml.symm (hb hby d9_24) e4 rfl rfl rfl rfl (by decide)
 obtain ⟨rfl, N5q, e5q⟩ := hQ5
 have N5 := Fr.app N0 N5q
 obtain ⟨T6, X6, e6, st6⟩ := own_gF 28 #[rv qa1, iv 20, iv 16] [.int 34, .ref qa2, .ref qa1] X5 hx hZ hown (w83_ hw) Via.refl e5q F_qa1_coder (hb hby d9_28)
 obtain ⟨_, T7, L7, X7, hQ7, st7⟩ := own_cS 1 34 [.ref qa1] 32 #[rv qa1, iv 20, iv 16] X6 hx hZ hown (w130_ hw) (w131_ hw) (w132_ hw) (w133_ hw) (rm11 l Z a0 hw  qa2 qk3 qc4 h0 n0 X00 A_qa2 hk8 hk9 hk10 hk11) pd10 hml.symm (hb hby d9_32) e6 rfl rfl rfl rfl (by decide)
 obtain ⟨b12, c13_, rfl, N7q, K7q, w14, w15, w16⟩ := hQ7
 have N7 := Fr.app N5 N7q
 have K17 := (Keep.refl h0 [qa1]).trans K7q (fun x q => nomatch q)
 have F18_ := F_qa1_value.keep K7q nin0
 have E19_ := E_qa1.keep K7q
 obtain ⟨T20, h20, X20, e20, W20, st20⟩ := putF X7 hx hZ hown (host := "") (Or.inl (w81_ hw)) Via.refl rfl F18_ E19_ (Or.inl (w82_ hw)) (w68_ hw) (ty := (.array .byte)) (by decide) rfl rfl (g := (mkF m 35 #[rv qa1, iv 20, iv 16] [.ref b12, .ref qa1])) rfl rfl (hb hby d9_35)
 have N20 := Fr.snoc X20 N7 g_qa1
 have K21 := K17.wr W20 (Or.inl (mI 0 rfl))
 have F22_ : VA Z h20 qa1 b12 := F18_.same W20
 have sz_b12 : h0.size ≤ b12 := w14
 have F23_ := F_qa1_coder.keep K7q nin0
 have F24_ := F23_.other W20 (Or.inr (slot_ne (Or.inl (w84_ hw)) (Or.inl (w82_ hw)) (by decide) (t := .byte) (t' := (.array .byte)) (by decide) (by decide)))
 have E25_ := E19_.wr W20
 have F26_ := F_qa1_count.keep K7q nin0
 have F27_ := F26_.other W20 (Or.inr (slot_ne (Or.inl (w109_ hw)) (Or.inl (w82_ hw)) (by decide) (t := .int) (t' := (.array .byte)) (by decide) (by decide)))
 have E28_ := w15.wr W20
 have nx29 : qa1 ≠ b12 := (Nat.ne_of_lt (Nat.lt_of_lt_of_le F_qa1_coder.lt w14))
 have A30_ := w16.other W20 (Ne.symm nx29)
 refine own_lvN X20 Bd e20 ⟨b12, c13_, rfl, N20, K21, sz_b12, F22_, F24_, E25_, F27_, E28_, A30_⟩ rfl (fun fs hr => pre0 _ (by
  show Sx p e below s₁ m 0 #[rv qa1, iv 20, .unset] [] _
  refine zb X0 Bd d9_0 rfl rfl ?_
  refine st1 _ ?_
  refine X1.arraylength hx (by rw [e1]; exact Ar2.1) (State.isArrayOf_alike hZ.alike Ar2.2.1) (g := (mkF m 4 #[rv qa1, iv 20, .unset] [.ref qa2])) rfl rfl (hb hby d9_4) _ ?_
  rw [len_of S2 N2]
  refine zb X1 Bd d9_5 rfl rfl ?_
  refine st3 _ ?_
  refine XS.ishr X3.here hx rfl (hb hby d9_9) rfl ?_
  refine zt X3 Bd d9_10 (l' := #[rv qa1, iv 20, iv 16]) rfl ?_
  refine zj X3 Bd d9_11 rfl ?_
  refine zj X3 Bd d9_12 rfl ?_
  refine XS.isub X3.here hx rfl (hb hby d9_13) rfl ?_
  refine zo X3 Bd d9_14 (XT.i0_le_f ((by decide) : (0 : Int32) < (4 : Int32))) ?_
  refine zb X3 Bd d9_17 rfl rfl ?_
  refine zb X3 Bd d9_18 rfl rfl ?_
  refine st4 _ ?_
  refine zb X4 Bd d9_22 rfl rfl ?_
  refine zj X4 Bd d9_23 rfl ?_
  refine st5 _ ?_
  refine zb X5 Bd d9_27 rfl rfl ?_
  refine st6 _ ?_
  refine XS.ishl X6.here hx rfl (hb hby d9_31) rfl ?_
  refine st7 _ ?_
  refine st20 _ ?_
  exact X20.returnOut hx Bd.returns (hb hby d9_38) hr))
theorem d8_24 : D C16_ 24 (.aload_n 0) 1 := by decide +kernel
theorem d8_25 : D C16_ 25 (.aload_n 0) 1 := by decide +kernel
theorem d8_26 : D C16_ 26 (.getfield 79) 3 := by decide +kernel
theorem d8_29 : D C16_ 29 (.aload_n 1) 1 := by decide +kernel
theorem d8_30 : D C16_ 30 (.invokevirtual 208) 3 := by decide +kernel
theorem ef13 (m : MethodId) (x0 : Addr) (x1 : Int32) (x2 : Addr) : entryFrame m #[.ref x0, .int x1, .ref x2] 3 = mkF m 0 #[.val (.ref x0), .val (.int x1), .val (.ref x2)] [] := by first | (simp [entryFrame, mkF, argsToLocals, Value.category]; done) | rfl
theorem d15_0 : D C13_ 0 (.aload_n 0) 1 := by decide +kernel
theorem d15_1 : D C13_ 1 (.aload_n 2) 1 := by decide +kernel
theorem d15_2 : D C13_ 2 (.invokevirtual 397) 3 := by decide +kernel
theorem d16_0 : D C19_ 0 (.getstatic 18) 3 := by decide +kernel
theorem d16_3 : D C19_ 3 (.ifCond .eq 18) 3 := by decide +kernel
theorem d16_6 : D C19_ 6 (.aload_n 0) 1 := by decide +kernel
theorem d16_7 : D C19_ 7 (.getfield 22) 3 := by decide +kernel
theorem d16_10 : D C19_ 10 (.aload_n 1) 1 := by decide +kernel
theorem d16_11 : D C19_ 11 (.invokevirtual 40) 3 := by decide +kernel
theorem pn6 : plainName ST_ = true := by first | (simp [plainName, overriddenIn]; done) | decide +kernel
theorem d17_0 : D C30_ 0 (.getstatic 38) 3 := by decide +kernel
theorem d17_3 : D C30_ 3 (.ifCond .eq 10) 3 := by decide +kernel
theorem d17_6 : D C30_ 6 (.aload_n 0) 1 := by decide +kernel
theorem d17_7 : D C30_ 7 (.getfield 15) 3 := by decide +kernel
theorem d17_10 : D C30_ 10 (.goto 4) 3 := by decide +kernel
theorem d17_14 : D C30_ 14 .ireturn 1 := by decide +kernel
-- java/lang/String.coder()B
def Q13 (Z : State)  (h0 : Heap) (n0 : Nat) : QT := fun v h L => v = some (.int 0) ∧ Fr n0 L ∧ h = h0
theorem rm13 (hw : HW a0 Z) (G1 : Int32) (qa1 : Addr) (h0 : Heap) (n0 : Nat) (X00 : Old Z n0 h0) (O2 : CO Z G1) (P5 : NZ G1) (F_qa1_coder : SC Z h0 qa1) :
    MF l Z Y12_ jdk_42_method_152_code 1 (some .byte) (Rm 0 0 0 0) #[.ref qa1] h0 (Q13 Z  h0 n0) := by
 refine own_sF pn6 rfl (fun m => ef5 m qa1) ?_
 intro p e s m below meth c s₁ Bd hZ hh hx hby hml hown hnm X0 e0 pre0
 have N0 := Fr.nil n0
 obtain ⟨T1, X1, e1, st1⟩ := getS2 X0 hx hZ hown (host := "") (Or.inl (w33_ hw)) Via.refl e0 (O2.ext X00.2) (g := (mkF m 0 #[rv qa1] [])) rfl (hb hby d17_0)
 obtain ⟨T2, X2, e2, st2⟩ := own_gF 7 #[rv qa1] [] X1 hx hZ hown (w45_ hw) Via.refl e1 F_qa1_coder (hb hby d17_7)
 refine own_lvF X2 Bd (.int 0) e2 ⟨rfl, N0, rfl⟩ rfl (fun fs hr => pre0 _ (by
  show Sx p e below s₁ m 0 #[rv qa1] [] _
  refine st1 _ ?_
  refine zo X1 Bd d17_3 (XT.i0_eq_f (P5 : ¬ (G1 = (0 : Int32)))) ?_
  refine zb X1 Bd d17_6 rfl rfl ?_
  refine st2 _ ?_
  refine zg (pc' := 14) X2 Bd d17_10 rfl ?_
  exact retN X2 hx (t := .byte) Bd.returns (by simp) (hb hby d17_14) hr))
theorem pd11 : parseMethodDescriptor "()B" = some ⟨[], some .byte⟩ := by decide +kernel
theorem d16_14 : D C19_ 14 (.if_icmp .eq 7) 3 := by decide +kernel
theorem d16_21 : D C19_ 21 .return_ 1 := by decide +kernel
-- java/lang/AbstractStringBuilder.inflateIfNeededFor(Ljava/lang/String;)V
def Q14 (Z : State)  (h0 : Heap) (n0 : Nat) : QT := fun v h L => v = none ∧ Fr n0 L ∧ h = h0
theorem rm14 (hw : HW a0 Z) (G1 : Int32) (qa1 : Addr) (qa2 : Addr) (h0 : Heap) (n0 : Nat) (X00 : Old Z n0 h0) (O2 : CO Z G1) (P5 : NZ G1) (F_qa1_coder : VC Z h0 qa1) (E_qa2 : Exa Z h0 qa2 ST_) (F_qa2_coder : SC Z h0 qa2) :
    MF l Z Y13_ jdk_68_method_71_code 2 none (Rm 1 0 0 13) #[.ref qa1, .ref qa2] h0 (Q14 Z  h0 n0) := by
 refine own_sF pn3 rfl (fun m => ef7 m qa1 qa2) ?_
 intro p e s m below meth c s₁ Bd hZ hh hx hby hml hown hnm X0 e0 pre0
 have N0 := Fr.nil n0
 obtain ⟨T1, X1, e1, st1⟩ := getS2 X0 hx hZ hown (host := "") (Or.inl (w80_ hw)) Via.refl e0 (O2.ext X00.2) (g := (mkF m 0 #[rv qa1, rv qa2] [])) rfl (hb hby d16_0)
 obtain ⟨T2, X2, e2, st2⟩ := own_gF 7 #[rv qa1, rv qa2] [] X1 hx hZ hown (w83_ hw) Via.refl e1 F_qa1_coder (hb hby d16_7)
 obtain ⟨_, T3, L3, X3, hQ3, st3⟩ := own_cV 0 0 [.int 0] 11 #[rv qa1, rv qa2] X2 hx hZ hown E_qa2 (w151_ hw) (w104_ hw) (notFace_of_selects (args := #[]) (mvT hZ (w106_ hw))) (w106_ hw) (w105_ hw) (w22_ hw) (w107_ hw) (rm13 l Z a0 hw G1 qa2 h0 n0 X00 O2 P5 F_qa2_coder) pd11 hml.symm (hb hby d16_11) e2 rfl rfl rfl rfl (by decide)
 obtain ⟨rfl, N3q, e3q⟩ := hQ3
 have N3 := Fr.app N0 N3q
 refine own_lvN X3 Bd e3q ⟨rfl, N3, rfl⟩ rfl (fun fs hr => pre0 _ (by
  show Sx p e below s₁ m 0 #[rv qa1, rv qa2] [] _
  refine st1 _ ?_
  refine zo X1 Bd d16_3 (XT.i0_eq_f (P5 : ¬ (G1 = (0 : Int32)))) ?_
  refine zb X1 Bd d16_6 rfl rfl ?_
  refine st2 _ ?_
  refine zb X2 Bd d16_10 rfl rfl ?_
  refine st3 _ ?_
  refine zy (pc' := 21) X3 Bd d16_14 (XT.ii_eq_t ((by decide) : (0 : Int32) = (0 : Int32))) rfl ?_
  exact X3.returnOut hx Bd.returns (hb hby d16_21) hr))
theorem pd12 : parseMethodDescriptor "(Ljava/lang/String;)V" = some ⟨[(.object ST_)], none⟩ := by decide +kernel
theorem d15_5 : D C13_ 5 (.aload_n 2) 1 := by decide +kernel
theorem d15_6 : D C13_ 6 (.aload_n 0) 1 := by decide +kernel
theorem d15_7 : D C13_ 7 (.getfield 15) 3 := by decide +kernel
theorem d15_10 : D C13_ 10 (.iload_n 1) 1 := by decide +kernel
theorem d15_11 : D C13_ 11 (.aload_n 0) 1 := by decide +kernel
theorem d15_12 : D C13_ 12 (.getfield 22) 3 := by decide +kernel
theorem d15_15 : D C13_ 15 (.invokevirtual 399) 3 := by decide +kernel
theorem ef14 (m : MethodId) (x0 : Addr) (x1 : Addr) (x2 : Int32) (x3 : Int32) : entryFrame m #[.ref x0, .ref x1, .int x2, .int x3] 4 = mkF m 0 #[.val (.ref x0), .val (.ref x1), .val (.int x2), .val (.int x3)] [] := by first | (simp [entryFrame, mkF, argsToLocals, Value.category]; done) | rfl
theorem d18_0 : D C28_ 0 (.aload_n 0) 1 := by decide +kernel
theorem d18_1 : D C28_ 1 (.invokevirtual 335) 3 := by decide +kernel
theorem d18_4 : D C28_ 4 (.iload_n 3) 1 := by decide +kernel
theorem d18_5 : D C28_ 5 (.if_icmp .ne 23) 3 := by decide +kernel
theorem d18_8 : D C28_ 8 (.aload_n 0) 1 := by decide +kernel
theorem d18_9 : D C28_ 9 (.getfield 9) 3 := by decide +kernel
theorem d18_12 : D C28_ 12 (.iconst 0) 1 := by decide +kernel
theorem d18_13 : D C28_ 13 (.aload_n 1) 1 := by decide +kernel
theorem d18_14 : D C28_ 14 (.iload_n 2) 1 := by decide +kernel
theorem d18_15 : D C28_ 15 (.iload_n 3) 1 := by decide +kernel
theorem d18_16 : D C28_ 16 .ishl 1 := by decide +kernel
theorem d18_17 : D C28_ 17 (.aload_n 0) 1 := by decide +kernel
theorem d18_18 : D C28_ 18 (.getfield 9) 3 := by decide +kernel
theorem d18_21 : D C28_ 21 .arraylength 1 := by decide +kernel
theorem d18_22 : D C28_ 22 (.invokestatic 212) 3 := by decide +kernel
theorem d18_25 : D C28_ 25 (.goto 18) 3 := by decide +kernel
theorem d18_43 : D C28_ 43 .return_ 1 := by decide +kernel
-- java/lang/String.getBytes([BIB)V
def Q15 (Z : State) (qa2 : Addr) (qk5 : ClassId) (qc6 : List Int32) (h0 : Heap) (n0 : Nat) : QT := fun v h L => v = none ∧ Fr n0 L ∧ Keep h0 h [qa2] ∧ PA Z h qa2 qk5 .byte (34 : Int32) (qc6 ++ K1_)
theorem rm15 (hw : HW a0 Z) (G1 : Int32) (qa1 : Addr) (qa2 : Addr) (qa3 : Addr) (qk4 : ClassId) (qk5 : ClassId) (qc6 : List Int32) (h0 : Heap) (n0 : Nat) (X00 : Old Z n0 h0) (O2 : CO Z G1) (P5 : NZ G1) (E_qa1 : Exa Z h0 qa1 ST_) (F_qa1_coder : SC Z h0 qa1) (F_qa1_value : SV Z h0 qa1 qa3) (A_qa3 : Arv Z h0 qa3 qk4 .byte (20 : Int32) [.int 67, .int 97, .int 99, .int 104, .int 101, .int 83, .int 116, .int 97, .int 116, .int 115, .int 91, .int 114, .int 101, .int 113, .int 117, .int 101, .int 115, .int 116, .int 115, .int 61] (.int 0)) (A_qa2 : PA Z h0 qa2 qk5 .byte (34 : Int32) qc6) (hk7 : ((0 : Int32)).toNatClampNeg = (qc6).length) (hk8 : ((0 : Int32)).toNatClampNeg + ((20 : Int32)).toNatClampNeg ≤ ((20 : Int32)).toNatClampNeg) (hk9 : ((0 : Int32)).toNatClampNeg + ((20 : Int32)).toNatClampNeg ≤ ((34 : Int32)).toNatClampNeg) (hk10 : (K1_).length ≤ ((20 : Int32)).toNatClampNeg) (g_qa2 : n0 ≤ qa2) :
    MF l Z Y14_ jdk_42_method_147_code 4 none (Rm 1 0 0 18) #[.ref qa1, .ref qa2, .int 0, .int 0] h0 (Q15 Z qa2 qk5 qc6 h0 n0) := by
 refine own_sF pn6 rfl (fun m => ef14 m qa1 qa2 (0 : Int32) (0 : Int32)) ?_
 intro p e s m below meth c s₁ Bd hZ hh hx hby hml hown hnm X0 e0 pre0
 have N0 := Fr.nil n0
 obtain ⟨_, T1, L1, X1, hQ1, st1⟩ := own_cV 0 0 [] 1 #[rv qa1, rv qa2, iv 0, iv 0] X0 hx hZ hown E_qa1 (w103_ hw) (w104_ hw) (notFace_of_selects (args := #[]) (mvT hZ (w106_ hw))) (w106_ hw) (w105_ hw) (w22_ hw) (w107_ hw) (rm13 l Z a0 hw G1 qa1 h0 n0 X00 O2 P5 F_qa1_coder) pd11 hml.symm (hb hby d18_1) e0 rfl rfl rfl rfl (by decide)
 obtain ⟨rfl, N1q, e1q⟩ := hQ1
 have N1 := Fr.app N0 N1q
 obtain ⟨T2, X2, e2, st2⟩ := own_gF 9 #[rv qa1, rv qa2, iv 0, iv 0] [] X1 hx hZ hown (w47_ hw) Via.refl e1q F_qa1_value (hb hby d18_9)
 obtain ⟨T3, X3, e3, st3⟩ := own_gF 18 #[rv qa1, rv qa2, iv 0, iv 0] [.int 0, .ref qa2, .int 0, .ref qa3] X2 hx hZ hown (w47_ hw) Via.refl e2 F_qa1_value (hb hby d18_18)
 have av4 := A_qa3
 obtain ⟨cl4, Ar4, q4, S4, N4, H4, Gf4⟩ := av4
 have A5_ : PA Z h0 qa3 qk4 .byte (20 : Int32) K1_ := A_qa3
 have Ad6 := (A_qa2).pad (own_repl ((20 : Int32)).toNatClampNeg qc6)
 obtain ⟨T6, h6, L6, X6, e6, N6, K6q, A6, st6⟩ := cpA X3 hx hZ hown (w157_ hw) (w140_ hw) (w138_ hw) (w139_ hw) e3 (vs := K1_.map Value.int) (vd := (qc6 ++ List.replicate ((20 : Int32)).toNatClampNeg 0).map Value.int) A5_ Ad6 (Or.inl ⟨rfl, rfl⟩) (by decide) (by decide) (by decide) hk8 hk9 rfl (by rw [List.length_map, List.length_append, List.length_replicate, hk7]; exact Nat.le_refl _) N1 g_qa2 (g := (mkF m 22 #[rv qa1, rv qa2, iv 0, iv 0] [.int 20, .int 0, .ref qa2, .int 0, .ref qa3])) rfl hml.symm rfl (hb hby d18_22) (by decide) (W := 0) (own_hw rfl) (by decide)
 have K11 := (Keep.refl h0 [qa2]).trans K6q (allS (Or.inl (mI 0 rfl)) all0)
 have A12_ : PA Z h6 qa2 qk5 .byte (34 : Int32) (qc6 ++ K1_) := A6.pad (own_cpl (S := K1_) (D := qc6) hk7 hk10)
 refine own_lvN X6 Bd e6 ⟨rfl, N6, K11, A12_⟩ rfl (fun fs hr => pre0 _ (by
  show Sx p e below s₁ m 0 #[rv qa1, rv qa2, iv 0, iv 0] [] _
  refine zb X0 Bd d18_0 rfl rfl ?_
  refine st1 _ ?_
  refine zj X1 Bd d18_4 rfl ?_
  refine zn X1 Bd d18_5 (XT.ii_ne_f ((by decide) : (0 : Int32) = (0 : Int32))) ?_
  refine zb X1 Bd d18_8 rfl rfl ?_
  refine st2 _ ?_
  refine zc X2 Bd d18_12 ?_
  refine zb X2 Bd d18_13 rfl rfl ?_
  refine zj X2 Bd d18_14 rfl ?_
  refine zj X2 Bd d18_15 rfl ?_
  refine XS.ishl X2.here hx rfl (hb hby d18_16) rfl ?_
  refine zb X2 Bd d18_17 rfl rfl ?_
  refine st3 _ ?_
  refine X3.arraylength hx (by rw [e3]; exact Ar4.1) (State.isArrayOf_alike hZ.alike Ar4.2.1) (g := (mkF m 21 #[rv qa1, rv qa2, iv 0, iv 0] [.ref qa3, .int 0, .ref qa2, .int 0, .ref qa3])) rfl rfl (hb hby d18_21) _ ?_
  rw [len_of S4 N4]
  refine st6 _ ?_
  refine zg (pc' := 43) X6 Bd d18_25 rfl ?_
  exact X6.returnOut hx Bd.returns (hb hby d18_43) hr))
theorem pd13 : parseMethodDescriptor "([BIB)V" = some ⟨[(.array .byte), .int, .byte], none⟩ := by decide +kernel
theorem d15_18 : D C13_ 18 .return_ 1 := by decide +kernel
-- java/lang/AbstractStringBuilder.putStringAt(ILjava/lang/String;)V
def Q16 (Z : State) (qa3 : Addr) (qk6 : ClassId) (qc7 : List Int32) (h0 : Heap) (n0 : Nat) : QT := fun v h L => v = none ∧ Fr n0 L ∧ Keep h0 h [qa3] ∧ PA Z h qa3 qk6 .byte (34 : Int32) (qc7 ++ K1_)
theorem rm16 (hw : HW a0 Z) (G1 : Int32) (qa1 : Addr) (qa2 : Addr) (qa3 : Addr) (qa4 : Addr) (qk5 : ClassId) (qk6 : ClassId) (qc7 : List Int32) (h0 : Heap) (n0 : Nat) (X00 : Old Z n0 h0) (O2 : CO Z G1) (P5 : NZ G1) (F_qa1_coder : VC Z h0 qa1) (E_qa2 : Exa Z h0 qa2 ST_) (F_qa2_coder : SC Z h0 qa2) (E_qa1 : Exa Z h0 qa1 SB_) (F_qa1_value : VA Z h0 qa1 qa3) (F_qa2_value : SV Z h0 qa2 qa4) (A_qa4 : Arv Z h0 qa4 qk5 .byte (20 : Int32) [.int 67, .int 97, .int 99, .int 104, .int 101, .int 83, .int 116, .int 97, .int 116, .int 115, .int 91, .int 114, .int 101, .int 113, .int 117, .int 101, .int 115, .int 116, .int 115, .int 61] (.int 0)) (A_qa3 : PA Z h0 qa3 qk6 .byte (34 : Int32) qc7) (hk5 : ((0 : Int32)).toNatClampNeg = (qc7).length) (hk6 : ((0 : Int32)).toNatClampNeg + ((20 : Int32)).toNatClampNeg ≤ ((20 : Int32)).toNatClampNeg) (hk7 : ((0 : Int32)).toNatClampNeg + ((20 : Int32)).toNatClampNeg ≤ ((34 : Int32)).toNatClampNeg) (hk8 : (K1_).length ≤ ((20 : Int32)).toNatClampNeg) (g_qa3 : n0 ≤ qa3) :
    MF l Z Y15_ jdk_68_method_73_code 3 none (Rm 2 0 0 33) #[.ref qa1, .int 0, .ref qa2] h0 (Q16 Z qa3 qk6 qc7 h0 n0) := by
 refine own_sF pn3 rfl (fun m => ef13 m qa1 (0 : Int32) qa2) ?_
 intro p e s m below meth c s₁ Bd hZ hh hx hby hml hown hnm X0 e0 pre0
 have N0 := Fr.nil n0
 obtain ⟨_, T1, L1, X1, hQ1, st1⟩ := own_cP 0 0 [] 2 #[rv qa1, iv 0, rv qa2] X0 hx hZ hown E_qa1 (w146_ hw) (w147_ hw) (w149_ hw) (w148_ hw) (w77_ hw) (w150_ hw) (rm14 l Z a0 hw G1 qa1 qa2 h0 n0 X00 O2 P5 F_qa1_coder E_qa2 F_qa2_coder) pd12 hml.symm (hb hby d15_2) e0 rfl rfl rfl rfl (by decide)
 obtain ⟨rfl, N1q, e1q⟩ := hQ1
 have N1 := Fr.app N0 N1q
 obtain ⟨T2, X2, e2, st2⟩ := own_gF 7 #[rv qa1, iv 0, rv qa2] [.ref qa2] X1 hx hZ hown (w81_ hw) Via.refl e1q F_qa1_value (hb hby d15_7)
 obtain ⟨T3, X3, e3, st3⟩ := own_gF 12 #[rv qa1, iv 0, rv qa2] [.int 0, .ref qa3, .ref qa2] X2 hx hZ hown (w83_ hw) Via.refl e2 F_qa1_coder (hb hby d15_12)
 obtain ⟨_, T4, L4, X4, hQ4, st4⟩ := own_cV 0 0 [] 15 #[rv qa1, iv 0, rv qa2] X3 hx hZ hown E_qa2 (w152_ hw) (w153_ hw) (notFace_of_selects (args := #[]) (mvT hZ (w155_ hw))) (w155_ hw) (w154_ hw) (w22_ hw) (w156_ hw) (rm15 l Z a0 hw G1 qa2 qa3 qa4 qk5 qk6 qc7 h0 n0 X00 O2 P5 E_qa2 F_qa2_coder F_qa2_value A_qa4 A_qa3 hk5 hk6 hk7 hk8 g_qa3) pd13 hml.symm (hb hby d15_15) e3 rfl rfl rfl rfl (by decide)
 obtain ⟨rfl, N4q, K4q, w9⟩ := hQ4
 have N4 := Fr.app N1 N4q
 have K10 := (Keep.refl h0 [qa3]).trans K4q (allS (Or.inl (mI 0 rfl)) all0)
 refine own_lvN X4 Bd rfl ⟨rfl, N4, K10, w9⟩ rfl (fun fs hr => pre0 _ (by
  show Sx p e below s₁ m 0 #[rv qa1, iv 0, rv qa2] [] _
  refine zb X0 Bd d15_0 rfl rfl ?_
  refine zb X0 Bd d15_1 rfl rfl ?_
  refine st1 _ ?_
  refine zb X1 Bd d15_5 rfl rfl ?_
  refine zb X1 Bd d15_6 rfl rfl ?_
  refine st2 _ ?_
  refine zj X2 Bd d15_10 rfl ?_
  refine zb X2 Bd d15_11 rfl rfl ?_
  refine st3 _ ?_
  refine st4 _ ?_
  exact X4.returnOut hx Bd.returns (hb hby d15_18) hr))
theorem pd14 : parseMethodDescriptor "(ILjava/lang/String;)V" = some ⟨[.int, (.object ST_)], none⟩ := by decide +kernel
theorem d8_33 : D C16_ 33 (.aload_n 0) 1 := by decide +kernel
theorem d8_34 : D C16_ 34 .dup 1 := by decide +kernel
theorem d8_35 : D C16_ 35 (.getfield 79) 3 := by decide +kernel
theorem d8_38 : D C16_ 38 (.iload_n 2) 1 := by decide +kernel
theorem d8_39 : D C16_ 39 .iadd 1 := by decide +kernel
theorem d8_40 : D C16_ 40 (.putfield 79) 3 := by decide +kernel
theorem d8_43 : D C16_ 43 (.aload_n 0) 1 := by decide +kernel
theorem d8_44 : D C16_ 44 .areturn 1 := by decide +kernel
-- java/lang/AbstractStringBuilder.append(Ljava/lang/String;)Ljava/lang/AbstractStringBuilder;
def Q17 (Z : State) (qa1 : Addr) (qc7 : List Int32) (h0 : Heap) (n0 : Nat) : QT := fun v h L => ∃ b9 : Addr, ∃ c10_ : ClassId, v = some (.ref qa1) ∧ Fr n0 L ∧ Keep h0 h [qa1] ∧ h0.size ≤ b9 ∧ Exa Z h qa1 SB_ ∧ VA Z h qa1 b9 ∧ VC Z h qa1 ∧ VN Z h qa1 20 ∧ Exa Z h b9 "[B" ∧ PA Z h b9 c10_ .byte (34 : Int32) (qc7 ++ K1_)
theorem rm17 (hw : HW a0 Z) (G1 : Int32) (qa1 : Addr) (qa2 : Addr) (qa3 : Addr) (qk4 : ClassId) (qa5 : Addr) (qk6 : ClassId) (qc7 : List Int32) (h0 : Heap) (n0 : Nat) (X00 : Old Z n0 h0) (O2 : CO Z G1) (P5 : NZ G1) (E_qa2 : Exa Z h0 qa2 ST_) (F_qa2_coder : SC Z h0 qa2) (F_qa2_value : SV Z h0 qa2 qa3) (hp_qa2 : ∀ c ∈ K1_, ¬ c < 0 ∧ ¬ (255 : Int32) < c) (A_qa3 : Arv Z h0 qa3 qk4 .byte (20 : Int32) [.int 67, .int 97, .int 99, .int 104, .int 101, .int 83, .int 116, .int 97, .int 116, .int 115, .int 91, .int 114, .int 101, .int 113, .int 117, .int 101, .int 115, .int 116, .int 115, .int 61] (.int 0)) (F_qa1_count : VN Z h0 qa1 0) (F_qa1_value : VA Z h0 qa1 qa5) (A_qa5 : PA Z h0 qa5 qk6 .byte (16 : Int32) qc7) (F_qa1_coder : VC Z h0 qa1) (E_qa1 : Exa Z h0 qa1 SB_) (hk5 : ((0 : Int32)).toNatClampNeg = (([] : List Int32)).length) (hk6 : ((0 : Int32)).toNatClampNeg + ((16 : Int32)).toNatClampNeg ≤ ((16 : Int32)).toNatClampNeg) (hk7 : ((0 : Int32)).toNatClampNeg + ((16 : Int32)).toNatClampNeg ≤ ((34 : Int32)).toNatClampNeg) (hk8 : (qc7).length ≤ ((16 : Int32)).toNatClampNeg) (g_qa1 : n0 ≤ qa1) (ne_qa2_qa1 : qa2 ≠ qa1) (ne_qa3_qa1 : qa3 ≠ qa1) (hk26 : ((0 : Int32)).toNatClampNeg = (qc7).length) (hk27 : ((0 : Int32)).toNatClampNeg + ((20 : Int32)).toNatClampNeg ≤ ((20 : Int32)).toNatClampNeg) (hk28 : ((0 : Int32)).toNatClampNeg + ((20 : Int32)).toNatClampNeg ≤ ((34 : Int32)).toNatClampNeg) (hk29 : (K1_).length ≤ ((20 : Int32)).toNatClampNeg) :
    MF l Z Y16_ jdk_68_method_22_code 3 (some (.object AB_)) (Rm 4 1 34 62) #[.ref qa1, .ref qa2] h0 (Q17 Z qa1 qc7 h0 n0) := by
 refine own_sF pn3 rfl (fun m => ef8 m qa1 qa2) ?_
 intro p e s m below meth c s₁ Bd hZ hh hx hby hml hown hnm X0 e0 pre0
 have N0 := Fr.nil n0
 have hcd2 : StrChars.Road.CodA K1_ 0 (20 : Int32) [.int 67, .int 97, .int 99, .int 104, .int 101, .int 83, .int 116, .int 97, .int 116, .int 115, .int 91, .int 114, .int 101, .int 113, .int 117, .int 101, .int 115, .int 116, .int 115, .int 61] := StrChars.Road.codOf (n := 20) rfl (fun x hx => (hp_qa2 x hx).2)
 have hbd2 : ∀ x ∈ K1_, ¬ x < 0 ∧ ¬ (65535 : Int32) < x := own_up _ hp_qa2
 obtain ⟨cq1, kq1, q1a, q1b, q1c⟩ := isOf hZ e0 E_qa2
 obtain ⟨_, T1, L1, X1, hQ1, st1⟩ := own_cb0 0 0 0 0 0 0 (X0.virtualBack hx (y := Y17_) (z := Y17_) hown (mvT hZ (w98_ hw)) (mvT hZ (w99_ hw)) (notFace_of_selects (args := #[]) (mvT hZ (w101_ hw))) (mvT hZ (w101_ hw)) (mvT hZ (w100_ hw)) (by decide) (StrChars.Road.lenW (W := 0) hZ (own_wl hw) (kI := 4) (w21_ hw) E_qa2 F_qa2_value F_qa2_coder A_qa3 hcd2 hbd2 (O2.ext X00.2) P5 (lE rfl) (lE rfl) (lE rfl)) q1a q1c (g := (mkF m 10 #[rv qa1, rv qa2, .unset] [.ref qa2])) rfl hml.symm (Steps.refl _) (argsL := []) (rest := []) (lenOf pd7 rfl) rfl (own_hw rfl) (hb hby d8_10) (fun _ _ => ⟨rfl, e0, (lE rfl : 0 + 0 ≤ _), (lE rfl : 0 + 0 ≤ _)⟩)) rfl rfl
 dsimp only [Pt.U, Pt.locs, Pt.cells, Pt.slots] at hQ1
 obtain ⟨rfl, rfl, e1q⟩ := hQ1
 have N1 := Fr.app N0 (Fr.nil n0)
 obtain ⟨T3, X3, e3, st3⟩ := own_gF 16 #[rv qa1, rv qa2, iv 20] [.ref qa1] X1 hx hZ hown (w108_ hw) Via.refl e1q F_qa1_count (hb hby d8_16)
 obtain ⟨_, T4, L4, X4, hQ4, st4⟩ := own_cP 1 34 [] 21 #[rv qa1, rv qa2, iv 20] X3 hx hZ hown E_qa1 (w110_ hw) (w111_ hw) (w113_ hw) (w112_ hw) (w77_ hw) (w114_ hw) (rm12 l Z a0 hw  qa1 qa5 qk6 qc7 h0 n0 X00 F_qa1_value A_qa5 F_qa1_coder E_qa1 hk5 hk6 hk7 hk8 g_qa1 F_qa1_count) pd5 hml.symm (hb hby d8_21) e3 rfl rfl rfl rfl (by decide)
 obtain ⟨b9, c10_, rfl, N4q, K4q, w11, w12, w13, w14, w15, w16, w17⟩ := hQ4
 have N4 := Fr.app N1 N4q
 have K18 := (Keep.refl h0 [qa1]).trans K4q (allS (Or.inl (mI 0 rfl)) all0)
 obtain ⟨T19, X19, e19, st19⟩ := own_gF 26 #[rv qa1, rv qa2, iv 20] [.ref qa1] X4 hx hZ hown (w108_ hw) Via.refl rfl w15 (hb hby d8_26)
 have E21_ := E_qa2.keep K4q
 have F22_ := F_qa2_coder.keep K4q (ninS ne_qa2_qa1 nin0)
 have E23_ := E_qa1.keep K4q
 have F24_ := F_qa2_value.keep K4q (ninS ne_qa2_qa1 nin0)
 have A25_ := A_qa3.keep K4q (ninS ne_qa3_qa1 nin0)
 have g_b9 : n0 ≤ b9 := Nat.le_trans (Nat.le_trans (Nat.le_of_eq X00.1.symm) X00.2.1) w11
 have O30 := X00.keep K4q (allS g_qa1 all0)
 obtain ⟨_, T20, L20, X20, hQ20, st20⟩ := own_cP 1 34 [] 30 #[rv qa1, rv qa2, iv 20] X19 hx hZ hown E23_ (w141_ hw) (w142_ hw) (w144_ hw) (w143_ hw) (w77_ hw) (w145_ hw) (rm16 l Z a0 hw G1 qa1 qa2 b9 qa3 qk4 c10_ qc7 T4.heap n0 O30 O2 P5 w13 E21_ F22_ E23_ w12 F24_ A25_ w17 hk26 hk27 hk28 hk29 g_b9) pd14 hml.symm (hb hby d8_30) e19 rfl rfl rfl rfl (by decide)
 obtain ⟨rfl, N20q, K20q, w31⟩ := hQ20
 have N20 := Fr.app N4 N20q
 have sz_b9 : h0.size ≤ b9 := w11
 have K32 := K18.trans K20q (allS (Or.inr sz_b9) all0)
 have nx34 : qa1 ≠ b9 := (Nat.ne_of_lt (Nat.lt_of_lt_of_le E_qa1.lt w11))
 have F35_ := w15.keep K20q (ninS nx34 nin0)
 obtain ⟨T33, X33, e33, st33⟩ := own_gF 35 #[rv qa1, rv qa2, iv 20] [.ref qa1] X20 hx hZ hown (w108_ hw) Via.refl rfl F35_ (hb hby d8_35)
 have E36_ := E23_.keep K20q
 obtain ⟨T37, h37, X37, e37, W37, st37⟩ := putF X33 hx hZ hown (host := "") (Or.inl (w108_ hw)) Via.refl e33 F35_ E36_ (Or.inl (w109_ hw)) (w68_ hw) (ty := .int) (by decide) rfl rfl (g := (mkF m 40 #[rv qa1, rv qa2, iv 20] [.int 20, .ref qa1])) rfl rfl (hb hby d8_40)
 have N37 := Fr.snoc X37 N20 g_qa1
 have K38 := K32.wr W37 (Or.inl (mI 0 rfl))
 have F39_ : VN Z h37 qa1 20 := F35_.same W37
 have E40_ := E36_.wr W37
 have F41_ := w12.keep K20q (ninS nx34 nin0)
 have F42_ := F41_.other W37 (Or.inr (slot_ne (Or.inl (w82_ hw)) (Or.inl (w109_ hw)) (by decide) (t := (.array .byte)) (t' := .int) (by decide) (by decide)))
 have F43_ := w13.keep K20q (ninS nx34 nin0)
 have F44_ := F43_.other W37 (Or.inr (slot_ne (Or.inl (w84_ hw)) (Or.inl (w109_ hw)) (by decide) (t := .byte) (t' := .int) (by decide) (by decide)))
 have E45_ := w16.keep K20q
 have E46_ := E45_.wr W37
 have A47_ := w31.other W37 (Ne.symm nx34)
 refine own_lvF X37 Bd (.ref qa1) e37 ⟨b9, c10_, rfl, N37, K38, sz_b9, E40_, F42_, F44_, F39_, E46_, A47_⟩ rfl (fun fs hr => pre0 _ (by
  show Sx p e below s₁ m 0 #[rv qa1, rv qa2, .unset] [] _
  refine zb X0 Bd d8_0 rfl rfl ?_
  refine XS.ifnonnullYes X0.here hx rfl (pc0 := 1) (pc' := 9) rfl (hb hby d8_1) rfl (by decide) (by decide) ?_
  refine zb X0 Bd d8_9 rfl rfl ?_
  refine st1.trans ?_
  refine zt X1 Bd d8_13 (l' := #[rv qa1, rv qa2, iv 20]) rfl ?_
  refine zb X1 Bd d8_14 rfl rfl ?_
  refine zb X1 Bd d8_15 rfl rfl ?_
  refine st3 _ ?_
  refine zj X3 Bd d8_19 rfl ?_
  refine XS.iadd X3.here hx rfl (hb hby d8_20) rfl ?_
  refine st4 _ ?_
  refine zb X4 Bd d8_24 rfl rfl ?_
  refine zb X4 Bd d8_25 rfl rfl ?_
  refine st19 _ ?_
  refine zb X19 Bd d8_29 rfl rfl ?_
  refine st20 _ ?_
  refine zb X20 Bd d8_33 rfl rfl ?_
  refine XS.dup X20.here hx rfl (hb hby d8_34) rfl rfl ?_
  refine st33 _ ?_
  refine zj X33 Bd d8_38 rfl ?_
  refine XS.iadd X33.here hx rfl (hb hby d8_39) rfl ?_
  refine st37 _ ?_
  refine zb X37 Bd d8_43 rfl rfl ?_
  exact retOut X37 hx Bd.returns rfl (Or.inr (Or.inr (Or.inr (Or.inr ⟨rfl, rfl, rfl⟩)))) (hb hby d8_44) hr))
theorem pd15 : parseMethodDescriptor "(Ljava/lang/String;)Ljava/lang/AbstractStringBuilder;" = some ⟨[(.object ST_)], some (.object AB_)⟩ := by decide +kernel
theorem d7_5 : D C5_ 5 .pop 1 := by decide +kernel
theorem d7_6 : D C5_ 6 (.aload_n 0) 1 := by decide +kernel
theorem d7_7 : D C5_ 7 .areturn 1 := by decide +kernel
-- java/lang/StringBuilder.append(Ljava/lang/String;)Ljava/lang/StringBuilder;
def Q18 (Z : State) (qa1 : Addr) (qc7 : List Int32) (h0 : Heap) (n0 : Nat) : QT := fun v h L => ∃ b10 : Addr, ∃ c11_ : ClassId, v = some (.ref qa1) ∧ Fr n0 L ∧ Keep h0 h [qa1] ∧ h0.size ≤ b10 ∧ Exa Z h qa1 SB_ ∧ VA Z h qa1 b10 ∧ VC Z h qa1 ∧ VN Z h qa1 20 ∧ Exa Z h b10 "[B" ∧ PA Z h b10 c11_ .byte (34 : Int32) (qc7 ++ K1_)
theorem rm18 (hw : HW a0 Z) (G1 : Int32) (qa1 : Addr) (qa2 : Addr) (qa3 : Addr) (qk4 : ClassId) (qa5 : Addr) (qk6 : ClassId) (qc7 : List Int32) (h0 : Heap) (n0 : Nat) (X00 : Old Z n0 h0) (O2 : CO Z G1) (P5 : NZ G1) (E_qa2 : Exa Z h0 qa2 ST_) (F_qa2_coder : SC Z h0 qa2) (F_qa2_value : SV Z h0 qa2 qa3) (hp_qa2 : ∀ c ∈ K1_, ¬ c < 0 ∧ ¬ (255 : Int32) < c) (A_qa3 : Arv Z h0 qa3 qk4 .byte (20 : Int32) [.int 67, .int 97, .int 99, .int 104, .int 101, .int 83, .int 116, .int 97, .int 116, .int 115, .int 91, .int 114, .int 101, .int 113, .int 117, .int 101, .int 115, .int 116, .int 115, .int 61] (.int 0)) (F_qa1_count : VN Z h0 qa1 0) (F_qa1_value : VA Z h0 qa1 qa5) (A_qa5 : PA Z h0 qa5 qk6 .byte (16 : Int32) qc7) (F_qa1_coder : VC Z h0 qa1) (E_qa1 : Exa Z h0 qa1 SB_) (hk2 : ((0 : Int32)).toNatClampNeg = (([] : List Int32)).length) (hk3 : ((0 : Int32)).toNatClampNeg + ((16 : Int32)).toNatClampNeg ≤ ((16 : Int32)).toNatClampNeg) (hk4 : ((0 : Int32)).toNatClampNeg + ((16 : Int32)).toNatClampNeg ≤ ((34 : Int32)).toNatClampNeg) (hk5 : (qc7).length ≤ ((16 : Int32)).toNatClampNeg) (g_qa1 : n0 ≤ qa1) (ne_qa2_qa1 : qa2 ≠ qa1) (ne_qa3_qa1 : qa3 ≠ qa1) (hk6 : ((0 : Int32)).toNatClampNeg = (qc7).length) (hk7 : ((0 : Int32)).toNatClampNeg + ((20 : Int32)).toNatClampNeg ≤ ((20 : Int32)).toNatClampNeg) (hk8 : ((0 : Int32)).toNatClampNeg + ((20 : Int32)).toNatClampNeg ≤ ((34 : Int32)).toNatClampNeg) (hk9 : (K1_).length ≤ ((20 : Int32)).toNatClampNeg) :
    MF l Z Y18_ jdk_67_method_7_code 2 (some (.object SB_)) (Rm 5 1 34 76) #[.ref qa1, .ref qa2] h0 (Q18 Z qa1 qc7 h0 n0) := by
 refine own_sF pn2 rfl (fun m => ef7 m qa1 qa2) ?_
 intro p e s m below meth c s₁ Bd hZ hh hx hby hml hown hnm X0 e0 pre0
 have N0 := Fr.nil n0
 obtain ⟨_, T1, L1, X1, hQ1, st1⟩ := own_cU 1 34 [] 2 #[rv qa1, rv qa2] X0 hx hZ hown E_qa1 (w93_ hw) (own_same (w94_ hw) (w113_ hw) rfl (by decide)) (w94_ hw) (w95_ hw) (w77_ hw) (w97_ hw) (rm17 l Z a0 hw G1 qa1 qa2 qa3 qk4 qa5 qk6 qc7 h0 n0 X00 O2 P5 E_qa2 F_qa2_coder F_qa2_value hp_qa2 A_qa3 F_qa1_count F_qa1_value A_qa5 F_qa1_coder E_qa1 hk2 hk3 hk4 hk5 g_qa1 ne_qa2_qa1 ne_qa3_qa1 hk6 hk7 hk8 hk9) pd15 hml.symm (hb hby d7_2) e0 rfl rfl rfl rfl (by decide)
 obtain ⟨b10, c11_, rfl, N1q, K1q, w12, w13, w14, w15, w16, w17, w18⟩ := hQ1
 have N1 := Fr.app N0 N1q
 have K19 := (Keep.refl h0 [qa1]).trans K1q (allS (Or.inl (mI 0 rfl)) all0)
 have sz_b10 : h0.size ≤ b10 := w12
 have E20_ := E_qa1.keep K1q
 refine own_lvF X1 Bd (.ref qa1) rfl ⟨b10, c11_, rfl, N1, K19, sz_b10, E20_, w14, w15, w16, w17, w18⟩ rfl (fun fs hr => pre0 _ (by
  show Sx p e below s₁ m 0 #[rv qa1, rv qa2] [] _
  refine zb X0 Bd d7_0 rfl rfl ?_
  refine zb X0 Bd d7_1 rfl rfl ?_
  refine st1 _ ?_
  refine XS.pop X1.here hx rfl (hb hby d7_5) rfl rfl ?_
  refine zb X1 Bd d7_6 rfl rfl ?_
  exact retOut X1 hx Bd.returns rfl (Or.inr (Or.inr (Or.inr (Or.inr ⟨rfl, rfl, rfl⟩)))) (hb hby d7_7) hr))
theorem pd16 : parseMethodDescriptor "(Ljava/lang/String;)Ljava/lang/StringBuilder;" = some ⟨[(.object ST_)], some (.object SB_)⟩ := by decide +kernel
theorem d4_12 : D C3_ 12 (.aload_n 0) 1 := by decide +kernel
theorem d4_13 : D C3_ 13 (.getfield 7) 3 := by decide +kernel
theorem d4_16 : D C3_ 16 (.invokevirtual 28) 3 := by decide +kernel
theorem d19_0 : D C22_ 0 (.aload_n 0) 1 := by decide +kernel
theorem d19_1 : D C22_ 1 (.iload_n 1) 1 := by decide +kernel
theorem d19_2 : D C22_ 2 (.invokespecial 53) 3 := by decide +kernel
theorem ef15 (m : MethodId) (x0 : Addr) (x1 : Int32) : entryFrame m #[.ref x0, .int x1] 4 = mkF m 0 #[.val (.ref x0), .val (.int x1), .unset, .unset] [] := by first | (simp [entryFrame, mkF, argsToLocals, Value.category]; done) | rfl
theorem d20_0 : D C24_ 0 (.aload_n 0) 1 := by decide +kernel
theorem d20_1 : D C24_ 1 (.getfield 79) 3 := by decide +kernel
theorem d20_4 : D C24_ 4 (.istore_n 2) 1 := by decide +kernel
theorem d20_5 : D C24_ 5 (.iload_n 2) 1 := by decide +kernel
theorem d20_6 : D C24_ 6 (.iload_n 1) 1 := by decide +kernel
theorem d20_7 : D C24_ 7 (.invokestatic 245) 3 := by decide +kernel
theorem ef16 (m : MethodId) (x0 : Int32) : entryFrame m #[.int x0] 4 = mkF m 0 #[.val (.int x0), .unset, .unset, .unset] [] := by first | (simp [entryFrame, mkF, argsToLocals, Value.category]; done) | rfl
theorem pn7 : plainName "java/lang/Integer" = true := by first | (simp [plainName, overriddenIn]; done) | decide +kernel
theorem d21_0 : D C18_ 0 (.iconst 1) 1 := by decide +kernel
theorem d21_1 : D C18_ 1 (.istore_n 1) 1 := by decide +kernel
theorem d21_2 : D C18_ 2 (.iload_n 0) 1 := by decide +kernel
theorem d21_3 : D C18_ 3 (.ifCond .lt 8) 3 := by decide +kernel
theorem d21_11 : D C18_ 11 (.bipush (-10)) 2 := by decide +kernel
theorem d21_13 : D C18_ 13 (.istore_n 2) 1 := by decide +kernel
theorem d21_14 : D C18_ 14 (.iconst 1) 1 := by decide +kernel
theorem d21_15 : D C18_ 15 (.istore_n 3) 1 := by decide +kernel
theorem d21_16 : D C18_ 16 (.iload_n 3) 1 := by decide +kernel
theorem d21_17 : D C18_ 17 (.bipush 10) 2 := by decide +kernel
theorem d21_19 : D C18_ 19 (.if_icmp .ge 23) 3 := by decide +kernel
theorem d21_22 : D C18_ 22 (.iload_n 0) 1 := by decide +kernel
theorem d21_23 : D C18_ 23 (.iload_n 2) 1 := by decide +kernel
theorem d21_24 : D C18_ 24 (.if_icmp .le 7) 3 := by decide +kernel
theorem d21_27 : D C18_ 27 (.iload_n 3) 1 := by decide +kernel
theorem d21_28 : D C18_ 28 (.iload_n 1) 1 := by decide +kernel
theorem d21_29 : D C18_ 29 .iadd 1 := by decide +kernel
theorem d21_30 : D C18_ 30 .ireturn 1 := by decide +kernel
theorem d21_31 : D C18_ 31 (.bipush 10) 2 := by decide +kernel
theorem d21_33 : D C18_ 33 (.iload_n 2) 1 := by decide +kernel
theorem d21_34 : D C18_ 34 .imul 1 := by decide +kernel
theorem d21_35 : D C18_ 35 (.istore_n 2) 1 := by decide +kernel
theorem d21_36 : D C18_ 36 (.iinc 3 1) 3 := by decide +kernel
theorem d21_39 : D C18_ 39 (.goto (-23)) 3 := by decide +kernel
theorem d21_42 : D C18_ 42 (.bipush 10) 2 := by decide +kernel
theorem d21_44 : D C18_ 44 (.iload_n 1) 1 := by decide +kernel
theorem d21_45 : D C18_ 45 .iadd 1 := by decide +kernel
theorem d21_46 : D C18_ 46 .ireturn 1 := by decide +kernel
theorem d21_6 : D C18_ 6 (.iconst 0) 1 := by decide +kernel
theorem d21_7 : D C18_ 7 (.istore_n 1) 1 := by decide +kernel
theorem d21_8 : D C18_ 8 (.iload_n 0) 1 := by decide +kernel
theorem d21_9 : D C18_ 9 .ineg 1 := by decide +kernel
theorem d21_10 : D C18_ 10 (.istore_n 0) 1 := by decide +kernel
-- java/lang/Integer.stringSize(I)I
def Q19 (Z : State) (qi1 : Int32) (h0 : Heap) (n0 : Nat) : QT := fun v h L => v = some (.int (own_wd qi1)) ∧ Fr n0 L ∧ h = h0
abbrev l4_ (qi1 : Int32) : Array Slot := #[iv (-qi1), iv 0, iv (-1000000000 : Int32), iv 9]
abbrev l5_ (qi1 : Int32) : Array Slot := #[iv (-qi1), iv 0, iv (-100000000 : Int32), iv 8]
theorem rm19 (hw : HW a0 Z) (qi1 : Int32) (h0 : Heap) (n0 : Nat) (X00 : Old Z n0 h0)  :
    MF l Z Y19_ jdk_33_method_13_code 4 (some .int) (Rm 0 0 0 0) #[.int qi1] h0 (Q19 Z qi1 h0 n0) := by
 refine own_sF pn7 rfl (fun m => ef16 m qi1) ?_
 intro p e s m below meth c s₁ Bd hZ hh hx hby hml hown hnm X0 e0 pre0
 have N0 := Fr.nil n0
 have pr1 : Pr p e below s₁ m 3 #[iv qi1, iv 1, .unset, .unset] [.int qi1] s₁ (entryFrame m #[.int qi1] 4) := fun t k => pre0 t (by
  show Sx p e below s₁ m 0 #[iv qi1, .unset, .unset, .unset] [] _
  refine zc X0 Bd d21_0 ?_
  refine zt X0 Bd d21_1 (l' := #[iv qi1, iv 1, .unset, .unset]) rfl ?_
  refine zj X0 Bd d21_2 rfl ?_
  exact k)
 by_cases hc2 : qi1 < (0 : Int32)
 ·
  skip
  have pr3 : Pr p e below s₁ m 24 #[iv qi1, iv 1, iv (-10 : Int32), iv 1] [(.int (-10 : Int32)), .int qi1] s₁ (entryFrame m #[.int qi1] 4) := fun t k => pr1 t (by
   show Sx p e below s₁ m 3 #[iv qi1, iv 1, .unset, .unset] [.int qi1] _
   refine zp (pc' := 11) X0 Bd d21_3 (XT.i0_lt_t (hc2 : qi1 < (0 : Int32))) rfl ?_
   refine zd X0 Bd d21_11 ?_
   refine zt X0 Bd d21_13 (l' := #[iv qi1, iv 1, iv (-10 : Int32), .unset]) rfl ?_
   refine zc X0 Bd d21_14 ?_
   refine zt X0 Bd d21_15 (l' := #[iv qi1, iv 1, iv (-10 : Int32), iv 1]) rfl ?_
   refine zj X0 Bd d21_16 rfl ?_
   refine zd X0 Bd d21_17 ?_
   refine zn X0 Bd d21_19 (XT.ii_ge_f ((by decide) : (1 : Int32) < (10 : Int32))) ?_
   refine zj X0 Bd d21_22 rfl ?_
   refine zj X0 Bd d21_23 rfl ?_
   exact k)
  by_cases hc4 : (-10 : Int32) < qi1
  ·
   skip
   refine own_lvF X0 Bd (.int 2) e0 ⟨(congrArg (fun z => some (Value.int z)) (own_ssN1 hc2 hc4).symm), N0, rfl⟩ rfl (fun fs hr => pr3 _ (by
    show Sx p e below s₁ m 24 #[iv qi1, iv 1, iv (-10 : Int32), iv 1] [(.int (-10 : Int32)), .int qi1] _
    refine zn X0 Bd d21_24 (XT.ii_le_f (hc4 : (-10 : Int32) < qi1)) ?_
    refine zj X0 Bd d21_27 rfl ?_
    refine zj X0 Bd d21_28 rfl ?_
    refine XS.iadd X0.here hx rfl (hb hby d21_29) rfl ?_
    exact retI X0 hx Bd.returns (hb hby d21_30) hr))
  ·
   skip
   have pr5 : Pr p e below s₁ m 24 #[iv qi1, iv 1, iv (-100 : Int32), iv 2] [(.int (-100 : Int32)), .int qi1] s₁ (entryFrame m #[.int qi1] 4) := fun t k => pr3 t (by
    show Sx p e below s₁ m 24 #[iv qi1, iv 1, iv (-10 : Int32), iv 1] [(.int (-10 : Int32)), .int qi1] _
    refine zy (pc' := 31) X0 Bd d21_24 (XT.ii_le_t (hc4 : ¬ ((-10 : Int32) < qi1))) rfl ?_
    refine zd X0 Bd d21_31 ?_
    refine zj X0 Bd d21_33 rfl ?_
    refine XS.imul X0.here hx rfl (hb hby d21_34) rfl ?_
    refine zt X0 Bd d21_35 (l' := #[iv qi1, iv 1, iv (-100 : Int32), iv 1]) rfl ?_
    refine XS.iinc X0.here hx rfl (hb hby d21_36) rfl (l' := #[iv qi1, iv 1, iv (-100 : Int32), iv 2]) rfl ?_
    refine zg (pc' := 16) X0 Bd d21_39 rfl ?_
    refine zj X0 Bd d21_16 rfl ?_
    refine zd X0 Bd d21_17 ?_
    refine zn X0 Bd d21_19 (XT.ii_ge_f ((by decide) : (2 : Int32) < (10 : Int32))) ?_
    refine zj X0 Bd d21_22 rfl ?_
    refine zj X0 Bd d21_23 rfl ?_
    exact k)
   by_cases hc6 : (-100 : Int32) < qi1
   ·
    skip
    refine own_lvF X0 Bd (.int 3) e0 ⟨(congrArg (fun z => some (Value.int z)) (own_ssN2 hc2 hc4 hc6).symm), N0, rfl⟩ rfl (fun fs hr => pr5 _ (by
     show Sx p e below s₁ m 24 #[iv qi1, iv 1, iv (-100 : Int32), iv 2] [(.int (-100 : Int32)), .int qi1] _
     refine zn X0 Bd d21_24 (XT.ii_le_f (hc6 : (-100 : Int32) < qi1)) ?_
     refine zj X0 Bd d21_27 rfl ?_
     refine zj X0 Bd d21_28 rfl ?_
     refine XS.iadd X0.here hx rfl (hb hby d21_29) rfl ?_
     exact retI X0 hx Bd.returns (hb hby d21_30) hr))
   ·
    skip
    have pr7 : Pr p e below s₁ m 24 #[iv qi1, iv 1, iv (-1000 : Int32), iv 3] [(.int (-1000 : Int32)), .int qi1] s₁ (entryFrame m #[.int qi1] 4) := fun t k => pr5 t (by
     show Sx p e below s₁ m 24 #[iv qi1, iv 1, iv (-100 : Int32), iv 2] [(.int (-100 : Int32)), .int qi1] _
     refine zy (pc' := 31) X0 Bd d21_24 (XT.ii_le_t (hc6 : ¬ ((-100 : Int32) < qi1))) rfl ?_
     refine zd X0 Bd d21_31 ?_
     refine zj X0 Bd d21_33 rfl ?_
     refine XS.imul X0.here hx rfl (hb hby d21_34) rfl ?_
     refine zt X0 Bd d21_35 (l' := #[iv qi1, iv 1, iv (-1000 : Int32), iv 2]) rfl ?_
     refine XS.iinc X0.here hx rfl (hb hby d21_36) rfl (l' := #[iv qi1, iv 1, iv (-1000 : Int32), iv 3]) rfl ?_
     refine zg (pc' := 16) X0 Bd d21_39 rfl ?_
     refine zj X0 Bd d21_16 rfl ?_
     refine zd X0 Bd d21_17 ?_
     refine zn X0 Bd d21_19 (XT.ii_ge_f ((by decide) : (3 : Int32) < (10 : Int32))) ?_
     refine zj X0 Bd d21_22 rfl ?_
     refine zj X0 Bd d21_23 rfl ?_
     exact k)
    by_cases hc8 : (-1000 : Int32) < qi1
    ·
     skip
     refine own_lvF X0 Bd (.int 4) e0 ⟨(congrArg (fun z => some (Value.int z)) (own_ssN3 hc2 hc6 hc8).symm), N0, rfl⟩ rfl (fun fs hr => pr7 _ (by
      show Sx p e below s₁ m 24 #[iv qi1, iv 1, iv (-1000 : Int32), iv 3] [(.int (-1000 : Int32)), .int qi1] _
      refine zn X0 Bd d21_24 (XT.ii_le_f (hc8 : (-1000 : Int32) < qi1)) ?_
      refine zj X0 Bd d21_27 rfl ?_
      refine zj X0 Bd d21_28 rfl ?_
      refine XS.iadd X0.here hx rfl (hb hby d21_29) rfl ?_
      exact retI X0 hx Bd.returns (hb hby d21_30) hr))
    ·
     skip
     have pr9 : Pr p e below s₁ m 24 #[iv qi1, iv 1, iv (-10000 : Int32), iv 4] [(.int (-10000 : Int32)), .int qi1] s₁ (entryFrame m #[.int qi1] 4) := fun t k => pr7 t (by
      show Sx p e below s₁ m 24 #[iv qi1, iv 1, iv (-1000 : Int32), iv 3] [(.int (-1000 : Int32)), .int qi1] _
      refine zy (pc' := 31) X0 Bd d21_24 (XT.ii_le_t (hc8 : ¬ ((-1000 : Int32) < qi1))) rfl ?_
      refine zd X0 Bd d21_31 ?_
      refine zj X0 Bd d21_33 rfl ?_
      refine XS.imul X0.here hx rfl (hb hby d21_34) rfl ?_
      refine zt X0 Bd d21_35 (l' := #[iv qi1, iv 1, iv (-10000 : Int32), iv 3]) rfl ?_
      refine XS.iinc X0.here hx rfl (hb hby d21_36) rfl (l' := #[iv qi1, iv 1, iv (-10000 : Int32), iv 4]) rfl ?_
      refine zg (pc' := 16) X0 Bd d21_39 rfl ?_
      refine zj X0 Bd d21_16 rfl ?_
      refine zd X0 Bd d21_17 ?_
      refine zn X0 Bd d21_19 (XT.ii_ge_f ((by decide) : (4 : Int32) < (10 : Int32))) ?_
      refine zj X0 Bd d21_22 rfl ?_
      refine zj X0 Bd d21_23 rfl ?_
      exact k)
     by_cases hc10 : (-10000 : Int32) < qi1
     ·
      skip
      refine own_lvF X0 Bd (.int 5) e0 ⟨(congrArg (fun z => some (Value.int z)) (own_ssN4 hc2 hc8 hc10).symm), N0, rfl⟩ rfl (fun fs hr => pr9 _ (by
       show Sx p e below s₁ m 24 #[iv qi1, iv 1, iv (-10000 : Int32), iv 4] [(.int (-10000 : Int32)), .int qi1] _
       refine zn X0 Bd d21_24 (XT.ii_le_f (hc10 : (-10000 : Int32) < qi1)) ?_
       refine zj X0 Bd d21_27 rfl ?_
       refine zj X0 Bd d21_28 rfl ?_
       refine XS.iadd X0.here hx rfl (hb hby d21_29) rfl ?_
       exact retI X0 hx Bd.returns (hb hby d21_30) hr))
     ·
      skip
      have pr11 : Pr p e below s₁ m 24 #[iv qi1, iv 1, iv (-100000 : Int32), iv 5] [(.int (-100000 : Int32)), .int qi1] s₁ (entryFrame m #[.int qi1] 4) := fun t k => pr9 t (by
       show Sx p e below s₁ m 24 #[iv qi1, iv 1, iv (-10000 : Int32), iv 4] [(.int (-10000 : Int32)), .int qi1] _
       refine zy (pc' := 31) X0 Bd d21_24 (XT.ii_le_t (hc10 : ¬ ((-10000 : Int32) < qi1))) rfl ?_
       refine zd X0 Bd d21_31 ?_
       refine zj X0 Bd d21_33 rfl ?_
       refine XS.imul X0.here hx rfl (hb hby d21_34) rfl ?_
       refine zt X0 Bd d21_35 (l' := #[iv qi1, iv 1, iv (-100000 : Int32), iv 4]) rfl ?_
       refine XS.iinc X0.here hx rfl (hb hby d21_36) rfl (l' := #[iv qi1, iv 1, iv (-100000 : Int32), iv 5]) rfl ?_
       refine zg (pc' := 16) X0 Bd d21_39 rfl ?_
       refine zj X0 Bd d21_16 rfl ?_
       refine zd X0 Bd d21_17 ?_
       refine zn X0 Bd d21_19 (XT.ii_ge_f ((by decide) : (5 : Int32) < (10 : Int32))) ?_
       refine zj X0 Bd d21_22 rfl ?_
       refine zj X0 Bd d21_23 rfl ?_
       exact k)
      by_cases hc12 : (-100000 : Int32) < qi1
      ·
       skip
       refine own_lvF X0 Bd (.int 6) e0 ⟨(congrArg (fun z => some (Value.int z)) (own_ssN5 hc2 hc10 hc12).symm), N0, rfl⟩ rfl (fun fs hr => pr11 _ (by
        show Sx p e below s₁ m 24 #[iv qi1, iv 1, iv (-100000 : Int32), iv 5] [(.int (-100000 : Int32)), .int qi1] _
        refine zn X0 Bd d21_24 (XT.ii_le_f (hc12 : (-100000 : Int32) < qi1)) ?_
        refine zj X0 Bd d21_27 rfl ?_
        refine zj X0 Bd d21_28 rfl ?_
        refine XS.iadd X0.here hx rfl (hb hby d21_29) rfl ?_
        exact retI X0 hx Bd.returns (hb hby d21_30) hr))
      ·
       skip
       have pr13 : Pr p e below s₁ m 24 #[iv qi1, iv 1, iv (-1000000 : Int32), iv 6] [(.int (-1000000 : Int32)), .int qi1] s₁ (entryFrame m #[.int qi1] 4) := fun t k => pr11 t (by
        show Sx p e below s₁ m 24 #[iv qi1, iv 1, iv (-100000 : Int32), iv 5] [(.int (-100000 : Int32)), .int qi1] _
        refine zy (pc' := 31) X0 Bd d21_24 (XT.ii_le_t (hc12 : ¬ ((-100000 : Int32) < qi1))) rfl ?_
        refine zd X0 Bd d21_31 ?_
        refine zj X0 Bd d21_33 rfl ?_
        refine XS.imul X0.here hx rfl (hb hby d21_34) rfl ?_
        refine zt X0 Bd d21_35 (l' := #[iv qi1, iv 1, iv (-1000000 : Int32), iv 5]) rfl ?_
        refine XS.iinc X0.here hx rfl (hb hby d21_36) rfl (l' := #[iv qi1, iv 1, iv (-1000000 : Int32), iv 6]) rfl ?_
        refine zg (pc' := 16) X0 Bd d21_39 rfl ?_
        refine zj X0 Bd d21_16 rfl ?_
        refine zd X0 Bd d21_17 ?_
        refine zn X0 Bd d21_19 (XT.ii_ge_f ((by decide) : (6 : Int32) < (10 : Int32))) ?_
        refine zj X0 Bd d21_22 rfl ?_
        refine zj X0 Bd d21_23 rfl ?_
        exact k)
       by_cases hc14 : (-1000000 : Int32) < qi1
       ·
        skip
        refine own_lvF X0 Bd (.int 7) e0 ⟨(congrArg (fun z => some (Value.int z)) (own_ssN6 hc2 hc12 hc14).symm), N0, rfl⟩ rfl (fun fs hr => pr13 _ (by
         show Sx p e below s₁ m 24 #[iv qi1, iv 1, iv (-1000000 : Int32), iv 6] [(.int (-1000000 : Int32)), .int qi1] _
         refine zn X0 Bd d21_24 (XT.ii_le_f (hc14 : (-1000000 : Int32) < qi1)) ?_
         refine zj X0 Bd d21_27 rfl ?_
         refine zj X0 Bd d21_28 rfl ?_
         refine XS.iadd X0.here hx rfl (hb hby d21_29) rfl ?_
         exact retI X0 hx Bd.returns (hb hby d21_30) hr))
       ·
        skip
        have pr15 : Pr p e below s₁ m 24 #[iv qi1, iv 1, iv (-10000000 : Int32), iv 7] [(.int (-10000000 : Int32)), .int qi1] s₁ (entryFrame m #[.int qi1] 4) := fun t k => pr13 t (by
         show Sx p e below s₁ m 24 #[iv qi1, iv 1, iv (-1000000 : Int32), iv 6] [(.int (-1000000 : Int32)), .int qi1] _
         refine zy (pc' := 31) X0 Bd d21_24 (XT.ii_le_t (hc14 : ¬ ((-1000000 : Int32) < qi1))) rfl ?_
         refine zd X0 Bd d21_31 ?_
         refine zj X0 Bd d21_33 rfl ?_
         refine XS.imul X0.here hx rfl (hb hby d21_34) rfl ?_
         refine zt X0 Bd d21_35 (l' := #[iv qi1, iv 1, iv (-10000000 : Int32), iv 6]) rfl ?_
         refine XS.iinc X0.here hx rfl (hb hby d21_36) rfl (l' := #[iv qi1, iv 1, iv (-10000000 : Int32), iv 7]) rfl ?_
         refine zg (pc' := 16) X0 Bd d21_39 rfl ?_
         refine zj X0 Bd d21_16 rfl ?_
         refine zd X0 Bd d21_17 ?_
         refine zn X0 Bd d21_19 (XT.ii_ge_f ((by decide) : (7 : Int32) < (10 : Int32))) ?_
         refine zj X0 Bd d21_22 rfl ?_
         refine zj X0 Bd d21_23 rfl ?_
         exact k)
        by_cases hc16 : (-10000000 : Int32) < qi1
        ·
         skip
         refine own_lvF X0 Bd (.int 8) e0 ⟨(congrArg (fun z => some (Value.int z)) (own_ssN7 hc2 hc14 hc16).symm), N0, rfl⟩ rfl (fun fs hr => pr15 _ (by
          show Sx p e below s₁ m 24 #[iv qi1, iv 1, iv (-10000000 : Int32), iv 7] [(.int (-10000000 : Int32)), .int qi1] _
          refine zn X0 Bd d21_24 (XT.ii_le_f (hc16 : (-10000000 : Int32) < qi1)) ?_
          refine zj X0 Bd d21_27 rfl ?_
          refine zj X0 Bd d21_28 rfl ?_
          refine XS.iadd X0.here hx rfl (hb hby d21_29) rfl ?_
          exact retI X0 hx Bd.returns (hb hby d21_30) hr))
        ·
         skip
         have pr17 : Pr p e below s₁ m 24 #[iv qi1, iv 1, iv (-100000000 : Int32), iv 8] [(.int (-100000000 : Int32)), .int qi1] s₁ (entryFrame m #[.int qi1] 4) := fun t k => pr15 t (by
          show Sx p e below s₁ m 24 #[iv qi1, iv 1, iv (-10000000 : Int32), iv 7] [(.int (-10000000 : Int32)), .int qi1] _
          refine zy (pc' := 31) X0 Bd d21_24 (XT.ii_le_t (hc16 : ¬ ((-10000000 : Int32) < qi1))) rfl ?_
          refine zd X0 Bd d21_31 ?_
          refine zj X0 Bd d21_33 rfl ?_
          refine XS.imul X0.here hx rfl (hb hby d21_34) rfl ?_
          refine zt X0 Bd d21_35 (l' := #[iv qi1, iv 1, iv (-100000000 : Int32), iv 7]) rfl ?_
          refine XS.iinc X0.here hx rfl (hb hby d21_36) rfl (l' := #[iv qi1, iv 1, iv (-100000000 : Int32), iv 8]) rfl ?_
          refine zg (pc' := 16) X0 Bd d21_39 rfl ?_
          refine zj X0 Bd d21_16 rfl ?_
          refine zd X0 Bd d21_17 ?_
          refine zn X0 Bd d21_19 (XT.ii_ge_f ((by decide) : (8 : Int32) < (10 : Int32))) ?_
          refine zj X0 Bd d21_22 rfl ?_
          refine zj X0 Bd d21_23 rfl ?_
          exact k)
         by_cases hc18 : (-100000000 : Int32) < qi1
         ·
          skip
          refine own_lvF X0 Bd (.int 9) e0 ⟨(congrArg (fun z => some (Value.int z)) (own_ssN8 hc2 hc16 hc18).symm), N0, rfl⟩ rfl (fun fs hr => pr17 _ (by
           show Sx p e below s₁ m 24 #[iv qi1, iv 1, iv (-100000000 : Int32), iv 8] [(.int (-100000000 : Int32)), .int qi1] _
           refine zn X0 Bd d21_24 (XT.ii_le_f (hc18 : (-100000000 : Int32) < qi1)) ?_
           refine zj X0 Bd d21_27 rfl ?_
           refine zj X0 Bd d21_28 rfl ?_
           refine XS.iadd X0.here hx rfl (hb hby d21_29) rfl ?_
           exact retI X0 hx Bd.returns (hb hby d21_30) hr))
         ·
          skip
          have pr19 : Pr p e below s₁ m 24 #[iv qi1, iv 1, iv (-1000000000 : Int32), iv 9] [(.int (-1000000000 : Int32)), .int qi1] s₁ (entryFrame m #[.int qi1] 4) := fun t k => pr17 t (by
           show Sx p e below s₁ m 24 #[iv qi1, iv 1, iv (-100000000 : Int32), iv 8] [(.int (-100000000 : Int32)), .int qi1] _
           refine zy (pc' := 31) X0 Bd d21_24 (XT.ii_le_t (hc18 : ¬ ((-100000000 : Int32) < qi1))) rfl ?_
           refine zd X0 Bd d21_31 ?_
           refine zj X0 Bd d21_33 rfl ?_
           refine XS.imul X0.here hx rfl (hb hby d21_34) rfl ?_
           refine zt X0 Bd d21_35 (l' := #[iv qi1, iv 1, iv (-1000000000 : Int32), iv 8]) rfl ?_
           refine XS.iinc X0.here hx rfl (hb hby d21_36) rfl (l' := #[iv qi1, iv 1, iv (-1000000000 : Int32), iv 9]) rfl ?_
           refine zg (pc' := 16) X0 Bd d21_39 rfl ?_
           refine zj X0 Bd d21_16 rfl ?_
           refine zd X0 Bd d21_17 ?_
           refine zn X0 Bd d21_19 (XT.ii_ge_f ((by decide) : (9 : Int32) < (10 : Int32))) ?_
           refine zj X0 Bd d21_22 rfl ?_
           refine zj X0 Bd d21_23 rfl ?_
           exact k)
          by_cases hc20 : (-1000000000 : Int32) < qi1
          ·
           skip
           refine own_lvF X0 Bd (.int 10) e0 ⟨(congrArg (fun z => some (Value.int z)) (own_ssN9 hc2 hc18 hc20).symm), N0, rfl⟩ rfl (fun fs hr => pr19 _ (by
            show Sx p e below s₁ m 24 #[iv qi1, iv 1, iv (-1000000000 : Int32), iv 9] [(.int (-1000000000 : Int32)), .int qi1] _
            refine zn X0 Bd d21_24 (XT.ii_le_f (hc20 : (-1000000000 : Int32) < qi1)) ?_
            refine zj X0 Bd d21_27 rfl ?_
            refine zj X0 Bd d21_28 rfl ?_
            refine XS.iadd X0.here hx rfl (hb hby d21_29) rfl ?_
            exact retI X0 hx Bd.returns (hb hby d21_30) hr))
          ·
           skip
           refine own_lvF X0 Bd (.int 11) e0 ⟨(congrArg (fun z => some (Value.int z)) (own_ssN10 hc2 hc20).symm), N0, rfl⟩ rfl (fun fs hr => pr19 _ (by
            show Sx p e below s₁ m 24 #[iv qi1, iv 1, iv (-1000000000 : Int32), iv 9] [(.int (-1000000000 : Int32)), .int qi1] _
            refine zy (pc' := 31) X0 Bd d21_24 (XT.ii_le_t (hc20 : ¬ ((-1000000000 : Int32) < qi1))) rfl ?_
            refine zd X0 Bd d21_31 ?_
            refine zj X0 Bd d21_33 rfl ?_
            refine XS.imul X0.here hx rfl (hb hby d21_34) rfl ?_
            refine zt X0 Bd d21_35 (l' := #[iv qi1, iv 1, iv (-1410065408 : Int32), iv 9]) rfl ?_
            refine XS.iinc X0.here hx rfl (hb hby d21_36) rfl (l' := #[iv qi1, iv 1, iv (-1410065408 : Int32), iv 10]) rfl ?_
            refine zg (pc' := 16) X0 Bd d21_39 rfl ?_
            refine zj X0 Bd d21_16 rfl ?_
            refine zd X0 Bd d21_17 ?_
            refine zy (pc' := 42) X0 Bd d21_19 (XT.ii_ge_t ((by decide) : ¬ ((10 : Int32) < (10 : Int32)))) rfl ?_
            refine zd X0 Bd d21_42 ?_
            refine zj X0 Bd d21_44 rfl ?_
            refine XS.iadd X0.here hx rfl (hb hby d21_45) rfl ?_
            exact retI X0 hx Bd.returns (hb hby d21_46) hr))
 ·
  skip
  have pr21 : Pr p e below s₁ m 24 #[iv (-qi1), iv 0, iv (-10 : Int32), iv 1] [(.int (-10 : Int32)), (.int (-qi1))] s₁ (entryFrame m #[.int qi1] 4) := fun t k => pr1 t (by
   show Sx p e below s₁ m 3 #[iv qi1, iv 1, .unset, .unset] [.int qi1] _
   refine zo X0 Bd d21_3 (XT.i0_lt_f (hc2 : ¬ (qi1 < (0 : Int32)))) ?_
   refine zc X0 Bd d21_6 ?_
   refine zt X0 Bd d21_7 (l' := #[iv qi1, iv 0, .unset, .unset]) rfl ?_
   refine zj X0 Bd d21_8 rfl ?_
   refine XS.ineg X0.here hx rfl (hb hby d21_9) rfl ?_
   refine zt X0 Bd d21_10 (l' := #[iv (-qi1), iv 0, .unset, .unset]) rfl ?_
   refine zd X0 Bd d21_11 ?_
   refine zt X0 Bd d21_13 (l' := #[iv (-qi1), iv 0, iv (-10 : Int32), .unset]) rfl ?_
   refine zc X0 Bd d21_14 ?_
   refine zt X0 Bd d21_15 (l' := #[iv (-qi1), iv 0, iv (-10 : Int32), iv 1]) rfl ?_
   refine zj X0 Bd d21_16 rfl ?_
   refine zd X0 Bd d21_17 ?_
   refine zn X0 Bd d21_19 (XT.ii_ge_f ((by decide) : (1 : Int32) < (10 : Int32))) ?_
   refine zj X0 Bd d21_22 rfl ?_
   refine zj X0 Bd d21_23 rfl ?_
   exact k)
  by_cases hc22 : (-10 : Int32) < (-qi1)
  ·
   skip
   refine own_lvF X0 Bd (.int 1) e0 ⟨(congrArg (fun z => some (Value.int z)) (own_ssP1 hc2 hc22).symm), N0, rfl⟩ rfl (fun fs hr => pr21 _ (by
    show Sx p e below s₁ m 24 #[iv (-qi1), iv 0, iv (-10 : Int32), iv 1] [(.int (-10 : Int32)), (.int (-qi1))] _
    refine zn X0 Bd d21_24 (XT.ii_le_f (hc22 : (-10 : Int32) < (-qi1))) ?_
    refine zj X0 Bd d21_27 rfl ?_
    refine zj X0 Bd d21_28 rfl ?_
    refine XS.iadd X0.here hx rfl (hb hby d21_29) rfl ?_
    exact retI X0 hx Bd.returns (hb hby d21_30) hr))
  ·
   skip
   have pr23 : Pr p e below s₁ m 24 #[iv (-qi1), iv 0, iv (-100 : Int32), iv 2] [(.int (-100 : Int32)), (.int (-qi1))] s₁ (entryFrame m #[.int qi1] 4) := fun t k => pr21 t (by
    show Sx p e below s₁ m 24 #[iv (-qi1), iv 0, iv (-10 : Int32), iv 1] [(.int (-10 : Int32)), (.int (-qi1))] _
    refine zy (pc' := 31) X0 Bd d21_24 (XT.ii_le_t (hc22 : ¬ ((-10 : Int32) < (-qi1)))) rfl ?_
    refine zd X0 Bd d21_31 ?_
    refine zj X0 Bd d21_33 rfl ?_
    refine XS.imul X0.here hx rfl (hb hby d21_34) rfl ?_
    refine zt X0 Bd d21_35 (l' := #[iv (-qi1), iv 0, iv (-100 : Int32), iv 1]) rfl ?_
    refine XS.iinc X0.here hx rfl (hb hby d21_36) rfl (l' := #[iv (-qi1), iv 0, iv (-100 : Int32), iv 2]) rfl ?_
    refine zg (pc' := 16) X0 Bd d21_39 rfl ?_
    refine zj X0 Bd d21_16 rfl ?_
    refine zd X0 Bd d21_17 ?_
    refine zn X0 Bd d21_19 (XT.ii_ge_f ((by decide) : (2 : Int32) < (10 : Int32))) ?_
    refine zj X0 Bd d21_22 rfl ?_
    refine zj X0 Bd d21_23 rfl ?_
    exact k)
   by_cases hc24 : (-100 : Int32) < (-qi1)
   ·
    skip
    refine own_lvF X0 Bd (.int 2) e0 ⟨(congrArg (fun z => some (Value.int z)) (own_ssP2 hc2 hc22 hc24).symm), N0, rfl⟩ rfl (fun fs hr => pr23 _ (by
     show Sx p e below s₁ m 24 #[iv (-qi1), iv 0, iv (-100 : Int32), iv 2] [(.int (-100 : Int32)), (.int (-qi1))] _
     refine zn X0 Bd d21_24 (XT.ii_le_f (hc24 : (-100 : Int32) < (-qi1))) ?_
     refine zj X0 Bd d21_27 rfl ?_
     refine zj X0 Bd d21_28 rfl ?_
     refine XS.iadd X0.here hx rfl (hb hby d21_29) rfl ?_
     exact retI X0 hx Bd.returns (hb hby d21_30) hr))
   ·
    skip
    have pr25 : Pr p e below s₁ m 24 #[iv (-qi1), iv 0, iv (-1000 : Int32), iv 3] [(.int (-1000 : Int32)), (.int (-qi1))] s₁ (entryFrame m #[.int qi1] 4) := fun t k => pr23 t (by
     show Sx p e below s₁ m 24 #[iv (-qi1), iv 0, iv (-100 : Int32), iv 2] [(.int (-100 : Int32)), (.int (-qi1))] _
     refine zy (pc' := 31) X0 Bd d21_24 (XT.ii_le_t (hc24 : ¬ ((-100 : Int32) < (-qi1)))) rfl ?_
     refine zd X0 Bd d21_31 ?_
     refine zj X0 Bd d21_33 rfl ?_
     refine XS.imul X0.here hx rfl (hb hby d21_34) rfl ?_
     refine zt X0 Bd d21_35 (l' := #[iv (-qi1), iv 0, iv (-1000 : Int32), iv 2]) rfl ?_
     refine XS.iinc X0.here hx rfl (hb hby d21_36) rfl (l' := #[iv (-qi1), iv 0, iv (-1000 : Int32), iv 3]) rfl ?_
     refine zg (pc' := 16) X0 Bd d21_39 rfl ?_
     refine zj X0 Bd d21_16 rfl ?_
     refine zd X0 Bd d21_17 ?_
     refine zn X0 Bd d21_19 (XT.ii_ge_f ((by decide) : (3 : Int32) < (10 : Int32))) ?_
     refine zj X0 Bd d21_22 rfl ?_
     refine zj X0 Bd d21_23 rfl ?_
     exact k)
    by_cases hc26 : (-1000 : Int32) < (-qi1)
    ·
     skip
     refine own_lvF X0 Bd (.int 3) e0 ⟨(congrArg (fun z => some (Value.int z)) (own_ssP3 hc2 hc24 hc26).symm), N0, rfl⟩ rfl (fun fs hr => pr25 _ (by
      show Sx p e below s₁ m 24 #[iv (-qi1), iv 0, iv (-1000 : Int32), iv 3] [(.int (-1000 : Int32)), (.int (-qi1))] _
      refine zn X0 Bd d21_24 (XT.ii_le_f (hc26 : (-1000 : Int32) < (-qi1))) ?_
      refine zj X0 Bd d21_27 rfl ?_
      refine zj X0 Bd d21_28 rfl ?_
      refine XS.iadd X0.here hx rfl (hb hby d21_29) rfl ?_
      exact retI X0 hx Bd.returns (hb hby d21_30) hr))
    ·
     skip
     have pr27 : Pr p e below s₁ m 24 #[iv (-qi1), iv 0, iv (-10000 : Int32), iv 4] [(.int (-10000 : Int32)), (.int (-qi1))] s₁ (entryFrame m #[.int qi1] 4) := fun t k => pr25 t (by
      show Sx p e below s₁ m 24 #[iv (-qi1), iv 0, iv (-1000 : Int32), iv 3] [(.int (-1000 : Int32)), (.int (-qi1))] _
      refine zy (pc' := 31) X0 Bd d21_24 (XT.ii_le_t (hc26 : ¬ ((-1000 : Int32) < (-qi1)))) rfl ?_
      refine zd X0 Bd d21_31 ?_
      refine zj X0 Bd d21_33 rfl ?_
      refine XS.imul X0.here hx rfl (hb hby d21_34) rfl ?_
      refine zt X0 Bd d21_35 (l' := #[iv (-qi1), iv 0, iv (-10000 : Int32), iv 3]) rfl ?_
      refine XS.iinc X0.here hx rfl (hb hby d21_36) rfl (l' := #[iv (-qi1), iv 0, iv (-10000 : Int32), iv 4]) rfl ?_
      refine zg (pc' := 16) X0 Bd d21_39 rfl ?_
      refine zj X0 Bd d21_16 rfl ?_
      refine zd X0 Bd d21_17 ?_
      refine zn X0 Bd d21_19 (XT.ii_ge_f ((by decide) : (4 : Int32) < (10 : Int32))) ?_
      refine zj X0 Bd d21_22 rfl ?_
      refine zj X0 Bd d21_23 rfl ?_
      exact k)
     by_cases hc28 : (-10000 : Int32) < (-qi1)
     ·
      skip
      refine own_lvF X0 Bd (.int 4) e0 ⟨(congrArg (fun z => some (Value.int z)) (own_ssP4 hc2 hc26 hc28).symm), N0, rfl⟩ rfl (fun fs hr => pr27 _ (by
       show Sx p e below s₁ m 24 #[iv (-qi1), iv 0, iv (-10000 : Int32), iv 4] [(.int (-10000 : Int32)), (.int (-qi1))] _
       refine zn X0 Bd d21_24 (XT.ii_le_f (hc28 : (-10000 : Int32) < (-qi1))) ?_
       refine zj X0 Bd d21_27 rfl ?_
       refine zj X0 Bd d21_28 rfl ?_
       refine XS.iadd X0.here hx rfl (hb hby d21_29) rfl ?_
       exact retI X0 hx Bd.returns (hb hby d21_30) hr))
     ·
      skip
      have pr29 : Pr p e below s₁ m 24 #[iv (-qi1), iv 0, iv (-100000 : Int32), iv 5] [(.int (-100000 : Int32)), (.int (-qi1))] s₁ (entryFrame m #[.int qi1] 4) := fun t k => pr27 t (by
       show Sx p e below s₁ m 24 #[iv (-qi1), iv 0, iv (-10000 : Int32), iv 4] [(.int (-10000 : Int32)), (.int (-qi1))] _
       refine zy (pc' := 31) X0 Bd d21_24 (XT.ii_le_t (hc28 : ¬ ((-10000 : Int32) < (-qi1)))) rfl ?_
       refine zd X0 Bd d21_31 ?_
       refine zj X0 Bd d21_33 rfl ?_
       refine XS.imul X0.here hx rfl (hb hby d21_34) rfl ?_
       refine zt X0 Bd d21_35 (l' := #[iv (-qi1), iv 0, iv (-100000 : Int32), iv 4]) rfl ?_
       refine XS.iinc X0.here hx rfl (hb hby d21_36) rfl (l' := #[iv (-qi1), iv 0, iv (-100000 : Int32), iv 5]) rfl ?_
       refine zg (pc' := 16) X0 Bd d21_39 rfl ?_
       refine zj X0 Bd d21_16 rfl ?_
       refine zd X0 Bd d21_17 ?_
       refine zn X0 Bd d21_19 (XT.ii_ge_f ((by decide) : (5 : Int32) < (10 : Int32))) ?_
       refine zj X0 Bd d21_22 rfl ?_
       refine zj X0 Bd d21_23 rfl ?_
       exact k)
      by_cases hc30 : (-100000 : Int32) < (-qi1)
      ·
       skip
       refine own_lvF X0 Bd (.int 5) e0 ⟨(congrArg (fun z => some (Value.int z)) (own_ssP5 hc2 hc28 hc30).symm), N0, rfl⟩ rfl (fun fs hr => pr29 _ (by
        show Sx p e below s₁ m 24 #[iv (-qi1), iv 0, iv (-100000 : Int32), iv 5] [(.int (-100000 : Int32)), (.int (-qi1))] _
        refine zn X0 Bd d21_24 (XT.ii_le_f (hc30 : (-100000 : Int32) < (-qi1))) ?_
        refine zj X0 Bd d21_27 rfl ?_
        refine zj X0 Bd d21_28 rfl ?_
        refine XS.iadd X0.here hx rfl (hb hby d21_29) rfl ?_
        exact retI X0 hx Bd.returns (hb hby d21_30) hr))
      ·
       skip
       have pr31 : Pr p e below s₁ m 24 #[iv (-qi1), iv 0, iv (-1000000 : Int32), iv 6] [(.int (-1000000 : Int32)), (.int (-qi1))] s₁ (entryFrame m #[.int qi1] 4) := fun t k => pr29 t (by
        show Sx p e below s₁ m 24 #[iv (-qi1), iv 0, iv (-100000 : Int32), iv 5] [(.int (-100000 : Int32)), (.int (-qi1))] _
        refine zy (pc' := 31) X0 Bd d21_24 (XT.ii_le_t (hc30 : ¬ ((-100000 : Int32) < (-qi1)))) rfl ?_
        refine zd X0 Bd d21_31 ?_
        refine zj X0 Bd d21_33 rfl ?_
        refine XS.imul X0.here hx rfl (hb hby d21_34) rfl ?_
        refine zt X0 Bd d21_35 (l' := #[iv (-qi1), iv 0, iv (-1000000 : Int32), iv 5]) rfl ?_
        refine XS.iinc X0.here hx rfl (hb hby d21_36) rfl (l' := #[iv (-qi1), iv 0, iv (-1000000 : Int32), iv 6]) rfl ?_
        refine zg (pc' := 16) X0 Bd d21_39 rfl ?_
        refine zj X0 Bd d21_16 rfl ?_
        refine zd X0 Bd d21_17 ?_
        refine zn X0 Bd d21_19 (XT.ii_ge_f ((by decide) : (6 : Int32) < (10 : Int32))) ?_
        refine zj X0 Bd d21_22 rfl ?_
        refine zj X0 Bd d21_23 rfl ?_
        exact k)
       by_cases hc32 : (-1000000 : Int32) < (-qi1)
       ·
        skip
        refine own_lvF X0 Bd (.int 6) e0 ⟨(congrArg (fun z => some (Value.int z)) (own_ssP6 hc2 hc30 hc32).symm), N0, rfl⟩ rfl (fun fs hr => pr31 _ (by
         show Sx p e below s₁ m 24 #[iv (-qi1), iv 0, iv (-1000000 : Int32), iv 6] [(.int (-1000000 : Int32)), (.int (-qi1))] _
         refine zn X0 Bd d21_24 (XT.ii_le_f (hc32 : (-1000000 : Int32) < (-qi1))) ?_
         refine zj X0 Bd d21_27 rfl ?_
         refine zj X0 Bd d21_28 rfl ?_
         refine XS.iadd X0.here hx rfl (hb hby d21_29) rfl ?_
         exact retI X0 hx Bd.returns (hb hby d21_30) hr))
       ·
        skip
        have pr33 : Pr p e below s₁ m 24 #[iv (-qi1), iv 0, iv (-10000000 : Int32), iv 7] [(.int (-10000000 : Int32)), (.int (-qi1))] s₁ (entryFrame m #[.int qi1] 4) := fun t k => pr31 t (by
         show Sx p e below s₁ m 24 #[iv (-qi1), iv 0, iv (-1000000 : Int32), iv 6] [(.int (-1000000 : Int32)), (.int (-qi1))] _
         refine zy (pc' := 31) X0 Bd d21_24 (XT.ii_le_t (hc32 : ¬ ((-1000000 : Int32) < (-qi1)))) rfl ?_
         refine zd X0 Bd d21_31 ?_
         refine zj X0 Bd d21_33 rfl ?_
         refine XS.imul X0.here hx rfl (hb hby d21_34) rfl ?_
         refine zt X0 Bd d21_35 (l' := #[iv (-qi1), iv 0, iv (-10000000 : Int32), iv 6]) rfl ?_
         refine XS.iinc X0.here hx rfl (hb hby d21_36) rfl (l' := #[iv (-qi1), iv 0, iv (-10000000 : Int32), iv 7]) rfl ?_
         refine zg (pc' := 16) X0 Bd d21_39 rfl ?_
         refine zj X0 Bd d21_16 rfl ?_
         refine zd X0 Bd d21_17 ?_
         refine zn X0 Bd d21_19 (XT.ii_ge_f ((by decide) : (7 : Int32) < (10 : Int32))) ?_
         refine zj X0 Bd d21_22 rfl ?_
         refine zj X0 Bd d21_23 rfl ?_
         exact k)
        by_cases hc34 : (-10000000 : Int32) < (-qi1)
        ·
         skip
         refine own_lvF X0 Bd (.int 7) e0 ⟨(congrArg (fun z => some (Value.int z)) (own_ssP7 hc2 hc32 hc34).symm), N0, rfl⟩ rfl (fun fs hr => pr33 _ (by
          show Sx p e below s₁ m 24 #[iv (-qi1), iv 0, iv (-10000000 : Int32), iv 7] [(.int (-10000000 : Int32)), (.int (-qi1))] _
          refine zn X0 Bd d21_24 (XT.ii_le_f (hc34 : (-10000000 : Int32) < (-qi1))) ?_
          refine zj X0 Bd d21_27 rfl ?_
          refine zj X0 Bd d21_28 rfl ?_
          refine XS.iadd X0.here hx rfl (hb hby d21_29) rfl ?_
          exact retI X0 hx Bd.returns (hb hby d21_30) hr))
        ·
         skip
         have pr35 : Pr p e below s₁ m 24 (l5_ qi1) [(.int (-100000000 : Int32)), (.int (-qi1))] s₁ (entryFrame m #[.int qi1] 4) := fun t k => pr33 t (by
          show Sx p e below s₁ m 24 #[iv (-qi1), iv 0, iv (-10000000 : Int32), iv 7] [(.int (-10000000 : Int32)), (.int (-qi1))] _
          refine zy (pc' := 31) X0 Bd d21_24 (XT.ii_le_t (hc34 : ¬ ((-10000000 : Int32) < (-qi1)))) rfl ?_
          refine zd X0 Bd d21_31 ?_
          refine zj X0 Bd d21_33 rfl ?_
          refine XS.imul X0.here hx rfl (hb hby d21_34) rfl ?_
          refine zt X0 Bd d21_35 (l' := #[iv (-qi1), iv 0, iv (-100000000 : Int32), iv 7]) rfl ?_
          refine XS.iinc X0.here hx rfl (hb hby d21_36) rfl (l' := (l5_ qi1)) rfl ?_
          refine zg (pc' := 16) X0 Bd d21_39 rfl ?_
          refine zj X0 Bd d21_16 rfl ?_
          refine zd X0 Bd d21_17 ?_
          refine zn X0 Bd d21_19 (XT.ii_ge_f ((by decide) : (8 : Int32) < (10 : Int32))) ?_
          refine zj X0 Bd d21_22 rfl ?_
          refine zj X0 Bd d21_23 rfl ?_
          exact k)
         by_cases hc36 : (-100000000 : Int32) < (-qi1)
         ·
          skip
          refine own_lvF X0 Bd (.int 8) e0 ⟨(congrArg (fun z => some (Value.int z)) (own_ssP8 hc2 hc34 hc36).symm), N0, rfl⟩ rfl (fun fs hr => pr35 _ (by
           show Sx p e below s₁ m 24 (l5_ qi1) [(.int (-100000000 : Int32)), (.int (-qi1))] _
           refine zn X0 Bd d21_24 (XT.ii_le_f (hc36 : (-100000000 : Int32) < (-qi1))) ?_
           refine zj X0 Bd d21_27 rfl ?_
           refine zj X0 Bd d21_28 rfl ?_
           refine XS.iadd X0.here hx rfl (hb hby d21_29) rfl ?_
           exact retI X0 hx Bd.returns (hb hby d21_30) hr))
         ·
          skip
          have pr37 : Pr p e below s₁ m 24 (l4_ qi1) [(.int (-1000000000 : Int32)), (.int (-qi1))] s₁ (entryFrame m #[.int qi1] 4) := fun t k => pr35 t (by
           show Sx p e below s₁ m 24 (l5_ qi1) [(.int (-100000000 : Int32)), (.int (-qi1))] _
           refine zy (pc' := 31) X0 Bd d21_24 (XT.ii_le_t (hc36 : ¬ ((-100000000 : Int32) < (-qi1)))) rfl ?_
           refine zd X0 Bd d21_31 ?_
           refine zj X0 Bd d21_33 rfl ?_
           refine XS.imul X0.here hx rfl (hb hby d21_34) rfl ?_
           refine zt X0 Bd d21_35 (l' := #[iv (-qi1), iv 0, iv (-1000000000 : Int32), iv 8]) rfl ?_
           refine XS.iinc X0.here hx rfl (hb hby d21_36) rfl (l' := (l4_ qi1)) rfl ?_
           refine zg (pc' := 16) X0 Bd d21_39 rfl ?_
           refine zj X0 Bd d21_16 rfl ?_
           refine zd X0 Bd d21_17 ?_
           refine zn X0 Bd d21_19 (XT.ii_ge_f ((by decide) : (9 : Int32) < (10 : Int32))) ?_
           refine zj X0 Bd d21_22 rfl ?_
           refine zj X0 Bd d21_23 rfl ?_
           exact k)
          by_cases hc38 : (-1000000000 : Int32) < (-qi1)
          ·
           skip
           refine own_lvF X0 Bd (.int 9) e0 ⟨(congrArg (fun z => some (Value.int z)) (own_ssP9 hc2 hc36 hc38).symm), N0, rfl⟩ rfl (fun fs hr => pr37 _ (by
            show Sx p e below s₁ m 24 (l4_ qi1) [(.int (-1000000000 : Int32)), (.int (-qi1))] _
            refine zn X0 Bd d21_24 (XT.ii_le_f (hc38 : (-1000000000 : Int32) < (-qi1))) ?_
            refine zj X0 Bd d21_27 rfl ?_
            refine zj X0 Bd d21_28 rfl ?_
            refine XS.iadd X0.here hx rfl (hb hby d21_29) rfl ?_
            exact retI X0 hx Bd.returns (hb hby d21_30) hr))
          ·
           skip
           refine own_lvF X0 Bd (.int 10) e0 ⟨(congrArg (fun z => some (Value.int z)) (own_ssP10 hc2 hc38).symm), N0, rfl⟩ rfl (fun fs hr => pr37 _ (by
            show Sx p e below s₁ m 24 (l4_ qi1) [(.int (-1000000000 : Int32)), (.int (-qi1))] _
            refine zy (pc' := 31) X0 Bd d21_24 (XT.ii_le_t (hc38 : ¬ ((-1000000000 : Int32) < (-qi1)))) rfl ?_
            refine zd X0 Bd d21_31 ?_
            refine zj X0 Bd d21_33 rfl ?_
            refine XS.imul X0.here hx rfl (hb hby d21_34) rfl ?_
            refine zt X0 Bd d21_35 (l' := #[iv (-qi1), iv 0, iv (-1410065408 : Int32), iv 9]) rfl ?_
            refine XS.iinc X0.here hx rfl (hb hby d21_36) rfl (l' := #[iv (-qi1), iv 0, iv (-1410065408 : Int32), iv 10]) rfl ?_
            refine zg (pc' := 16) X0 Bd d21_39 rfl ?_
            refine zj X0 Bd d21_16 rfl ?_
            refine zd X0 Bd d21_17 ?_
            refine zy (pc' := 42) X0 Bd d21_19 (XT.ii_ge_t ((by decide) : ¬ ((10 : Int32) < (10 : Int32)))) rfl ?_
            refine zd X0 Bd d21_42 ?_
            refine zj X0 Bd d21_44 rfl ?_
            refine XS.iadd X0.here hx rfl (hb hby d21_45) rfl ?_
            exact retI X0 hx Bd.returns (hb hby d21_46) hr))
theorem d20_10 : D C24_ 10 .iadd 1 := by decide +kernel
theorem d20_11 : D C24_ 11 (.istore_n 3) 1 := by decide +kernel
theorem d20_12 : D C24_ 12 (.aload_n 0) 1 := by decide +kernel
theorem d20_13 : D C24_ 13 (.iload_n 3) 1 := by decide +kernel
theorem d20_14 : D C24_ 14 (.invokevirtual 100) 3 := by decide +kernel
-- java/lang/AbstractStringBuilder.ensureCapacityInternal(I)V
def Q20 (Z : State)  (h0 : Heap) (n0 : Nat) : QT := fun v h L => v = none ∧ Fr n0 L ∧ h = h0
theorem rm20 (hw : HW a0 Z) (qa1 : Addr) (qi2 : Int32) (qa3 : Addr) (qk4 : ClassId) (qc5 : List Int32) (h0 : Heap) (n0 : Nat) (X00 : Old Z n0 h0) (F_qa1_value : VA Z h0 qa1 qa3) (A_qa3 : PA Z h0 qa3 qk4 .byte (34 : Int32) qc5) (F_qa1_coder : VC Z h0 qa1) (hc4 : ¬ ((0 : Int32) < (qi2 - (34 : Int32)))) :
    MF l Z Y11_ jdk_68_method_9_code 3 none (Rm 0 0 0 0) #[.ref qa1, .int qi2] h0 (Q20 Z  h0 n0) := by
 refine own_sF pn3 rfl (fun m => ef9 m qa1 qi2) ?_
 intro p e s m below meth c s₁ Bd hZ hh hx hby hml hown hnm X0 e0 pre0
 have N0 := Fr.nil n0
 obtain ⟨T1, X1, e1, st1⟩ := own_gF 1 #[rv qa1, iv qi2, .unset] [] X0 hx hZ hown (w81_ hw) Via.refl e0 F_qa1_value (hb hby d9_1)
 have av2 := A_qa3
 obtain ⟨cl2, Ar2, q2, S2, N2, H2, Gf2⟩ := av2
 obtain ⟨T3, X3, e3, st3⟩ := own_gF 6 #[rv qa1, iv qi2, .unset] [.int 34] X1 hx hZ hown (w83_ hw) Via.refl e1 F_qa1_coder (hb hby d9_6)
 refine own_lvN X3 Bd e3 ⟨rfl, N0, rfl⟩ rfl (fun fs hr => pre0 _ (by
  show Sx p e below s₁ m 0 #[rv qa1, iv qi2, .unset] [] _
  refine zb X0 Bd d9_0 rfl rfl ?_
  refine st1 _ ?_
  refine X1.arraylength hx (by rw [e1]; exact Ar2.1) (State.isArrayOf_alike hZ.alike Ar2.2.1) (g := (mkF m 4 #[rv qa1, iv qi2, .unset] [.ref qa3])) rfl rfl (hb hby d9_4) _ ?_
  rw [len_of S2 N2]
  refine zb X1 Bd d9_5 rfl rfl ?_
  refine st3 _ ?_
  refine XS.ishr X3.here hx rfl (hb hby d9_9) rfl ?_
  refine zt X3 Bd d9_10 (l' := #[rv qa1, iv qi2, iv 34]) rfl ?_
  refine zj X3 Bd d9_11 rfl ?_
  refine zj X3 Bd d9_12 rfl ?_
  refine XS.isub X3.here hx rfl (hb hby d9_13) rfl ?_
  refine zp (pc' := 38) X3 Bd d9_14 (XT.i0_le_t (hc4 : ¬ ((0 : Int32) < (qi2 - (34 : Int32))))) rfl ?_
  exact X3.returnOut hx Bd.returns (hb hby d9_38) hr))
theorem d20_17 : D C24_ 17 (.aload_n 0) 1 := by decide +kernel
theorem d20_18 : D C24_ 18 (.invokevirtual 83) 3 := by decide +kernel
theorem d22_0 : D C23_ 0 (.getstatic 18) 3 := by decide +kernel
theorem d22_3 : D C23_ 3 (.ifCond .eq 14) 3 := by decide +kernel
theorem d22_6 : D C23_ 6 (.aload_n 0) 1 := by decide +kernel
theorem d22_7 : D C23_ 7 (.getfield 22) 3 := by decide +kernel
theorem d22_10 : D C23_ 10 (.ifCond .ne 7) 3 := by decide +kernel
theorem d22_13 : D C23_ 13 (.iconst 1) 1 := by decide +kernel
theorem d22_14 : D C23_ 14 (.goto 4) 3 := by decide +kernel
theorem d22_18 : D C23_ 18 .ireturn 1 := by decide +kernel
-- java/lang/AbstractStringBuilder.isLatin1()Z
def Q21 (Z : State)  (h0 : Heap) (n0 : Nat) : QT := fun v h L => v = some (.int 1) ∧ Fr n0 L ∧ h = h0
theorem rm21 (hw : HW a0 Z) (G1 : Int32) (qa1 : Addr) (h0 : Heap) (n0 : Nat) (X00 : Old Z n0 h0) (O2 : CO Z G1) (P5 : NZ G1) (F_qa1_coder : VC Z h0 qa1) :
    MF l Z Y20_ jdk_68_method_68_code 1 (some .boolean) (Rm 0 0 0 0) #[.ref qa1] h0 (Q21 Z  h0 n0) := by
 refine own_sF pn3 rfl (fun m => ef5 m qa1) ?_
 intro p e s m below meth c s₁ Bd hZ hh hx hby hml hown hnm X0 e0 pre0
 have N0 := Fr.nil n0
 obtain ⟨T1, X1, e1, st1⟩ := getS2 X0 hx hZ hown (host := "") (Or.inl (w80_ hw)) Via.refl e0 (O2.ext X00.2) (g := (mkF m 0 #[rv qa1] [])) rfl (hb hby d22_0)
 obtain ⟨T2, X2, e2, st2⟩ := own_gF 7 #[rv qa1] [] X1 hx hZ hown (w83_ hw) Via.refl e1 F_qa1_coder (hb hby d22_7)
 refine own_lvF X2 Bd (.int 1) e2 ⟨rfl, N0, rfl⟩ rfl (fun fs hr => pre0 _ (by
  show Sx p e below s₁ m 0 #[rv qa1] [] _
  refine st1 _ ?_
  refine zo X1 Bd d22_3 (XT.i0_eq_f (P5 : ¬ (G1 = (0 : Int32)))) ?_
  refine zb X1 Bd d22_6 rfl rfl ?_
  refine st2 _ ?_
  refine zo X2 Bd d22_10 (XT.i0_ne_f ((by decide) : (0 : Int32) = (0 : Int32))) ?_
  refine zc X2 Bd d22_13 ?_
  refine zg (pc' := 18) X2 Bd d22_14 rfl ?_
  exact retN X2 hx (t := .boolean) Bd.returns (by simp) (hb hby d22_18) hr))
theorem pd17 : parseMethodDescriptor "()Z" = some ⟨[], some .boolean⟩ := by decide +kernel
theorem d20_21 : D C24_ 21 (.ifCond .eq 16) 3 := by decide +kernel
theorem d20_24 : D C24_ 24 (.iload_n 1) 1 := by decide +kernel
theorem d20_25 : D C24_ 25 (.iload_n 3) 1 := by decide +kernel
theorem d20_26 : D C24_ 26 (.aload_n 0) 1 := by decide +kernel
theorem d20_27 : D C24_ 27 (.getfield 15) 3 := by decide +kernel
theorem d20_30 : D C24_ 30 (.invokestatic 248) 3 := by decide +kernel
theorem ef17 (m : MethodId) (x0 : Int32) (x1 : Int32) (x2 : Addr) : entryFrame m #[.int x0, .int x1, .ref x2] 7 = mkF m 0 #[.val (.int x0), .val (.int x1), .val (.ref x2), .unset, .unset, .unset, .unset] [] := by first | (simp [entryFrame, mkF, argsToLocals, Value.category]; done) | rfl
theorem d23_0 : D C15_ 0 (.iload_n 1) 1 := by decide +kernel
theorem d23_1 : D C15_ 1 (.istore 5) 2 := by decide +kernel
theorem d23_3 : D C15_ 3 (.iload_n 0) 1 := by decide +kernel
theorem d23_4 : D C15_ 4 (.ifCond .ge 7) 3 := by decide +kernel
theorem d23_7 : D C15_ 7 (.iconst 1) 1 := by decide +kernel
theorem d23_8 : D C15_ 8 (.goto 4) 3 := by decide +kernel
theorem d23_12 : D C15_ 12 (.istore 6) 2 := by decide +kernel
theorem d23_14 : D C15_ 14 (.iload 6) 2 := by decide +kernel
theorem d23_16 : D C15_ 16 (.ifCond .ne 6) 3 := by decide +kernel
theorem d23_11 : D C15_ 11 (.iconst 0) 1 := by decide +kernel
theorem d23_19 : D C15_ 19 (.iload_n 0) 1 := by decide +kernel
theorem d23_20 : D C15_ 20 .ineg 1 := by decide +kernel
theorem d23_21 : D C15_ 21 (.istore_n 0) 1 := by decide +kernel
theorem d23_22 : D C15_ 22 (.iload_n 0) 1 := by decide +kernel
theorem d23_23 : D C15_ 23 (.bipush (-100)) 2 := by decide +kernel
theorem d23_25 : D C15_ 25 (.if_icmp .gt 47) 3 := by decide +kernel
theorem d23_28 : D C15_ 28 (.iload_n 0) 1 := by decide +kernel
theorem d23_29 : D C15_ 29 (.bipush 100) 2 := by decide +kernel
theorem d23_31 : D C15_ 31 .idiv 1 := by decide +kernel
theorem d23_32 : D C15_ 32 (.istore_n 3) 1 := by decide +kernel
theorem d23_33 : D C15_ 33 (.iload_n 3) 1 := by decide +kernel
theorem d23_34 : D C15_ 34 (.bipush 100) 2 := by decide +kernel
theorem d23_36 : D C15_ 36 .imul 1 := by decide +kernel
theorem d23_37 : D C15_ 37 (.iload_n 0) 1 := by decide +kernel
theorem d23_38 : D C15_ 38 .isub 1 := by decide +kernel
theorem d23_39 : D C15_ 39 (.istore 4) 2 := by decide +kernel
theorem d23_41 : D C15_ 41 (.iload_n 3) 1 := by decide +kernel
theorem d23_42 : D C15_ 42 (.istore_n 0) 1 := by decide +kernel
theorem d23_43 : D C15_ 43 (.aload_n 2) 1 := by decide +kernel
theorem d23_44 : D C15_ 44 (.iinc 5 (-1)) 3 := by decide +kernel
theorem d23_47 : D C15_ 47 (.iload 5) 2 := by decide +kernel
theorem d23_49 : D C15_ 49 (.getstatic 83) 3 := by decide +kernel
theorem d23_52 : D C15_ 52 (.iload 4) 2 := by decide +kernel
theorem d23_54 : D C15_ 54 .baload 1 := by decide +kernel
theorem d23_55 : D C15_ 55 .bastore 1 := by decide +kernel
theorem d23_56 : D C15_ 56 (.aload_n 2) 1 := by decide +kernel
theorem d23_57 : D C15_ 57 (.iinc 5 (-1)) 3 := by decide +kernel
theorem d23_60 : D C15_ 60 (.iload 5) 2 := by decide +kernel
theorem d23_62 : D C15_ 62 (.getstatic 87) 3 := by decide +kernel
theorem d23_65 : D C15_ 65 (.iload 4) 2 := by decide +kernel
theorem d23_67 : D C15_ 67 .baload 1 := by decide +kernel
theorem d23_68 : D C15_ 68 .bastore 1 := by decide +kernel
theorem d23_69 : D C15_ 69 (.goto (-47)) 3 := by decide +kernel
theorem d23_72 : D C15_ 72 (.aload_n 2) 1 := by decide +kernel
theorem d23_73 : D C15_ 73 (.iinc 5 (-1)) 3 := by decide +kernel
theorem d23_76 : D C15_ 76 (.iload 5) 2 := by decide +kernel
theorem d23_78 : D C15_ 78 (.getstatic 83) 3 := by decide +kernel
theorem d23_81 : D C15_ 81 (.iload_n 0) 1 := by decide +kernel
theorem d23_82 : D C15_ 82 .ineg 1 := by decide +kernel
theorem d23_83 : D C15_ 83 .baload 1 := by decide +kernel
theorem d23_84 : D C15_ 84 .bastore 1 := by decide +kernel
theorem d23_85 : D C15_ 85 (.iload_n 0) 1 := by decide +kernel
theorem d23_86 : D C15_ 86 (.bipush (-9)) 2 := by decide +kernel
theorem d23_88 : D C15_ 88 (.if_icmp .ge 16) 3 := by decide +kernel
theorem d23_91 : D C15_ 91 (.aload_n 2) 1 := by decide +kernel
theorem d23_92 : D C15_ 92 (.iinc 5 (-1)) 3 := by decide +kernel
theorem d23_95 : D C15_ 95 (.iload 5) 2 := by decide +kernel
theorem d23_97 : D C15_ 97 (.getstatic 87) 3 := by decide +kernel
theorem d23_100 : D C15_ 100 (.iload_n 0) 1 := by decide +kernel
theorem d23_101 : D C15_ 101 .ineg 1 := by decide +kernel
theorem d23_102 : D C15_ 102 .baload 1 := by decide +kernel
theorem d23_103 : D C15_ 103 .bastore 1 := by decide +kernel
theorem d23_104 : D C15_ 104 (.iload 6) 2 := by decide +kernel
theorem d23_106 : D C15_ 106 (.ifCond .eq 12) 3 := by decide +kernel
theorem d23_118 : D C15_ 118 (.iload 5) 2 := by decide +kernel
theorem d23_120 : D C15_ 120 .ireturn 1 := by decide +kernel
theorem d23_109 : D C15_ 109 (.aload_n 2) 1 := by decide +kernel
theorem d23_110 : D C15_ 110 (.iinc 5 (-1)) 3 := by decide +kernel
theorem d23_113 : D C15_ 113 (.iload 5) 2 := by decide +kernel
theorem d23_115 : D C15_ 115 (.bipush 45) 2 := by decide +kernel
theorem d23_117 : D C15_ 117 .bastore 1 := by decide +kernel
-- java/lang/Integer.getChars(II[B)I
def Q22 (Z : State) (qi1 : Int32) (qa3 : Addr) (qk4 : ClassId) (qi5 : Int32) (qc6 : List Int32) (h0 : Heap) (n0 : Nat) : QT := fun v h L => ∃ z_ : Int32, v = some (.int z_) ∧ Fr n0 L ∧ Keep h0 h [qa3] ∧ PA Z h qa3 qk4 .byte qi5 (qc6 ++ (own_dec qi1))
abbrev l6_ (k_ : Nat) (i_ : Int32) (qi2 : Int32) (qa3 : Addr) (ng_ : Int32) : Array Slot := #[iv (own_iq i_ k_), iv qi2, rv qa3, iv (own_iq i_ k_), iv (own_ir i_ 0), iv (own_dn qi2 2), iv ng_]
abbrev l7_ (k_ : Nat) (i_ : Int32) (qi2 : Int32) (qa3 : Addr) (ng_ : Int32) : Array Slot := #[iv (own_iq i_ k_), iv qi2, rv qa3, iv (own_iq i_ k_), iv (own_ir i_ 1), iv (own_dn qi2 4), iv ng_]
abbrev l8_ (k_ : Nat) (i_ : Int32) (qi2 : Int32) (qa3 : Addr) (ng_ : Int32) : Array Slot := #[iv (own_iq i_ k_), iv qi2, rv qa3, iv (own_iq i_ k_), iv (own_ir i_ 2), iv (own_dn qi2 6), iv ng_]
abbrev l9_ (k_ : Nat) (i_ : Int32) (qi2 : Int32) (qa3 : Addr) (ng_ : Int32) : Array Slot := #[iv (own_iq i_ k_), iv qi2, rv qa3, iv (own_iq i_ k_), iv (own_ir i_ 3), iv (own_dn qi2 8), iv ng_]
abbrev l10_ (k_ : Nat) (i_ : Int32) (qi2 : Int32) (qa3 : Addr) (ng_ : Int32) : Array Slot := #[iv (own_iq i_ k_), iv qi2, rv qa3, iv (own_iq i_ k_), iv (own_ir i_ 0), iv (own_dn qi2 1), iv ng_]
abbrev l11_ (k_ : Nat) (i_ : Int32) (qi2 : Int32) (qa3 : Addr) (ng_ : Int32) : Array Slot := #[iv (own_iq i_ k_), iv qi2, rv qa3, iv (own_iq i_ k_), iv (own_ir i_ 1), iv (own_dn qi2 3), iv ng_]
abbrev l12_ (k_ : Nat) (i_ : Int32) (qi2 : Int32) (qa3 : Addr) (ng_ : Int32) : Array Slot := #[iv (own_iq i_ k_), iv qi2, rv qa3, iv (own_iq i_ k_), iv (own_ir i_ 2), iv (own_dn qi2 5), iv ng_]
abbrev l13_ (k_ : Nat) (i_ : Int32) (qi2 : Int32) (qa3 : Addr) (ng_ : Int32) : Array Slot := #[iv (own_iq i_ k_), iv qi2, rv qa3, iv (own_iq i_ k_), iv (own_ir i_ 3), iv (own_dn qi2 7), iv ng_]
abbrev l14_ (qi1 : Int32) (qi2 : Int32) (qa3 : Addr) : Array Slot := #[iv qi1, iv qi2, rv qa3, .unset, .unset, iv qi2, .unset]
abbrev l15_ (i_ : Int32) (qi2 : Int32) (qa3 : Addr) (ng_ : Int32) : Array Slot := #[iv i_, iv qi2, rv qa3, .unset, .unset, iv qi2, iv ng_]
theorem rm22 (hw : HW a0 Z) (Gg0 : Addr) (Gg1 : Addr) (Kg2 : ClassId) (Kg3 : ClassId) (qi1 : Int32) (qi2 : Int32) (qa3 : Addr) (qk4 : ClassId) (qi5 : Int32) (qc6 : List Int32) (h0 : Heap) (n0 : Nat) (X00 : Old Z n0 h0) (hEN : OwnEN Z Gg0 Gg1 Kg2 Kg3) (A_qa3 : PA Z h0 qa3 qk4 .byte qi5 qc6) (hk1 : (qi2).toInt = (((qc6).length + (own_dec qi1).length : Nat) : Int)) (hk2 : (((qc6).length + (own_dec qi1).length : Nat) : Int) ≤ (qi5).toInt) (hk3 : (qc6).length ≤ 900) (g_qa3 : n0 ≤ qa3) :
    MF l Z Y21_ jdk_33_method_12_code 7 (some .int) (Rm 0 0 0 0) #[.int qi1, .int qi2, .ref qa3] h0 (Q22 Z qi1 qa3 qk4 qi5 qc6 h0 n0) := by
 refine own_sF pn7 rfl (fun m => ef17 m qi1 qi2 qa3) ?_
 intro p e s m below meth c s₁ Bd hZ hh hx hby hml hown hnm X0 e0 pre0
 have N0 := Fr.nil n0
 have pr4 : Pr p e below s₁ m 3 (l14_ qi1 qi2 qa3) [] s₁ (entryFrame m #[.int qi1, .int qi2, .ref qa3] 7) := fun t k => pre0 t (by
  show Sx p e below s₁ m 0 #[iv qi1, iv qi2, rv qa3, .unset, .unset, .unset, .unset] [] _
  refine zj X0 Bd d23_0 rfl ?_
  refine zs X0 Bd d23_1 (l' := (l14_ qi1 qi2 qa3)) rfl ?_
  exact k)
 refine cps (A := ∃ T5 : State, ∃ L5 : List Loc, ∃ h5 : Heap, ∃ i_ : Int32, ∃ ng_ : Int32, Stand p l e (Rm 0 0 0 0) s m #[.int qi1, .int qi2, .ref qa3] below meth c T5 L5 0 0 ∧ T5.heap = h5 ∧ Fr n0 L5 ∧ Keep h0 h5 [] ∧ (i_.toInt = -((own_abs qi1 : Nat) : Int) ∧ own_abs qi1 ≤ 2147483648) ∧ ((ng_ = (0 : Int32) ∧ ¬ qi1 < 0) ∨ (¬ ng_ = (0 : Int32) ∧ qi1 < 0)) ∧ Pr p e below T5 m 22 (l15_ i_ qi2 qa3 ng_) [] s₁ (entryFrame m #[.int qi1, .int qi2, .ref qa3] 7)) (fun kont5 => ?_) (fun hA5 => ?_)
 ·
  skip
  have pr6 : Pr p e below s₁ m 4 (l14_ qi1 qi2 qa3) [.int qi1] s₁ (entryFrame m #[.int qi1, .int qi2, .ref qa3] 7) := fun t k => pr4 t (by
   show Sx p e below s₁ m 3 (l14_ qi1 qi2 qa3) [] _
   refine zj X0 Bd d23_3 rfl ?_
   exact k)
  by_cases hc7 : qi1 < (0 : Int32)
  ·
   skip
   have pr8 : Pr p e below s₁ m 22 #[iv qi1, iv qi2, rv qa3, .unset, .unset, iv qi2, iv 1] [] s₁ (entryFrame m #[.int qi1, .int qi2, .ref qa3] 7) := fun t k => pr6 t (by
    show Sx p e below s₁ m 4 (l14_ qi1 qi2 qa3) [.int qi1] _
    refine zo X0 Bd d23_4 (XT.i0_ge_f (hc7 : qi1 < (0 : Int32))) ?_
    refine zc X0 Bd d23_7 ?_
    refine zg (pc' := 12) X0 Bd d23_8 rfl ?_
    refine zs X0 Bd d23_12 (l' := #[iv qi1, iv qi2, rv qa3, .unset, .unset, iv qi2, iv 1]) rfl ?_
    refine zi X0 Bd d23_14 rfl ?_
    refine zp (pc' := 22) X0 Bd d23_16 (XT.i0_ne_t ((by decide) : ¬ ((1 : Int32) = (0 : Int32)))) rfl ?_
    exact k)
   exact kont5 ⟨s₁, _, h0, qi1, (1 : Int32), (X0.mono (lE rfl) (lE rfl)), e0, N0, (Keep.refl h0 []), (own_absN hc7), (Or.inr ⟨by decide, hc7⟩), (fun t k => pr8 t k)⟩
  ·
   skip
   have pr9 : Pr p e below s₁ m 22 #[iv (-qi1), iv qi2, rv qa3, .unset, .unset, iv qi2, iv 0] [] s₁ (entryFrame m #[.int qi1, .int qi2, .ref qa3] 7) := fun t k => pr6 t (by
    show Sx p e below s₁ m 4 (l14_ qi1 qi2 qa3) [.int qi1] _
    refine zp (pc' := 11) X0 Bd d23_4 (XT.i0_ge_t (hc7 : ¬ (qi1 < (0 : Int32)))) rfl ?_
    refine zc X0 Bd d23_11 ?_
    refine zs X0 Bd d23_12 (l' := #[iv qi1, iv qi2, rv qa3, .unset, .unset, iv qi2, iv 0]) rfl ?_
    refine zi X0 Bd d23_14 rfl ?_
    refine zo X0 Bd d23_16 (XT.i0_ne_f ((by decide) : (0 : Int32) = (0 : Int32))) ?_
    refine zj X0 Bd d23_19 rfl ?_
    refine XS.ineg X0.here hx rfl (hb hby d23_20) rfl ?_
    refine zt X0 Bd d23_21 (l' := #[iv (-qi1), iv qi2, rv qa3, .unset, .unset, iv qi2, iv 0]) rfl ?_
    exact k)
   exact kont5 ⟨s₁, _, h0, (-qi1), (0 : Int32), (X0.mono (lE rfl) (lE rfl)), e0, N0, (Keep.refl h0 []), (own_absP hc7), (Or.inl ⟨rfl, hc7⟩), (fun t k => pr9 t k)⟩
 ·
  obtain ⟨T5, L5, h5, i_, ng_, X5, e5, N5, K5j, hp5_0, hp5_1, pr5⟩ := hA5
  have K10 := (Keep.refl h0 [qa3]).trans K5j (fun x q => nomatch q)
  have A11_ := A_qa3.keep K5j nin0
  have A12_ : PA Z h5 qa3 qk4 .byte qi5 (qc6 ++ List.replicate ((own_dec qi1).length - 0) 0 ++ (own_tg i_ 0)) := own_sub1 ((A11_).pad (own_repl (own_dec qi1).length qc6)) (List.append_nil _).symm
  refine cps (A := ∃ T13 : State, ∃ L13 : List Loc, ∃ h13 : Heap, ∃ i2_ : Int32, ∃ sl13_3 : Slot, ∃ sl13_4 : Slot, ∃ pos_ : Int32, ∃ t_ : Nat, Stand p l e (Rm 0 0 0 0) s m #[.int qi1, .int qi2, .ref qa3] below meth c T13 L13 0 0 ∧ T13.heap = h13 ∧ Fr n0 L13 ∧ Keep h5 h13 [qa3] ∧ PA Z h13 qa3 qk4 .byte qi5 (qc6 ++ List.replicate ((own_dec qi1).length - (2 * t_)) 0 ++ (own_tg i_ t_)) ∧ (sl13_3 = .unset ∨ ∃ w, sl13_3 = .val w ∧ w.category = 1) ∧ (sl13_4 = .unset ∨ ∃ w, sl13_4 = .val w ∧ w.category = 1) ∧ (i2_ = own_iq i_ t_) ∧ (pos_ = own_dn qi2 (2 * t_)) ∧ ((-100 : Int32) < own_iq i_ t_) ∧ (2 * t_ + 1 ≤ (own_dec qi1).length) ∧ (t_ ≤ 4) ∧ (t_ = 0 ∨ ¬ (-100 : Int32) < own_iq i_ (t_ - 1)) ∧ Pr p e below T13 m 72 #[iv i2_, iv qi2, rv qa3, sl13_3, sl13_4, iv pos_, iv ng_] [] s₁ (entryFrame m #[.int qi1, .int qi2, .ref qa3] 7)) (fun kont13 => ?_) (fun hA13 => ?_)
  ·
   skip
   have pr14 : Pr p e below T5 m 25 (l15_ i_ qi2 qa3 ng_) [(.int (-100 : Int32)), .int i_] s₁ (entryFrame m #[.int qi1, .int qi2, .ref qa3] 7) := fun t k => pr5 t (by
    show Sx p e below T5 m 22 (l15_ i_ qi2 qa3 ng_) [] _
    refine zj X5 Bd d23_22 rfl ?_
    refine zd X5 Bd d23_23 ?_
    exact k)
   by_cases hc15 : (-100 : Int32) < i_
   ·
    skip
    have pr16 : Pr p e below T5 m 72 (l15_ i_ qi2 qa3 ng_) [] s₁ (entryFrame m #[.int qi1, .int qi2, .ref qa3] 7) := fun t k => pr14 t (by
     show Sx p e below T5 m 25 (l15_ i_ qi2 qa3 ng_) [(.int (-100 : Int32)), .int i_] _
     refine zy (pc' := 72) X5 Bd d23_25 (XT.ii_gt_t (hc15 : (-100 : Int32) < i_)) rfl ?_
     exact k)
    exact kont13 ⟨T5, _, h5, i_, .unset, .unset, qi2, 0, (X5.mono (lE rfl) (lE rfl)), e5, N5, (Keep.refl h5 [qa3]), A12_, (Or.inl rfl), (Or.inl rfl), rfl, rfl, hc15, (own_dec_len qi1).1, (by decide), (Or.inl rfl), (fun t k => pr16 t k)⟩
   ·
    skip
    have O18 := X00.keep K5j all0
    obtain ⟨T17, X17, e17, st17⟩ := getS2 X5 hx hZ hown (host := "") (Or.inl (w179_ hw)) Via.refl e5 (hEN.1.ext O18.2) (g := (mkF m 49 (l10_ 1 i_ qi2 qa3 ng_) [(.int (own_dn qi2 1)), .ref qa3])) rfl (hb hby d23_49)
    have av19 := (hEN.2.2.2.2.1.ext O18.2)
    obtain ⟨cl19, Ar19, q19, S19, N19, H19, Gf19⟩ := av19
    have hin20 : ¬ ((own_ir i_ 0) < 0 ∨ cl19.slots.size ≤ ((own_ir i_ 0) : Int32).toNatClampNeg) := inb_of S19 (own_irb hp5_0 0)
    have hat20 : cl19.slots[((own_ir i_ 0) : Int32).toNatClampNeg]? = some (.int (own_at own_ones (own_ir i_ 0))) := Has.at H19 hin20 (own_atV _ _)
    have av21 := A12_
    obtain ⟨cl21, Ar21, q21, S21, N21, H21, Gf21⟩ := av21
    have hin22 := inb_of S21 (own_dnin (k := 0) hk1 hk3 (own_dec_len qi1).2 (Nat.le_trans (by decide) (own_ge3 (own_gh0 hp5_0 hc15))) hk2)
    obtain ⟨T22, h22, X22, e22, W22, st22⟩ := stB X17 hx hZ e17 Ar21 (j := (own_dn qi2 1)) hin22 (g := (mkF m 55 (l10_ 1 i_ qi2 qa3 ng_) [(.int (own_at own_ones (own_ir i_ 0))), (.int (own_dn qi2 1)), .ref qa3])) rfl rfl (hb hby d23_55)
    have N22_ := Fr.snoc X22 N5 g_qa3
    have K23 := K10.wr W22 (Or.inl (mI 0 rfl))
    have A24_ : PA Z h22 qa3 qk4 .byte qi5 (qc6 ++ List.replicate ((own_dec qi1).length - 1) 0 ++ ((own_at own_ones (own_ir i_ 0)) :: (own_tg i_ 0))) := own_back2 ((own_dec qi1).length - 1) ((own_dec qi1).length - 0) (by have q_ : 1 ≤ (own_dec qi1).length := (Nat.le_trans (by decide) (own_ge3 (own_gh0 hp5_0 hc15))); omega) A12_ (own_dnb (k := 0) hk1 hk3 (own_dec_len qi1).2 (Nat.le_trans (by decide) (own_ge3 (own_gh0 hp5_0 hc15)))) (fits_nar_byte _) ((own_at_nar own_tabn.1 _) : nar .byte (own_at own_ones (own_ir i_ 0)) = (own_at own_ones (own_ir i_ 0))) W22
    have O26 := O18.wr W22 g_qa3
    obtain ⟨T25, X25, e25, st25⟩ := getS2 X22 hx hZ hown (host := "") (Or.inl (w228_ hw)) Via.refl e22 (hEN.2.2.1.ext O26.2) (g := (mkF m 62 (l6_ 1 i_ qi2 qa3 ng_) [(.int (own_dn qi2 2)), .ref qa3])) rfl (hb hby d23_62)
    have av27 := (hEN.2.2.2.2.2.ext O26.2)
    obtain ⟨cl27, Ar27, q27, S27, N27, H27, Gf27⟩ := av27
    have hin28 : ¬ ((own_ir i_ 0) < 0 ∨ cl27.slots.size ≤ ((own_ir i_ 0) : Int32).toNatClampNeg) := inb_of S27 (own_irb hp5_0 0)
    have hat28 : cl27.slots[((own_ir i_ 0) : Int32).toNatClampNeg]? = some (.int (own_at own_tens (own_ir i_ 0))) := Has.at H27 hin28 (own_atV _ _)
    have av29 := A24_
    obtain ⟨cl29, Ar29, q29, S29, N29, H29, Gf29⟩ := av29
    have hin30 := inb_of S29 (own_dnin (k := 1) hk1 hk3 (own_dec_len qi1).2 (Nat.le_trans (by decide) (own_ge3 (own_gh0 hp5_0 hc15))) hk2)
    obtain ⟨T30, h30, X30, e30, W30, st30⟩ := stB X25 hx hZ e25 Ar29 (j := (own_dn qi2 2)) hin30 (g := (mkF m 68 (l6_ 1 i_ qi2 qa3 ng_) [(.int (own_at own_tens (own_ir i_ 0))), (.int (own_dn qi2 2)), .ref qa3])) rfl rfl (hb hby d23_68)
    have N30_ := Fr.snoc X30 N22_ g_qa3
    have K31 := K23.wr W30 (Or.inl (mI 0 rfl))
    have A32_ : PA Z h30 qa3 qk4 .byte qi5 (qc6 ++ List.replicate ((own_dec qi1).length - 2) 0 ++ ((own_at own_tens (own_ir i_ 0)) :: ((own_at own_ones (own_ir i_ 0)) :: (own_tg i_ 0)))) := own_back2 ((own_dec qi1).length - 2) ((own_dec qi1).length - 1) (by have q_ : 2 ≤ (own_dec qi1).length := (Nat.le_trans (by decide) (own_ge3 (own_gh0 hp5_0 hc15))); omega) A24_ (own_dnb (k := 1) hk1 hk3 (own_dec_len qi1).2 (Nat.le_trans (by decide) (own_ge3 (own_gh0 hp5_0 hc15)))) (fits_nar_byte _) ((own_at_nar own_tabn.2 _) : nar .byte (own_at own_tens (own_ir i_ 0)) = (own_at own_tens (own_ir i_ 0))) W30
    have pr33 : Pr p e below T30 m 25 (l6_ 1 i_ qi2 qa3 ng_) [(.int (-100 : Int32)), (.int (own_iq i_ 1))] s₁ (entryFrame m #[.int qi1, .int qi2, .ref qa3] 7) := fun t k => pr14 t (by
     show Sx p e below T5 m 25 (l15_ i_ qi2 qa3 ng_) [(.int (-100 : Int32)), .int i_] _
     refine zn X5 Bd d23_25 (XT.ii_gt_f (hc15 : ¬ ((-100 : Int32) < i_))) ?_
     refine zj X5 Bd d23_28 rfl ?_
     refine zd X5 Bd d23_29 ?_
     refine XS.idiv X5.here hx rfl (hb hby d23_31) rfl (by decide) ?_
     refine zt X5 Bd d23_32 (l' := #[iv i_, iv qi2, rv qa3, iv (own_iq i_ 1), .unset, iv qi2, iv ng_]) rfl ?_
     refine zj X5 Bd d23_33 rfl ?_
     refine zd X5 Bd d23_34 ?_
     refine XS.imul X5.here hx rfl (hb hby d23_36) rfl ?_
     refine zj X5 Bd d23_37 rfl ?_
     refine XS.isub X5.here hx rfl (hb hby d23_38) rfl ?_
     refine zs X5 Bd d23_39 (l' := #[iv i_, iv qi2, rv qa3, iv (own_iq i_ 1), iv (own_ir i_ 0), iv qi2, iv ng_]) rfl ?_
     refine zj X5 Bd d23_41 rfl ?_
     refine zt X5 Bd d23_42 (l' := #[iv (own_iq i_ 1), iv qi2, rv qa3, iv (own_iq i_ 1), iv (own_ir i_ 0), iv qi2, iv ng_]) rfl ?_
     refine zb X5 Bd d23_43 rfl rfl ?_
     refine XS.iinc X5.here hx rfl (hb hby d23_44) rfl (l' := (l10_ 1 i_ qi2 qa3 ng_)) rfl ?_
     refine zi X5 Bd d23_47 rfl ?_
     refine st17 _ ?_
     refine zi X17 Bd d23_52 rfl ?_
     refine X17.baloadBytes hx (j := (own_ir i_ 0)) (v := (.int (own_at own_ones (own_ir i_ 0)))) (by rw [e17]; exact Ar19.1) (State.isArrayOf_alike hZ.alike Ar19.2.1) Ar19.2.2 hin20 hat20 (g := (mkF m 54 (l10_ 1 i_ qi2 qa3 ng_) [(.int (own_ir i_ 0)), .ref Gg0, (.int (own_dn qi2 1)), .ref qa3])) rfl rfl (hb hby d23_54) _ ?_
     refine st22 _ ?_
     refine zb X22 Bd d23_56 rfl rfl ?_
     refine XS.iinc X22.here hx rfl (hb hby d23_57) rfl (l' := (l6_ 1 i_ qi2 qa3 ng_)) rfl ?_
     refine zi X22 Bd d23_60 rfl ?_
     refine st25 _ ?_
     refine zi X25 Bd d23_65 rfl ?_
     refine X25.baloadBytes hx (j := (own_ir i_ 0)) (v := (.int (own_at own_tens (own_ir i_ 0)))) (by rw [e25]; exact Ar27.1) (State.isArrayOf_alike hZ.alike Ar27.2.1) Ar27.2.2 hin28 hat28 (g := (mkF m 67 (l6_ 1 i_ qi2 qa3 ng_) [(.int (own_ir i_ 0)), .ref Gg1, (.int (own_dn qi2 2)), .ref qa3])) rfl rfl (hb hby d23_67) _ ?_
     refine st30 _ ?_
     refine zg (pc' := 22) X30 Bd d23_69 rfl ?_
     refine zj X30 Bd d23_22 rfl ?_
     refine zd X30 Bd d23_23 ?_
     exact k)
    by_cases hc34 : (-100 : Int32) < (own_iq i_ 1)
    ·
     skip
     have pr35 : Pr p e below T30 m 72 (l6_ 1 i_ qi2 qa3 ng_) [] s₁ (entryFrame m #[.int qi1, .int qi2, .ref qa3] 7) := fun t k => pr33 t (by
      show Sx p e below T30 m 25 (l6_ 1 i_ qi2 qa3 ng_) [(.int (-100 : Int32)), (.int (own_iq i_ 1))] _
      refine zy (pc' := 72) X30 Bd d23_25 (XT.ii_gt_t (hc34 : (-100 : Int32) < (own_iq i_ 1))) rfl ?_
      exact k)
     exact kont13 ⟨T30, _, h30, (own_iq i_ 1), iv (own_iq i_ 1), iv (own_ir i_ 0), (own_dn qi2 2), 1, (X30.mono (lE rfl) (lE rfl)), e30, N30_, (((Keep.refl h5 [qa3]).wr W22 (Or.inl (mI 0 rfl))).wr W30 (Or.inl (mI 0 rfl))), A32_, (Or.inr ⟨_, rfl, rfl⟩), (Or.inr ⟨_, rfl, rfl⟩), rfl, rfl, hc34, (own_ge3 (own_gh0 hp5_0 hc15)), (by decide), (Or.inr hc15), (fun t k => pr35 t k)⟩
    ·
     skip
     have O37 := O26.wr W30 g_qa3
     obtain ⟨T36, X36, e36, st36⟩ := getS2 X30 hx hZ hown (host := "") (Or.inl (w179_ hw)) Via.refl e30 (hEN.1.ext O37.2) (g := (mkF m 49 (l11_ 2 i_ qi2 qa3 ng_) [(.int (own_dn qi2 3)), .ref qa3])) rfl (hb hby d23_49)
     have av38 := (hEN.2.2.2.2.1.ext O37.2)
     obtain ⟨cl38, Ar38, q38, S38, N38, H38, Gf38⟩ := av38
     have hin39 : ¬ ((own_ir i_ 1) < 0 ∨ cl38.slots.size ≤ ((own_ir i_ 1) : Int32).toNatClampNeg) := inb_of S38 (own_irb hp5_0 1)
     have hat39 : cl38.slots[((own_ir i_ 1) : Int32).toNatClampNeg]? = some (.int (own_at own_ones (own_ir i_ 1))) := Has.at H38 hin39 (own_atV _ _)
     have av40 := A32_
     obtain ⟨cl40, Ar40, q40, S40, N40, H40, Gf40⟩ := av40
     have hin41 := inb_of S40 (own_dnin (k := 2) hk1 hk3 (own_dec_len qi1).2 (Nat.le_trans (by decide) (own_ge5 (own_gh1 hp5_0 hc34))) hk2)
     obtain ⟨T41, h41, X41, e41, W41, st41⟩ := stB X36 hx hZ e36 Ar40 (j := (own_dn qi2 3)) hin41 (g := (mkF m 55 (l11_ 2 i_ qi2 qa3 ng_) [(.int (own_at own_ones (own_ir i_ 1))), (.int (own_dn qi2 3)), .ref qa3])) rfl rfl (hb hby d23_55)
     have N41_ := Fr.snoc X41 N30_ g_qa3
     have K42 := K31.wr W41 (Or.inl (mI 0 rfl))
     have A43_ : PA Z h41 qa3 qk4 .byte qi5 (qc6 ++ List.replicate ((own_dec qi1).length - 3) 0 ++ ((own_at own_ones (own_ir i_ 1)) :: ((own_at own_tens (own_ir i_ 0)) :: ((own_at own_ones (own_ir i_ 0)) :: (own_tg i_ 0))))) := own_back2 ((own_dec qi1).length - 3) ((own_dec qi1).length - 2) (by have q_ : 3 ≤ (own_dec qi1).length := (Nat.le_trans (by decide) (own_ge5 (own_gh1 hp5_0 hc34))); omega) A32_ (own_dnb (k := 2) hk1 hk3 (own_dec_len qi1).2 (Nat.le_trans (by decide) (own_ge5 (own_gh1 hp5_0 hc34)))) (fits_nar_byte _) ((own_at_nar own_tabn.1 _) : nar .byte (own_at own_ones (own_ir i_ 1)) = (own_at own_ones (own_ir i_ 1))) W41
     have O45 := O37.wr W41 g_qa3
     obtain ⟨T44, X44, e44, st44⟩ := getS2 X41 hx hZ hown (host := "") (Or.inl (w228_ hw)) Via.refl e41 (hEN.2.2.1.ext O45.2) (g := (mkF m 62 (l7_ 2 i_ qi2 qa3 ng_) [(.int (own_dn qi2 4)), .ref qa3])) rfl (hb hby d23_62)
     have av46 := (hEN.2.2.2.2.2.ext O45.2)
     obtain ⟨cl46, Ar46, q46, S46, N46, H46, Gf46⟩ := av46
     have hin47 : ¬ ((own_ir i_ 1) < 0 ∨ cl46.slots.size ≤ ((own_ir i_ 1) : Int32).toNatClampNeg) := inb_of S46 (own_irb hp5_0 1)
     have hat47 : cl46.slots[((own_ir i_ 1) : Int32).toNatClampNeg]? = some (.int (own_at own_tens (own_ir i_ 1))) := Has.at H46 hin47 (own_atV _ _)
     have av48 := A43_
     obtain ⟨cl48, Ar48, q48, S48, N48, H48, Gf48⟩ := av48
     have hin49 := inb_of S48 (own_dnin (k := 3) hk1 hk3 (own_dec_len qi1).2 (Nat.le_trans (by decide) (own_ge5 (own_gh1 hp5_0 hc34))) hk2)
     obtain ⟨T49, h49, X49, e49, W49, st49⟩ := stB X44 hx hZ e44 Ar48 (j := (own_dn qi2 4)) hin49 (g := (mkF m 68 (l7_ 2 i_ qi2 qa3 ng_) [(.int (own_at own_tens (own_ir i_ 1))), (.int (own_dn qi2 4)), .ref qa3])) rfl rfl (hb hby d23_68)
     have N49_ := Fr.snoc X49 N41_ g_qa3
     have K50 := K42.wr W49 (Or.inl (mI 0 rfl))
     have A51_ : PA Z h49 qa3 qk4 .byte qi5 (qc6 ++ List.replicate ((own_dec qi1).length - 4) 0 ++ ((own_at own_tens (own_ir i_ 1)) :: ((own_at own_ones (own_ir i_ 1)) :: ((own_at own_tens (own_ir i_ 0)) :: ((own_at own_ones (own_ir i_ 0)) :: (own_tg i_ 0)))))) := own_back2 ((own_dec qi1).length - 4) ((own_dec qi1).length - 3) (by have q_ : 4 ≤ (own_dec qi1).length := (Nat.le_trans (by decide) (own_ge5 (own_gh1 hp5_0 hc34))); omega) A43_ (own_dnb (k := 3) hk1 hk3 (own_dec_len qi1).2 (Nat.le_trans (by decide) (own_ge5 (own_gh1 hp5_0 hc34)))) (fits_nar_byte _) ((own_at_nar own_tabn.2 _) : nar .byte (own_at own_tens (own_ir i_ 1)) = (own_at own_tens (own_ir i_ 1))) W49
     have pr52 : Pr p e below T49 m 25 (l7_ 2 i_ qi2 qa3 ng_) [(.int (-100 : Int32)), (.int (own_iq i_ 2))] s₁ (entryFrame m #[.int qi1, .int qi2, .ref qa3] 7) := fun t k => pr33 t (by
      show Sx p e below T30 m 25 (l6_ 1 i_ qi2 qa3 ng_) [(.int (-100 : Int32)), (.int (own_iq i_ 1))] _
      refine zn X30 Bd d23_25 (XT.ii_gt_f (hc34 : ¬ ((-100 : Int32) < (own_iq i_ 1)))) ?_
      refine zj X30 Bd d23_28 rfl ?_
      refine zd X30 Bd d23_29 ?_
      refine XS.idiv X30.here hx rfl (hb hby d23_31) rfl (by decide) ?_
      refine zt X30 Bd d23_32 (l' := #[iv (own_iq i_ 1), iv qi2, rv qa3, iv (own_iq i_ 2), iv (own_ir i_ 0), iv (own_dn qi2 2), iv ng_]) rfl ?_
      refine zj X30 Bd d23_33 rfl ?_
      refine zd X30 Bd d23_34 ?_
      refine XS.imul X30.here hx rfl (hb hby d23_36) rfl ?_
      refine zj X30 Bd d23_37 rfl ?_
      refine XS.isub X30.here hx rfl (hb hby d23_38) rfl ?_
      refine zs X30 Bd d23_39 (l' := #[iv (own_iq i_ 1), iv qi2, rv qa3, iv (own_iq i_ 2), iv (own_ir i_ 1), iv (own_dn qi2 2), iv ng_]) rfl ?_
      refine zj X30 Bd d23_41 rfl ?_
      refine zt X30 Bd d23_42 (l' := #[iv (own_iq i_ 2), iv qi2, rv qa3, iv (own_iq i_ 2), iv (own_ir i_ 1), iv (own_dn qi2 2), iv ng_]) rfl ?_
      refine zb X30 Bd d23_43 rfl rfl ?_
      refine XS.iinc X30.here hx rfl (hb hby d23_44) rfl (l' := (l11_ 2 i_ qi2 qa3 ng_)) rfl ?_
      refine zi X30 Bd d23_47 rfl ?_
      refine st36 _ ?_
      refine zi X36 Bd d23_52 rfl ?_
      refine X36.baloadBytes hx (j := (own_ir i_ 1)) (v := (.int (own_at own_ones (own_ir i_ 1)))) (by rw [e36]; exact Ar38.1) (State.isArrayOf_alike hZ.alike Ar38.2.1) Ar38.2.2 hin39 hat39 (g := (mkF m 54 (l11_ 2 i_ qi2 qa3 ng_) [(.int (own_ir i_ 1)), .ref Gg0, (.int (own_dn qi2 3)), .ref qa3])) rfl rfl (hb hby d23_54) _ ?_
      refine st41 _ ?_
      refine zb X41 Bd d23_56 rfl rfl ?_
      refine XS.iinc X41.here hx rfl (hb hby d23_57) rfl (l' := (l7_ 2 i_ qi2 qa3 ng_)) rfl ?_
      refine zi X41 Bd d23_60 rfl ?_
      refine st44 _ ?_
      refine zi X44 Bd d23_65 rfl ?_
      refine X44.baloadBytes hx (j := (own_ir i_ 1)) (v := (.int (own_at own_tens (own_ir i_ 1)))) (by rw [e44]; exact Ar46.1) (State.isArrayOf_alike hZ.alike Ar46.2.1) Ar46.2.2 hin47 hat47 (g := (mkF m 67 (l7_ 2 i_ qi2 qa3 ng_) [(.int (own_ir i_ 1)), .ref Gg1, (.int (own_dn qi2 4)), .ref qa3])) rfl rfl (hb hby d23_67) _ ?_
      refine st49 _ ?_
      refine zg (pc' := 22) X49 Bd d23_69 rfl ?_
      refine zj X49 Bd d23_22 rfl ?_
      refine zd X49 Bd d23_23 ?_
      exact k)
     by_cases hc53 : (-100 : Int32) < (own_iq i_ 2)
     ·
      skip
      have pr54 : Pr p e below T49 m 72 (l7_ 2 i_ qi2 qa3 ng_) [] s₁ (entryFrame m #[.int qi1, .int qi2, .ref qa3] 7) := fun t k => pr52 t (by
       show Sx p e below T49 m 25 (l7_ 2 i_ qi2 qa3 ng_) [(.int (-100 : Int32)), (.int (own_iq i_ 2))] _
       refine zy (pc' := 72) X49 Bd d23_25 (XT.ii_gt_t (hc53 : (-100 : Int32) < (own_iq i_ 2))) rfl ?_
       exact k)
      exact kont13 ⟨T49, _, h49, (own_iq i_ 2), iv (own_iq i_ 2), iv (own_ir i_ 1), (own_dn qi2 4), 2, (X49.mono (lE rfl) (lE rfl)), e49, N49_, (((((Keep.refl h5 [qa3]).wr W22 (Or.inl (mI 0 rfl))).wr W30 (Or.inl (mI 0 rfl))).wr W41 (Or.inl (mI 0 rfl))).wr W49 (Or.inl (mI 0 rfl))), A51_, (Or.inr ⟨_, rfl, rfl⟩), (Or.inr ⟨_, rfl, rfl⟩), rfl, rfl, hc53, (own_ge5 (own_gh1 hp5_0 hc34)), (by decide), (Or.inr hc34), (fun t k => pr54 t k)⟩
     ·
      skip
      have O56 := O45.wr W49 g_qa3
      obtain ⟨T55, X55, e55, st55⟩ := getS2 X49 hx hZ hown (host := "") (Or.inl (w179_ hw)) Via.refl e49 (hEN.1.ext O56.2) (g := (mkF m 49 (l12_ 3 i_ qi2 qa3 ng_) [(.int (own_dn qi2 5)), .ref qa3])) rfl (hb hby d23_49)
      have av57 := (hEN.2.2.2.2.1.ext O56.2)
      obtain ⟨cl57, Ar57, q57, S57, N57, H57, Gf57⟩ := av57
      have hin58 : ¬ ((own_ir i_ 2) < 0 ∨ cl57.slots.size ≤ ((own_ir i_ 2) : Int32).toNatClampNeg) := inb_of S57 (own_irb hp5_0 2)
      have hat58 : cl57.slots[((own_ir i_ 2) : Int32).toNatClampNeg]? = some (.int (own_at own_ones (own_ir i_ 2))) := Has.at H57 hin58 (own_atV _ _)
      have av59 := A51_
      obtain ⟨cl59, Ar59, q59, S59, N59, H59, Gf59⟩ := av59
      have hin60 := inb_of S59 (own_dnin (k := 4) hk1 hk3 (own_dec_len qi1).2 (Nat.le_trans (by decide) (own_ge7 (own_gh2 hp5_0 hc53))) hk2)
      obtain ⟨T60, h60, X60, e60, W60, st60⟩ := stB X55 hx hZ e55 Ar59 (j := (own_dn qi2 5)) hin60 (g := (mkF m 55 (l12_ 3 i_ qi2 qa3 ng_) [(.int (own_at own_ones (own_ir i_ 2))), (.int (own_dn qi2 5)), .ref qa3])) rfl rfl (hb hby d23_55)
      have N60_ := Fr.snoc X60 N49_ g_qa3
      have K61 := K50.wr W60 (Or.inl (mI 0 rfl))
      have A62_ : PA Z h60 qa3 qk4 .byte qi5 (qc6 ++ List.replicate ((own_dec qi1).length - 5) 0 ++ ((own_at own_ones (own_ir i_ 2)) :: ((own_at own_tens (own_ir i_ 1)) :: ((own_at own_ones (own_ir i_ 1)) :: ((own_at own_tens (own_ir i_ 0)) :: ((own_at own_ones (own_ir i_ 0)) :: (own_tg i_ 0))))))) := own_back2 ((own_dec qi1).length - 5) ((own_dec qi1).length - 4) (by have q_ : 5 ≤ (own_dec qi1).length := (Nat.le_trans (by decide) (own_ge7 (own_gh2 hp5_0 hc53))); omega) A51_ (own_dnb (k := 4) hk1 hk3 (own_dec_len qi1).2 (Nat.le_trans (by decide) (own_ge7 (own_gh2 hp5_0 hc53)))) (fits_nar_byte _) ((own_at_nar own_tabn.1 _) : nar .byte (own_at own_ones (own_ir i_ 2)) = (own_at own_ones (own_ir i_ 2))) W60
      have O64 := O56.wr W60 g_qa3
      obtain ⟨T63, X63, e63, st63⟩ := getS2 X60 hx hZ hown (host := "") (Or.inl (w228_ hw)) Via.refl e60 (hEN.2.2.1.ext O64.2) (g := (mkF m 62 (l8_ 3 i_ qi2 qa3 ng_) [(.int (own_dn qi2 6)), .ref qa3])) rfl (hb hby d23_62)
      have av65 := (hEN.2.2.2.2.2.ext O64.2)
      obtain ⟨cl65, Ar65, q65, S65, N65, H65, Gf65⟩ := av65
      have hin66 : ¬ ((own_ir i_ 2) < 0 ∨ cl65.slots.size ≤ ((own_ir i_ 2) : Int32).toNatClampNeg) := inb_of S65 (own_irb hp5_0 2)
      have hat66 : cl65.slots[((own_ir i_ 2) : Int32).toNatClampNeg]? = some (.int (own_at own_tens (own_ir i_ 2))) := Has.at H65 hin66 (own_atV _ _)
      have av67 := A62_
      obtain ⟨cl67, Ar67, q67, S67, N67, H67, Gf67⟩ := av67
      have hin68 := inb_of S67 (own_dnin (k := 5) hk1 hk3 (own_dec_len qi1).2 (Nat.le_trans (by decide) (own_ge7 (own_gh2 hp5_0 hc53))) hk2)
      obtain ⟨T68, h68, X68, e68, W68, st68⟩ := stB X63 hx hZ e63 Ar67 (j := (own_dn qi2 6)) hin68 (g := (mkF m 68 (l8_ 3 i_ qi2 qa3 ng_) [(.int (own_at own_tens (own_ir i_ 2))), (.int (own_dn qi2 6)), .ref qa3])) rfl rfl (hb hby d23_68)
      have N68_ := Fr.snoc X68 N60_ g_qa3
      have K69 := K61.wr W68 (Or.inl (mI 0 rfl))
      have A70_ : PA Z h68 qa3 qk4 .byte qi5 (qc6 ++ List.replicate ((own_dec qi1).length - 6) 0 ++ ((own_at own_tens (own_ir i_ 2)) :: ((own_at own_ones (own_ir i_ 2)) :: ((own_at own_tens (own_ir i_ 1)) :: ((own_at own_ones (own_ir i_ 1)) :: ((own_at own_tens (own_ir i_ 0)) :: ((own_at own_ones (own_ir i_ 0)) :: (own_tg i_ 0)))))))) := own_back2 ((own_dec qi1).length - 6) ((own_dec qi1).length - 5) (by have q_ : 6 ≤ (own_dec qi1).length := (Nat.le_trans (by decide) (own_ge7 (own_gh2 hp5_0 hc53))); omega) A62_ (own_dnb (k := 5) hk1 hk3 (own_dec_len qi1).2 (Nat.le_trans (by decide) (own_ge7 (own_gh2 hp5_0 hc53)))) (fits_nar_byte _) ((own_at_nar own_tabn.2 _) : nar .byte (own_at own_tens (own_ir i_ 2)) = (own_at own_tens (own_ir i_ 2))) W68
      have pr71 : Pr p e below T68 m 25 (l8_ 3 i_ qi2 qa3 ng_) [(.int (-100 : Int32)), (.int (own_iq i_ 3))] s₁ (entryFrame m #[.int qi1, .int qi2, .ref qa3] 7) := fun t k => pr52 t (by
       show Sx p e below T49 m 25 (l7_ 2 i_ qi2 qa3 ng_) [(.int (-100 : Int32)), (.int (own_iq i_ 2))] _
       refine zn X49 Bd d23_25 (XT.ii_gt_f (hc53 : ¬ ((-100 : Int32) < (own_iq i_ 2)))) ?_
       refine zj X49 Bd d23_28 rfl ?_
       refine zd X49 Bd d23_29 ?_
       refine XS.idiv X49.here hx rfl (hb hby d23_31) rfl (by decide) ?_
       refine zt X49 Bd d23_32 (l' := #[iv (own_iq i_ 2), iv qi2, rv qa3, iv (own_iq i_ 3), iv (own_ir i_ 1), iv (own_dn qi2 4), iv ng_]) rfl ?_
       refine zj X49 Bd d23_33 rfl ?_
       refine zd X49 Bd d23_34 ?_
       refine XS.imul X49.here hx rfl (hb hby d23_36) rfl ?_
       refine zj X49 Bd d23_37 rfl ?_
       refine XS.isub X49.here hx rfl (hb hby d23_38) rfl ?_
       refine zs X49 Bd d23_39 (l' := #[iv (own_iq i_ 2), iv qi2, rv qa3, iv (own_iq i_ 3), iv (own_ir i_ 2), iv (own_dn qi2 4), iv ng_]) rfl ?_
       refine zj X49 Bd d23_41 rfl ?_
       refine zt X49 Bd d23_42 (l' := #[iv (own_iq i_ 3), iv qi2, rv qa3, iv (own_iq i_ 3), iv (own_ir i_ 2), iv (own_dn qi2 4), iv ng_]) rfl ?_
       refine zb X49 Bd d23_43 rfl rfl ?_
       refine XS.iinc X49.here hx rfl (hb hby d23_44) rfl (l' := (l12_ 3 i_ qi2 qa3 ng_)) rfl ?_
       refine zi X49 Bd d23_47 rfl ?_
       refine st55 _ ?_
       refine zi X55 Bd d23_52 rfl ?_
       refine X55.baloadBytes hx (j := (own_ir i_ 2)) (v := (.int (own_at own_ones (own_ir i_ 2)))) (by rw [e55]; exact Ar57.1) (State.isArrayOf_alike hZ.alike Ar57.2.1) Ar57.2.2 hin58 hat58 (g := (mkF m 54 (l12_ 3 i_ qi2 qa3 ng_) [(.int (own_ir i_ 2)), .ref Gg0, (.int (own_dn qi2 5)), .ref qa3])) rfl rfl (hb hby d23_54) _ ?_
       refine st60 _ ?_
       refine zb X60 Bd d23_56 rfl rfl ?_
       refine XS.iinc X60.here hx rfl (hb hby d23_57) rfl (l' := (l8_ 3 i_ qi2 qa3 ng_)) rfl ?_
       refine zi X60 Bd d23_60 rfl ?_
       refine st63 _ ?_
       refine zi X63 Bd d23_65 rfl ?_
       refine X63.baloadBytes hx (j := (own_ir i_ 2)) (v := (.int (own_at own_tens (own_ir i_ 2)))) (by rw [e63]; exact Ar65.1) (State.isArrayOf_alike hZ.alike Ar65.2.1) Ar65.2.2 hin66 hat66 (g := (mkF m 67 (l8_ 3 i_ qi2 qa3 ng_) [(.int (own_ir i_ 2)), .ref Gg1, (.int (own_dn qi2 6)), .ref qa3])) rfl rfl (hb hby d23_67) _ ?_
       refine st68 _ ?_
       refine zg (pc' := 22) X68 Bd d23_69 rfl ?_
       refine zj X68 Bd d23_22 rfl ?_
       refine zd X68 Bd d23_23 ?_
       exact k)
      by_cases hc72 : (-100 : Int32) < (own_iq i_ 3)
      ·
       skip
       have pr73 : Pr p e below T68 m 72 (l8_ 3 i_ qi2 qa3 ng_) [] s₁ (entryFrame m #[.int qi1, .int qi2, .ref qa3] 7) := fun t k => pr71 t (by
        show Sx p e below T68 m 25 (l8_ 3 i_ qi2 qa3 ng_) [(.int (-100 : Int32)), (.int (own_iq i_ 3))] _
        refine zy (pc' := 72) X68 Bd d23_25 (XT.ii_gt_t (hc72 : (-100 : Int32) < (own_iq i_ 3))) rfl ?_
        exact k)
       exact kont13 ⟨T68, _, h68, (own_iq i_ 3), iv (own_iq i_ 3), iv (own_ir i_ 2), (own_dn qi2 6), 3, (X68.mono (lE rfl) (lE rfl)), e68, N68_, (((((((Keep.refl h5 [qa3]).wr W22 (Or.inl (mI 0 rfl))).wr W30 (Or.inl (mI 0 rfl))).wr W41 (Or.inl (mI 0 rfl))).wr W49 (Or.inl (mI 0 rfl))).wr W60 (Or.inl (mI 0 rfl))).wr W68 (Or.inl (mI 0 rfl))), A70_, (Or.inr ⟨_, rfl, rfl⟩), (Or.inr ⟨_, rfl, rfl⟩), rfl, rfl, hc72, (own_ge7 (own_gh2 hp5_0 hc53)), (by decide), (Or.inr hc53), (fun t k => pr73 t k)⟩
      ·
       skip
       have O75 := O64.wr W68 g_qa3
       obtain ⟨T74, X74, e74, st74⟩ := getS2 X68 hx hZ hown (host := "") (Or.inl (w179_ hw)) Via.refl e68 (hEN.1.ext O75.2) (g := (mkF m 49 (l13_ 4 i_ qi2 qa3 ng_) [(.int (own_dn qi2 7)), .ref qa3])) rfl (hb hby d23_49)
       have av76 := (hEN.2.2.2.2.1.ext O75.2)
       obtain ⟨cl76, Ar76, q76, S76, N76, H76, Gf76⟩ := av76
       have hin77 : ¬ ((own_ir i_ 3) < 0 ∨ cl76.slots.size ≤ ((own_ir i_ 3) : Int32).toNatClampNeg) := inb_of S76 (own_irb hp5_0 3)
       have hat77 : cl76.slots[((own_ir i_ 3) : Int32).toNatClampNeg]? = some (.int (own_at own_ones (own_ir i_ 3))) := Has.at H76 hin77 (own_atV _ _)
       have av78 := A70_
       obtain ⟨cl78, Ar78, q78, S78, N78, H78, Gf78⟩ := av78
       have hin79 := inb_of S78 (own_dnin (k := 6) hk1 hk3 (own_dec_len qi1).2 (Nat.le_trans (by decide) (own_ge9 (own_gh3 hp5_0 hc72))) hk2)
       obtain ⟨T79, h79, X79, e79, W79, st79⟩ := stB X74 hx hZ e74 Ar78 (j := (own_dn qi2 7)) hin79 (g := (mkF m 55 (l13_ 4 i_ qi2 qa3 ng_) [(.int (own_at own_ones (own_ir i_ 3))), (.int (own_dn qi2 7)), .ref qa3])) rfl rfl (hb hby d23_55)
       have N79_ := Fr.snoc X79 N68_ g_qa3
       have K80 := K69.wr W79 (Or.inl (mI 0 rfl))
       have A81_ : PA Z h79 qa3 qk4 .byte qi5 (qc6 ++ List.replicate ((own_dec qi1).length - 7) 0 ++ ((own_at own_ones (own_ir i_ 3)) :: ((own_at own_tens (own_ir i_ 2)) :: ((own_at own_ones (own_ir i_ 2)) :: ((own_at own_tens (own_ir i_ 1)) :: ((own_at own_ones (own_ir i_ 1)) :: ((own_at own_tens (own_ir i_ 0)) :: ((own_at own_ones (own_ir i_ 0)) :: (own_tg i_ 0))))))))) := own_back2 ((own_dec qi1).length - 7) ((own_dec qi1).length - 6) (by have q_ : 7 ≤ (own_dec qi1).length := (Nat.le_trans (by decide) (own_ge9 (own_gh3 hp5_0 hc72))); omega) A70_ (own_dnb (k := 6) hk1 hk3 (own_dec_len qi1).2 (Nat.le_trans (by decide) (own_ge9 (own_gh3 hp5_0 hc72)))) (fits_nar_byte _) ((own_at_nar own_tabn.1 _) : nar .byte (own_at own_ones (own_ir i_ 3)) = (own_at own_ones (own_ir i_ 3))) W79
       have O83 := O75.wr W79 g_qa3
       obtain ⟨T82, X82, e82, st82⟩ := getS2 X79 hx hZ hown (host := "") (Or.inl (w228_ hw)) Via.refl e79 (hEN.2.2.1.ext O83.2) (g := (mkF m 62 (l9_ 4 i_ qi2 qa3 ng_) [(.int (own_dn qi2 8)), .ref qa3])) rfl (hb hby d23_62)
       have av84 := (hEN.2.2.2.2.2.ext O83.2)
       obtain ⟨cl84, Ar84, q84, S84, N84, H84, Gf84⟩ := av84
       have hin85 : ¬ ((own_ir i_ 3) < 0 ∨ cl84.slots.size ≤ ((own_ir i_ 3) : Int32).toNatClampNeg) := inb_of S84 (own_irb hp5_0 3)
       have hat85 : cl84.slots[((own_ir i_ 3) : Int32).toNatClampNeg]? = some (.int (own_at own_tens (own_ir i_ 3))) := Has.at H84 hin85 (own_atV _ _)
       have av86 := A81_
       obtain ⟨cl86, Ar86, q86, S86, N86, H86, Gf86⟩ := av86
       have hin87 := inb_of S86 (own_dnin (k := 7) hk1 hk3 (own_dec_len qi1).2 (Nat.le_trans (by decide) (own_ge9 (own_gh3 hp5_0 hc72))) hk2)
       obtain ⟨T87, h87, X87, e87, W87, st87⟩ := stB X82 hx hZ e82 Ar86 (j := (own_dn qi2 8)) hin87 (g := (mkF m 68 (l9_ 4 i_ qi2 qa3 ng_) [(.int (own_at own_tens (own_ir i_ 3))), (.int (own_dn qi2 8)), .ref qa3])) rfl rfl (hb hby d23_68)
       have N87_ := Fr.snoc X87 N79_ g_qa3
       have K88 := K80.wr W87 (Or.inl (mI 0 rfl))
       have A89_ : PA Z h87 qa3 qk4 .byte qi5 (qc6 ++ List.replicate ((own_dec qi1).length - 8) 0 ++ ((own_at own_tens (own_ir i_ 3)) :: ((own_at own_ones (own_ir i_ 3)) :: ((own_at own_tens (own_ir i_ 2)) :: ((own_at own_ones (own_ir i_ 2)) :: ((own_at own_tens (own_ir i_ 1)) :: ((own_at own_ones (own_ir i_ 1)) :: ((own_at own_tens (own_ir i_ 0)) :: ((own_at own_ones (own_ir i_ 0)) :: (own_tg i_ 0)))))))))) := own_back2 ((own_dec qi1).length - 8) ((own_dec qi1).length - 7) (by have q_ : 8 ≤ (own_dec qi1).length := (Nat.le_trans (by decide) (own_ge9 (own_gh3 hp5_0 hc72))); omega) A81_ (own_dnb (k := 7) hk1 hk3 (own_dec_len qi1).2 (Nat.le_trans (by decide) (own_ge9 (own_gh3 hp5_0 hc72)))) (fits_nar_byte _) ((own_at_nar own_tabn.2 _) : nar .byte (own_at own_tens (own_ir i_ 3)) = (own_at own_tens (own_ir i_ 3))) W87
       have pr90 : Pr p e below T87 m 72 (l9_ 4 i_ qi2 qa3 ng_) [] s₁ (entryFrame m #[.int qi1, .int qi2, .ref qa3] 7) := fun t k => pr71 t (by
        show Sx p e below T68 m 25 (l8_ 3 i_ qi2 qa3 ng_) [(.int (-100 : Int32)), (.int (own_iq i_ 3))] _
        refine zn X68 Bd d23_25 (XT.ii_gt_f (hc72 : ¬ ((-100 : Int32) < (own_iq i_ 3)))) ?_
        refine zj X68 Bd d23_28 rfl ?_
        refine zd X68 Bd d23_29 ?_
        refine XS.idiv X68.here hx rfl (hb hby d23_31) rfl (by decide) ?_
        refine zt X68 Bd d23_32 (l' := #[iv (own_iq i_ 3), iv qi2, rv qa3, iv (own_iq i_ 4), iv (own_ir i_ 2), iv (own_dn qi2 6), iv ng_]) rfl ?_
        refine zj X68 Bd d23_33 rfl ?_
        refine zd X68 Bd d23_34 ?_
        refine XS.imul X68.here hx rfl (hb hby d23_36) rfl ?_
        refine zj X68 Bd d23_37 rfl ?_
        refine XS.isub X68.here hx rfl (hb hby d23_38) rfl ?_
        refine zs X68 Bd d23_39 (l' := #[iv (own_iq i_ 3), iv qi2, rv qa3, iv (own_iq i_ 4), iv (own_ir i_ 3), iv (own_dn qi2 6), iv ng_]) rfl ?_
        refine zj X68 Bd d23_41 rfl ?_
        refine zt X68 Bd d23_42 (l' := #[iv (own_iq i_ 4), iv qi2, rv qa3, iv (own_iq i_ 4), iv (own_ir i_ 3), iv (own_dn qi2 6), iv ng_]) rfl ?_
        refine zb X68 Bd d23_43 rfl rfl ?_
        refine XS.iinc X68.here hx rfl (hb hby d23_44) rfl (l' := (l13_ 4 i_ qi2 qa3 ng_)) rfl ?_
        refine zi X68 Bd d23_47 rfl ?_
        refine st74 _ ?_
        refine zi X74 Bd d23_52 rfl ?_
        refine X74.baloadBytes hx (j := (own_ir i_ 3)) (v := (.int (own_at own_ones (own_ir i_ 3)))) (by rw [e74]; exact Ar76.1) (State.isArrayOf_alike hZ.alike Ar76.2.1) Ar76.2.2 hin77 hat77 (g := (mkF m 54 (l13_ 4 i_ qi2 qa3 ng_) [(.int (own_ir i_ 3)), .ref Gg0, (.int (own_dn qi2 7)), .ref qa3])) rfl rfl (hb hby d23_54) _ ?_
        refine st79 _ ?_
        refine zb X79 Bd d23_56 rfl rfl ?_
        refine XS.iinc X79.here hx rfl (hb hby d23_57) rfl (l' := (l9_ 4 i_ qi2 qa3 ng_)) rfl ?_
        refine zi X79 Bd d23_60 rfl ?_
        refine st82 _ ?_
        refine zi X82 Bd d23_65 rfl ?_
        refine X82.baloadBytes hx (j := (own_ir i_ 3)) (v := (.int (own_at own_tens (own_ir i_ 3)))) (by rw [e82]; exact Ar84.1) (State.isArrayOf_alike hZ.alike Ar84.2.1) Ar84.2.2 hin85 hat85 (g := (mkF m 67 (l9_ 4 i_ qi2 qa3 ng_) [(.int (own_ir i_ 3)), .ref Gg1, (.int (own_dn qi2 8)), .ref qa3])) rfl rfl (hb hby d23_67) _ ?_
        refine st87 _ ?_
        refine zg (pc' := 22) X87 Bd d23_69 rfl ?_
        refine zj X87 Bd d23_22 rfl ?_
        refine zd X87 Bd d23_23 ?_
        refine zy (pc' := 72) X87 Bd d23_25 (XT.ii_gt_t ((own_i4 hp5_0) : (-100 : Int32) < (own_iq i_ 4))) rfl ?_
        exact k)
       exact kont13 ⟨T87, _, h87, (own_iq i_ 4), iv (own_iq i_ 4), iv (own_ir i_ 3), (own_dn qi2 8), 4, (X87.mono (lE rfl) (lE rfl)), e87, N87_, (((((((((Keep.refl h5 [qa3]).wr W22 (Or.inl (mI 0 rfl))).wr W30 (Or.inl (mI 0 rfl))).wr W41 (Or.inl (mI 0 rfl))).wr W49 (Or.inl (mI 0 rfl))).wr W60 (Or.inl (mI 0 rfl))).wr W68 (Or.inl (mI 0 rfl))).wr W79 (Or.inl (mI 0 rfl))).wr W87 (Or.inl (mI 0 rfl))), A89_, (Or.inr ⟨_, rfl, rfl⟩), (Or.inr ⟨_, rfl, rfl⟩), rfl, rfl, (own_i4 hp5_0), (own_ge9 (own_gh3 hp5_0 hc72)), (by decide), (Or.inr hc72), (fun t k => pr90 t k)⟩
  ·
   obtain ⟨T13, L13, h13, i2_, sl13_3, sl13_4, pos_, t_, X13, e13, N13, K13j, A91_, one13_3, one13_4, hp13_0, hp13_1, hp13_2, hp13_3, hp13_4, hp13_5, pr13⟩ := hA13
   have K92 := K10.trans K13j (allS (Or.inl (mI 0 rfl)) all0)
   subst hp13_0 hp13_1
   have O94 := X00.keep K5j all0
   have O95 := O94.keep K13j (allS g_qa3 all0)
   obtain ⟨T93, X93, e93, st93⟩ := getS2 X13 hx hZ hown (host := "") (Or.inl (w179_ hw)) Via.refl e13 (hEN.1.ext O95.2) (g := (mkF m 78 #[iv (own_iq i_ t_), iv qi2, rv qa3, sl13_3, sl13_4, iv (own_dn qi2 (2 * t_ + 1)), iv ng_] [(.int (own_dn qi2 (2 * t_ + 1))), .ref qa3])) rfl (hb hby d23_78)
   have av96 := (hEN.2.2.2.2.1.ext O95.2)
   obtain ⟨cl96, Ar96, q96, S96, N96, H96, Gf96⟩ := av96
   have hin97 : ¬ ((-(own_iq i_ t_)) < 0 ∨ cl96.slots.size ≤ ((-(own_iq i_ t_)) : Int32).toNatClampNeg) := inb_of S96 (own_inb hp5_0 t_ hp13_2)
   have hat97 : cl96.slots[((-(own_iq i_ t_)) : Int32).toNatClampNeg]? = some (.int (own_at own_ones (-(own_iq i_ t_)))) := Has.at H96 hin97 (own_atV _ _)
   have av98 := A91_
   obtain ⟨cl98, Ar98, q98, S98, N98, H98, Gf98⟩ := av98
   have hin99 := inb_of S98 (own_dnin (k := (2 * t_)) hk1 hk3 (own_dec_len qi1).2 hp13_3 hk2)
   obtain ⟨T99, h99, X99, e99, W99, st99⟩ := stB X93 hx hZ e93 Ar98 (j := (own_dn qi2 (2 * t_ + 1))) hin99 (g := (mkF m 84 #[iv (own_iq i_ t_), iv qi2, rv qa3, sl13_3, sl13_4, iv (own_dn qi2 (2 * t_ + 1)), iv ng_] [(.int (own_at own_ones (-(own_iq i_ t_)))), (.int (own_dn qi2 (2 * t_ + 1))), .ref qa3])) rfl rfl (hb hby d23_84)
   have N99_ := Fr.snoc X99 N13 g_qa3
   have K100 := K92.wr W99 (Or.inl (mI 0 rfl))
   have A101_ : PA Z h99 qa3 qk4 .byte qi5 (qc6 ++ List.replicate ((own_dec qi1).length - (2 * t_ + 1)) 0 ++ ((own_at own_ones (-(own_iq i_ t_))) :: (own_tg i_ t_))) := own_back2 ((own_dec qi1).length - (2 * t_ + 1)) ((own_dec qi1).length - (2 * t_)) (by have q_ : (2 * t_ + 1) ≤ (own_dec qi1).length := hp13_3; omega) A91_ (own_dnb (k := (2 * t_)) hk1 hk3 (own_dec_len qi1).2 hp13_3) (fits_nar_byte _) ((own_at_nar own_tabn.1 _) : nar .byte (own_at own_ones (-(own_iq i_ t_))) = (own_at own_ones (-(own_iq i_ t_)))) W99
   have pr102 : Pr p e below T99 m 88 #[iv (own_iq i_ t_), iv qi2, rv qa3, sl13_3, sl13_4, iv (own_dn qi2 (2 * t_ + 1)), iv ng_] [(.int (-9 : Int32)), (.int (own_iq i_ t_))] s₁ (entryFrame m #[.int qi1, .int qi2, .ref qa3] 7) := fun t k => pr13 t (by
    show Sx p e below T13 m 72 #[iv (own_iq i_ t_), iv qi2, rv qa3, sl13_3, sl13_4, iv (own_dn qi2 (2 * t_)), iv ng_] [] _
    refine zb X13 Bd d23_72 rfl rfl ?_
    refine XS.iinc X13.here hx rfl (hb hby d23_73) rfl (l' := #[iv (own_iq i_ t_), iv qi2, rv qa3, sl13_3, sl13_4, iv (own_dn qi2 (2 * t_ + 1)), iv ng_]) rfl ?_
    refine zi X13 Bd d23_76 rfl ?_
    refine st93 _ ?_
    refine zj X93 Bd d23_81 rfl ?_
    refine XS.ineg X93.here hx rfl (hb hby d23_82) rfl ?_
    refine X93.baloadBytes hx (j := (-(own_iq i_ t_))) (v := (.int (own_at own_ones (-(own_iq i_ t_))))) (by rw [e93]; exact Ar96.1) (State.isArrayOf_alike hZ.alike Ar96.2.1) Ar96.2.2 hin97 hat97 (g := (mkF m 83 #[iv (own_iq i_ t_), iv qi2, rv qa3, sl13_3, sl13_4, iv (own_dn qi2 (2 * t_ + 1)), iv ng_] [(.int (-(own_iq i_ t_))), .ref Gg0, (.int (own_dn qi2 (2 * t_ + 1))), .ref qa3])) rfl rfl (hb hby d23_83) _ ?_
    refine st99 _ ?_
    refine zj X99 Bd d23_85 rfl ?_
    refine zd X99 Bd d23_86 ?_
    exact k)
   by_cases hc103 : (own_iq i_ t_) < (-9 : Int32)
   ·
    skip
    have O105 := O95.wr W99 g_qa3
    obtain ⟨T104, X104, e104, st104⟩ := getS2 X99 hx hZ hown (host := "") (Or.inl (w228_ hw)) Via.refl e99 (hEN.2.2.1.ext O105.2) (g := (mkF m 97 #[iv (own_iq i_ t_), iv qi2, rv qa3, sl13_3, sl13_4, iv (own_dn qi2 (2 * t_ + 2)), iv ng_] [(.int (own_dn qi2 (2 * t_ + 2))), .ref qa3])) rfl (hb hby d23_97)
    have av106 := (hEN.2.2.2.2.2.ext O105.2)
    obtain ⟨cl106, Ar106, q106, S106, N106, H106, Gf106⟩ := av106
    have hin107 : ¬ ((-(own_iq i_ t_)) < 0 ∨ cl106.slots.size ≤ ((-(own_iq i_ t_)) : Int32).toNatClampNeg) := inb_of S106 (own_inb hp5_0 t_ hp13_2)
    have hat107 : cl106.slots[((-(own_iq i_ t_)) : Int32).toNatClampNeg]? = some (.int (own_at own_tens (-(own_iq i_ t_)))) := Has.at H106 hin107 (own_atV _ _)
    have av108 := A101_
    obtain ⟨cl108, Ar108, q108, S108, N108, H108, Gf108⟩ := av108
    have hin109 := inb_of S108 (own_dnin (k := (2 * t_ + 1)) hk1 hk3 (own_dec_len qi1).2 (own_gL2 (own_gG2 hp5_0 hp13_4 hp13_5 hp13_2 hc103)).1 hk2)
    obtain ⟨T109, h109, X109, e109, W109, st109⟩ := stB X104 hx hZ e104 Ar108 (j := (own_dn qi2 (2 * t_ + 2))) hin109 (g := (mkF m 103 #[iv (own_iq i_ t_), iv qi2, rv qa3, sl13_3, sl13_4, iv (own_dn qi2 (2 * t_ + 2)), iv ng_] [(.int (own_at own_tens (-(own_iq i_ t_)))), (.int (own_dn qi2 (2 * t_ + 2))), .ref qa3])) rfl rfl (hb hby d23_103)
    have N109_ := Fr.snoc X109 N99_ g_qa3
    have K110 := K100.wr W109 (Or.inl (mI 0 rfl))
    have A111_ : PA Z h109 qa3 qk4 .byte qi5 (qc6 ++ List.replicate ((own_dec qi1).length - (2 * t_ + 2)) 0 ++ ((own_at own_tens (-(own_iq i_ t_))) :: ((own_at own_ones (-(own_iq i_ t_))) :: (own_tg i_ t_)))) := own_back2 ((own_dec qi1).length - (2 * t_ + 2)) ((own_dec qi1).length - (2 * t_ + 1)) (by have q_ : (2 * t_ + 2) ≤ (own_dec qi1).length := (own_gL2 (own_gG2 hp5_0 hp13_4 hp13_5 hp13_2 hc103)).1; omega) A101_ (own_dnb (k := (2 * t_ + 1)) hk1 hk3 (own_dec_len qi1).2 (own_gL2 (own_gG2 hp5_0 hp13_4 hp13_5 hp13_2 hc103)).1) (fits_nar_byte _) ((own_at_nar own_tabn.2 _) : nar .byte (own_at own_tens (-(own_iq i_ t_))) = (own_at own_tens (-(own_iq i_ t_)))) W109
    have pr112 : Pr p e below T109 m 106 #[iv (own_iq i_ t_), iv qi2, rv qa3, sl13_3, sl13_4, iv (own_dn qi2 (2 * t_ + 2)), iv ng_] [.int ng_] s₁ (entryFrame m #[.int qi1, .int qi2, .ref qa3] 7) := fun t k => pr102 t (by
     show Sx p e below T99 m 88 #[iv (own_iq i_ t_), iv qi2, rv qa3, sl13_3, sl13_4, iv (own_dn qi2 (2 * t_ + 1)), iv ng_] [(.int (-9 : Int32)), (.int (own_iq i_ t_))] _
     refine zn X99 Bd d23_88 (XT.ii_ge_f (hc103 : (own_iq i_ t_) < (-9 : Int32))) ?_
     refine zb X99 Bd d23_91 rfl rfl ?_
     refine XS.iinc X99.here hx rfl (hb hby d23_92) rfl (l' := #[iv (own_iq i_ t_), iv qi2, rv qa3, sl13_3, sl13_4, iv (own_dn qi2 (2 * t_ + 2)), iv ng_]) rfl ?_
     refine zi X99 Bd d23_95 rfl ?_
     refine st104 _ ?_
     refine zj X104 Bd d23_100 rfl ?_
     refine XS.ineg X104.here hx rfl (hb hby d23_101) rfl ?_
     refine X104.baloadBytes hx (j := (-(own_iq i_ t_))) (v := (.int (own_at own_tens (-(own_iq i_ t_))))) (by rw [e104]; exact Ar106.1) (State.isArrayOf_alike hZ.alike Ar106.2.1) Ar106.2.2 hin107 hat107 (g := (mkF m 102 #[iv (own_iq i_ t_), iv qi2, rv qa3, sl13_3, sl13_4, iv (own_dn qi2 (2 * t_ + 2)), iv ng_] [(.int (-(own_iq i_ t_))), .ref Gg1, (.int (own_dn qi2 (2 * t_ + 2))), .ref qa3])) rfl rfl (hb hby d23_102) _ ?_
     refine st109 _ ?_
     refine zi X109 Bd d23_104 rfl ?_
     exact k)
    by_cases hc113 : ng_ = (0 : Int32)
    ·
     skip
     refine own_lvF X109 Bd (.int (own_dn qi2 (2 * t_ + 2))) e109 ⟨(own_dn qi2 (2 * t_ + 2)), rfl, N109_, K110, (own_sub1 A111_ (own_gE (own_gP (own_ngP hp5_1 hc113) (own_gG2 hp5_0 hp13_4 hp13_5 hp13_2 hc103)) own_gm2'))⟩ rfl (fun fs hr => pr112 _ (by
      show Sx p e below T109 m 106 #[iv (own_iq i_ t_), iv qi2, rv qa3, sl13_3, sl13_4, iv (own_dn qi2 (2 * t_ + 2)), iv ng_] [.int ng_] _
      refine zp (pc' := 118) X109 Bd d23_106 (XT.i0_eq_t (hc113 : ng_ = (0 : Int32))) rfl ?_
      refine zi X109 Bd d23_118 rfl ?_
      exact retI X109 hx Bd.returns (hb hby d23_120) hr))
    ·
     skip
     have av114 := A111_
     obtain ⟨cl114, Ar114, q114, S114, N114, H114, Gf114⟩ := av114
     have hin115 := inb_of S114 (own_dnin (k := (2 * t_ + 2)) hk1 hk3 (own_dec_len qi1).2 ((own_gL2 (own_gG2 hp5_0 hp13_4 hp13_5 hp13_2 hc103)).2 (own_ngN hp5_1 hc113)) hk2)
     obtain ⟨T115, h115, X115, e115, W115, st115⟩ := stB X109 hx hZ e109 Ar114 (j := (own_dn qi2 (2 * t_ + 3))) hin115 (g := (mkF m 117 #[iv (own_iq i_ t_), iv qi2, rv qa3, sl13_3, sl13_4, iv (own_dn qi2 (2 * t_ + 3)), iv ng_] [.int 45, (.int (own_dn qi2 (2 * t_ + 3))), .ref qa3])) rfl rfl (hb hby d23_117)
     have N115_ := Fr.snoc X115 N109_ g_qa3
     have K116 := K110.wr W115 (Or.inl (mI 0 rfl))
     have A117_ : PA Z h115 qa3 qk4 .byte qi5 (qc6 ++ List.replicate ((own_dec qi1).length - (2 * t_ + 3)) 0 ++ ((45 : Int32) :: ((own_at own_tens (-(own_iq i_ t_))) :: ((own_at own_ones (-(own_iq i_ t_))) :: (own_tg i_ t_))))) := own_back2 ((own_dec qi1).length - (2 * t_ + 3)) ((own_dec qi1).length - (2 * t_ + 2)) (by have q_ : (2 * t_ + 3) ≤ (own_dec qi1).length := ((own_gL2 (own_gG2 hp5_0 hp13_4 hp13_5 hp13_2 hc103)).2 (own_ngN hp5_1 hc113)); omega) A111_ (own_dnb (k := (2 * t_ + 2)) hk1 hk3 (own_dec_len qi1).2 ((own_gL2 (own_gG2 hp5_0 hp13_4 hp13_5 hp13_2 hc103)).2 (own_ngN hp5_1 hc113))) (fits_nar_byte _) ((by decide) : nar .byte (45 : Int32) = (45 : Int32)) W115
     refine own_lvF X115 Bd (.int (own_dn qi2 (2 * t_ + 3))) e115 ⟨(own_dn qi2 (2 * t_ + 3)), rfl, N115_, K116, (own_sub1 A117_ (own_gE (own_gN (own_ngN hp5_1 hc113) (own_gG2 hp5_0 hp13_4 hp13_5 hp13_2 hc103)) own_gm3'))⟩ rfl (fun fs hr => pr112 _ (by
      show Sx p e below T109 m 106 #[iv (own_iq i_ t_), iv qi2, rv qa3, sl13_3, sl13_4, iv (own_dn qi2 (2 * t_ + 2)), iv ng_] [.int ng_] _
      refine zo X109 Bd d23_106 (XT.i0_eq_f (hc113 : ¬ (ng_ = (0 : Int32)))) ?_
      refine zb X109 Bd d23_109 rfl rfl ?_
      refine XS.iinc X109.here hx rfl (hb hby d23_110) rfl (l' := #[iv (own_iq i_ t_), iv qi2, rv qa3, sl13_3, sl13_4, iv (own_dn qi2 (2 * t_ + 3)), iv ng_]) rfl ?_
      refine zi X109 Bd d23_113 rfl ?_
      refine zd X109 Bd d23_115 ?_
      refine st115 _ ?_
      refine zi X115 Bd d23_118 rfl ?_
      exact retI X115 hx Bd.returns (hb hby d23_120) hr))
   ·
    skip
    have pr118 : Pr p e below T99 m 106 #[iv (own_iq i_ t_), iv qi2, rv qa3, sl13_3, sl13_4, iv (own_dn qi2 (2 * t_ + 1)), iv ng_] [.int ng_] s₁ (entryFrame m #[.int qi1, .int qi2, .ref qa3] 7) := fun t k => pr102 t (by
     show Sx p e below T99 m 88 #[iv (own_iq i_ t_), iv qi2, rv qa3, sl13_3, sl13_4, iv (own_dn qi2 (2 * t_ + 1)), iv ng_] [(.int (-9 : Int32)), (.int (own_iq i_ t_))] _
     refine zy (pc' := 104) X99 Bd d23_88 (XT.ii_ge_t (hc103 : ¬ ((own_iq i_ t_) < (-9 : Int32)))) rfl ?_
     refine zi X99 Bd d23_104 rfl ?_
     exact k)
    by_cases hc119 : ng_ = (0 : Int32)
    ·
     skip
     refine own_lvF X99 Bd (.int (own_dn qi2 (2 * t_ + 1))) e99 ⟨(own_dn qi2 (2 * t_ + 1)), rfl, N99_, K100, (own_sub1 A101_ (own_gE (own_gP (own_ngP hp5_1 hc119) (own_gG1 hp5_0 hp13_4 hp13_5 hp13_2 hc103)) own_gm1'))⟩ rfl (fun fs hr => pr118 _ (by
      show Sx p e below T99 m 106 #[iv (own_iq i_ t_), iv qi2, rv qa3, sl13_3, sl13_4, iv (own_dn qi2 (2 * t_ + 1)), iv ng_] [.int ng_] _
      refine zp (pc' := 118) X99 Bd d23_106 (XT.i0_eq_t (hc119 : ng_ = (0 : Int32))) rfl ?_
      refine zi X99 Bd d23_118 rfl ?_
      exact retI X99 hx Bd.returns (hb hby d23_120) hr))
    ·
     skip
     have av120 := A101_
     obtain ⟨cl120, Ar120, q120, S120, N120, H120, Gf120⟩ := av120
     have hin121 := inb_of S120 (own_dnin (k := (2 * t_ + 1)) hk1 hk3 (own_dec_len qi1).2 ((own_gL1 (own_gG1 hp5_0 hp13_4 hp13_5 hp13_2 hc103)).2 (own_ngN hp5_1 hc119)) hk2)
     obtain ⟨T121, h121, X121, e121, W121, st121⟩ := stB X99 hx hZ e99 Ar120 (j := (own_dn qi2 (2 * t_ + 2))) hin121 (g := (mkF m 117 #[iv (own_iq i_ t_), iv qi2, rv qa3, sl13_3, sl13_4, iv (own_dn qi2 (2 * t_ + 2)), iv ng_] [.int 45, (.int (own_dn qi2 (2 * t_ + 2))), .ref qa3])) rfl rfl (hb hby d23_117)
     have N121_ := Fr.snoc X121 N99_ g_qa3
     have K122 := K100.wr W121 (Or.inl (mI 0 rfl))
     have A123_ : PA Z h121 qa3 qk4 .byte qi5 (qc6 ++ List.replicate ((own_dec qi1).length - (2 * t_ + 2)) 0 ++ ((45 : Int32) :: ((own_at own_ones (-(own_iq i_ t_))) :: (own_tg i_ t_)))) := own_back2 ((own_dec qi1).length - (2 * t_ + 2)) ((own_dec qi1).length - (2 * t_ + 1)) (by have q_ : (2 * t_ + 2) ≤ (own_dec qi1).length := ((own_gL1 (own_gG1 hp5_0 hp13_4 hp13_5 hp13_2 hc103)).2 (own_ngN hp5_1 hc119)); omega) A101_ (own_dnb (k := (2 * t_ + 1)) hk1 hk3 (own_dec_len qi1).2 ((own_gL1 (own_gG1 hp5_0 hp13_4 hp13_5 hp13_2 hc103)).2 (own_ngN hp5_1 hc119))) (fits_nar_byte _) ((by decide) : nar .byte (45 : Int32) = (45 : Int32)) W121
     refine own_lvF X121 Bd (.int (own_dn qi2 (2 * t_ + 2))) e121 ⟨(own_dn qi2 (2 * t_ + 2)), rfl, N121_, K122, (own_sub1 A123_ (own_gE (own_gN (own_ngN hp5_1 hc119) (own_gG1 hp5_0 hp13_4 hp13_5 hp13_2 hc103)) own_gm2'))⟩ rfl (fun fs hr => pr118 _ (by
      show Sx p e below T99 m 106 #[iv (own_iq i_ t_), iv qi2, rv qa3, sl13_3, sl13_4, iv (own_dn qi2 (2 * t_ + 1)), iv ng_] [.int ng_] _
      refine zo X99 Bd d23_106 (XT.i0_eq_f (hc119 : ¬ (ng_ = (0 : Int32)))) ?_
      refine zb X99 Bd d23_109 rfl rfl ?_
      refine XS.iinc X99.here hx rfl (hb hby d23_110) rfl (l' := #[iv (own_iq i_ t_), iv qi2, rv qa3, sl13_3, sl13_4, iv (own_dn qi2 (2 * t_ + 2)), iv ng_]) rfl ?_
      refine zi X99 Bd d23_113 rfl ?_
      refine zd X99 Bd d23_115 ?_
      refine st121 _ ?_
      refine zi X121 Bd d23_118 rfl ?_
      exact retI X121 hx Bd.returns (hb hby d23_120) hr))
theorem pd18 : parseMethodDescriptor "(II[B)I" = some ⟨[.int, .int, (.array .byte)], some .int⟩ := by decide +kernel
theorem d20_33 : D C24_ 33 .pop 1 := by decide +kernel
theorem d20_34 : D C24_ 34 (.goto 14) 3 := by decide +kernel
theorem d20_48 : D C24_ 48 (.aload_n 0) 1 := by decide +kernel
theorem d20_49 : D C24_ 49 (.iload_n 3) 1 := by decide +kernel
theorem d20_50 : D C24_ 50 (.putfield 79) 3 := by decide +kernel
theorem d20_53 : D C24_ 53 (.aload_n 0) 1 := by decide +kernel
theorem d20_54 : D C24_ 54 .areturn 1 := by decide +kernel
-- java/lang/AbstractStringBuilder.append(I)Ljava/lang/AbstractStringBuilder;
def Q23 (Z : State) (qa1 : Addr) (qi2 : Int32) (qa3 : Addr) (qk4 : ClassId) (qc5 : List Int32) (h0 : Heap) (n0 : Nat) : QT := fun v h L => v = some (.ref qa1) ∧ Fr n0 L ∧ Keep h0 h [qa3, qa1] ∧ Fld Z h qa1 AB_ "count" "I" (.int ((20 : Int32) + (own_wd qi2))) ∧ VA Z h qa1 qa3 ∧ VC Z h qa1 ∧ Exa Z h qa1 SB_ ∧ PA Z h qa3 qk4 .byte (34 : Int32) (qc5 ++ (own_dec qi2))
abbrev l16_ (qa1 : Addr) (qi2 : Int32) : Array Slot := #[rv qa1, iv qi2, iv 20, iv ((20 : Int32) + (own_wd qi2))]
theorem rm23 (hw : HW a0 Z) (G1 : Int32) (Gg0 : Addr) (Gg1 : Addr) (Kg2 : ClassId) (Kg3 : ClassId) (qa1 : Addr) (qi2 : Int32) (qa3 : Addr) (qk4 : ClassId) (qc5 : List Int32) (h0 : Heap) (n0 : Nat) (X00 : Old Z n0 h0) (O2 : CO Z G1) (P5 : NZ G1) (hEN : OwnEN Z Gg0 Gg1 Kg2 Kg3) (F_qa1_count : VN Z h0 qa1 20) (F_qa1_value : VA Z h0 qa1 qa3) (A_qa3 : PA Z h0 qa3 qk4 .byte (34 : Int32) qc5) (F_qa1_coder : VC Z h0 qa1) (hc4 : ¬ ((0 : Int32) < (((20 : Int32) + (own_wd qi2)) - (34 : Int32)))) (E_qa1 : Exa Z h0 qa1 SB_) (hk8 : (((20 : Int32) + (own_wd qi2))).toInt = (((qc5).length + (own_dec qi2).length : Nat) : Int)) (hk9 : (((qc5).length + (own_dec qi2).length : Nat) : Int) ≤ ((34 : Int32)).toInt) (hk10 : (qc5).length ≤ 900) (g_qa3 : n0 ≤ qa3) (ne_qa1_qa3 : qa1 ≠ qa3) (g_qa1 : n0 ≤ qa1) :
    MF l Z Y22_ jdk_68_method_32_code 4 (some (.object AB_)) (Rm 1 0 0 18) #[.ref qa1, .int qi2] h0 (Q23 Z qa1 qi2 qa3 qk4 qc5 h0 n0) := by
 refine own_sF pn3 rfl (fun m => ef15 m qa1 qi2) ?_
 intro p e s m below meth c s₁ Bd hZ hh hx hby hml hown hnm X0 e0 pre0
 have N0 := Fr.nil n0
 obtain ⟨T1, X1, e1, st1⟩ := own_gF 1 #[rv qa1, iv qi2, .unset, .unset] [] X0 hx hZ hown (w108_ hw) Via.refl e0 F_qa1_count (hb hby d20_1)
 obtain ⟨_, T2, L2, X2, hQ2, st2⟩ := own_cS 0 0 [.int 20] 7 #[rv qa1, iv qi2, iv 20, .unset] X1 hx hZ hown (w167_ hw) (w168_ hw) (w169_ hw) (w170_ hw) (rm19 l Z a0 hw  qi2 h0 n0 X00 ) pd1 hml.symm (hb hby d20_7) e1 rfl rfl rfl rfl (by decide)
 obtain ⟨rfl, N2q, e2q⟩ := hQ2
 have N2 := Fr.app N0 N2q
 obtain ⟨_, T3, L3, X3, hQ3, st3⟩ := own_cP 0 0 [] 14 (l16_ qa1 qi2) X2 hx hZ hown E_qa1 (w110_ hw) (w111_ hw) (w113_ hw) (w112_ hw) (w77_ hw) (w114_ hw) (rm20 l Z a0 hw  qa1 ((20 : Int32) + (own_wd qi2)) qa3 qk4 qc5 h0 n0 X00 F_qa1_value A_qa3 F_qa1_coder hc4) pd5 hml.symm (hb hby d20_14) e2q rfl rfl rfl rfl (by decide)
 obtain ⟨rfl, N3q, e3q⟩ := hQ3
 have N3 := Fr.app N2 N3q
 obtain ⟨_, T5, L5, X5, hQ5, st5⟩ := own_cV 0 0 [] 18 (l16_ qa1 qi2) X3 hx hZ hown E_qa1 (w171_ hw) (w172_ hw) (notFace_of_selects (args := #[]) (mvT hZ (w174_ hw))) (w174_ hw) (w173_ hw) (w77_ hw) (w175_ hw) (rm21 l Z a0 hw G1 qa1 h0 n0 X00 O2 P5 F_qa1_coder) pd17 hml.symm (hb hby d20_18) e3q rfl rfl rfl rfl (by decide)
 obtain ⟨rfl, N5q, e5q⟩ := hQ5
 have N5 := Fr.app N3 N5q
 obtain ⟨T6, X6, e6, st6⟩ := own_gF 27 (l16_ qa1 qi2) [(.int ((20 : Int32) + (own_wd qi2))), .int qi2] X5 hx hZ hown (w81_ hw) Via.refl e5q F_qa1_value (hb hby d20_27)
 obtain ⟨_, T7, L7, X7, hQ7, st7⟩ := own_cS 0 0 [] 30 (l16_ qa1 qi2) X6 hx hZ hown (w176_ hw) (w177_ hw) (w169_ hw) (w178_ hw) (rm22 l Z a0 hw Gg0 Gg1 Kg2 Kg3 qi2 ((20 : Int32) + (own_wd qi2)) qa3 qk4 (34 : Int32) qc5 h0 n0 X00 hEN A_qa3 hk8 hk9 hk10 g_qa3) pd18 hml.symm (hb hby d20_30) e6 rfl rfl rfl rfl (by decide)
 obtain ⟨z11_, rfl, N7q, K7q, w12⟩ := hQ7
 have N7 := Fr.app N5 N7q
 have K13 := (Keep.refl h0 [qa3, qa1]).trans K7q (allS (Or.inl (mI 0 rfl)) all0)
 have F14_ := F_qa1_count.keep K7q (ninS ne_qa1_qa3 nin0)
 have E15_ := E_qa1.keep K7q
 obtain ⟨T16, h16, X16, e16, W16, st16⟩ := putF X7 hx hZ hown (host := "") (Or.inl (w108_ hw)) Via.refl rfl F14_ E15_ (Or.inl (w109_ hw)) (w68_ hw) (ty := .int) (by decide) rfl rfl (g := (mkF m 50 (l16_ qa1 qi2) [(.int ((20 : Int32) + (own_wd qi2))), .ref qa1])) rfl rfl (hb hby d20_50)
 have N16 := Fr.snoc X16 N7 g_qa1
 have K17 := K13.wr W16 (Or.inl (mI 1 rfl))
 have F18_ : Fld Z h16 qa1 AB_ "count" "I" (.int ((20 : Int32) + (own_wd qi2))) := F14_.same W16
 have F19_ := F_qa1_value.keep K7q (ninS ne_qa1_qa3 nin0)
 have F20_ := F19_.other W16 (Or.inr (slot_ne (Or.inl (w82_ hw)) (Or.inl (w109_ hw)) (by decide) (t := (.array .byte)) (t' := .int) (by decide) (by decide)))
 have F21_ := F_qa1_coder.keep K7q (ninS ne_qa1_qa3 nin0)
 have F22_ := F21_.other W16 (Or.inr (slot_ne (Or.inl (w84_ hw)) (Or.inl (w109_ hw)) (by decide) (t := .byte) (t' := .int) (by decide) (by decide)))
 have E23_ := E15_.wr W16
 have A24_ := w12.other W16 (Ne.symm ne_qa1_qa3)
 refine own_lvF X16 Bd (.ref qa1) e16 ⟨rfl, N16, K17, F18_, F20_, F22_, E23_, A24_⟩ rfl (fun fs hr => pre0 _ (by
  show Sx p e below s₁ m 0 #[rv qa1, iv qi2, .unset, .unset] [] _
  refine zb X0 Bd d20_0 rfl rfl ?_
  refine st1 _ ?_
  refine zt X1 Bd d20_4 (l' := #[rv qa1, iv qi2, iv 20, .unset]) rfl ?_
  refine zj X1 Bd d20_5 rfl ?_
  refine zj X1 Bd d20_6 rfl ?_
  refine st2 _ ?_
  refine XS.iadd X2.here hx rfl (hb hby d20_10) rfl ?_
  refine zt X2 Bd d20_11 (l' := (l16_ qa1 qi2)) rfl ?_
  refine zb X2 Bd d20_12 rfl rfl ?_
  refine zj X2 Bd d20_13 rfl ?_
  refine st3 _ ?_
  refine zb X3 Bd d20_17 rfl rfl ?_
  refine st5 _ ?_
  refine zo X5 Bd d20_21 (XT.i0_eq_f ((by decide) : ¬ ((1 : Int32) = (0 : Int32)))) ?_
  refine zj X5 Bd d20_24 rfl ?_
  refine zj X5 Bd d20_25 rfl ?_
  refine zb X5 Bd d20_26 rfl rfl ?_
  refine st6 _ ?_
  refine st7 _ ?_
  refine XS.pop X7.here hx rfl (hb hby d20_33) rfl rfl ?_
  refine zg (pc' := 48) X7 Bd d20_34 rfl ?_
  refine zb X7 Bd d20_48 rfl rfl ?_
  refine zj X7 Bd d20_49 rfl ?_
  refine st16 _ ?_
  refine zb X16 Bd d20_53 rfl rfl ?_
  exact retOut X16 hx Bd.returns rfl (Or.inr (Or.inr (Or.inr (Or.inr ⟨rfl, rfl, rfl⟩)))) (hb hby d20_54) hr))
theorem pd19 : parseMethodDescriptor "(I)Ljava/lang/AbstractStringBuilder;" = some ⟨[.int], some (.object AB_)⟩ := by decide +kernel
theorem d19_5 : D C22_ 5 .pop 1 := by decide +kernel
theorem d19_6 : D C22_ 6 (.aload_n 0) 1 := by decide +kernel
theorem d19_7 : D C22_ 7 .areturn 1 := by decide +kernel
-- java/lang/StringBuilder.append(I)Ljava/lang/StringBuilder;
def Q24 (Z : State) (qa1 : Addr) (qi2 : Int32) (qa3 : Addr) (qk4 : ClassId) (qc5 : List Int32) (h0 : Heap) (n0 : Nat) : QT := fun v h L => v = some (.ref qa1) ∧ Fr n0 L ∧ Keep h0 h [qa1, qa3] ∧ Exa Z h qa1 SB_ ∧ Fld Z h qa1 AB_ "count" "I" (.int ((20 : Int32) + (own_wd qi2))) ∧ VA Z h qa1 qa3 ∧ VC Z h qa1 ∧ PA Z h qa3 qk4 .byte (34 : Int32) (qc5 ++ (own_dec qi2))
theorem rm24 (hw : HW a0 Z) (G1 : Int32) (Gg0 : Addr) (Gg1 : Addr) (Kg2 : ClassId) (Kg3 : ClassId) (qa1 : Addr) (qi2 : Int32) (qa3 : Addr) (qk4 : ClassId) (qc5 : List Int32) (h0 : Heap) (n0 : Nat) (X00 : Old Z n0 h0) (O2 : CO Z G1) (P5 : NZ G1) (hEN : OwnEN Z Gg0 Gg1 Kg2 Kg3) (F_qa1_count : VN Z h0 qa1 20) (F_qa1_value : VA Z h0 qa1 qa3) (A_qa3 : PA Z h0 qa3 qk4 .byte (34 : Int32) qc5) (F_qa1_coder : VC Z h0 qa1) (hc2 : ¬ ((0 : Int32) < (((20 : Int32) + (own_wd qi2)) - (34 : Int32)))) (E_qa1 : Exa Z h0 qa1 SB_) (hk3 : (((20 : Int32) + (own_wd qi2))).toInt = (((qc5).length + (own_dec qi2).length : Nat) : Int)) (hk4 : (((qc5).length + (own_dec qi2).length : Nat) : Int) ≤ ((34 : Int32)).toInt) (hk5 : (qc5).length ≤ 900) (g_qa3 : n0 ≤ qa3) (ne_qa1_qa3 : qa1 ≠ qa3) (g_qa1 : n0 ≤ qa1) :
    MF l Z Y23_ jdk_67_method_15_code 2 (some (.object SB_)) (Rm 2 0 0 33) #[.ref qa1, .int qi2] h0 (Q24 Z qa1 qi2 qa3 qk4 qc5 h0 n0) := by
 refine own_sF pn2 rfl (fun m => ef6 m qa1 qi2) ?_
 intro p e s m below meth c s₁ Bd hZ hh hx hby hml hown hnm X0 e0 pre0
 have N0 := Fr.nil n0
 obtain ⟨_, T1, L1, X1, hQ1, st1⟩ := own_cU 0 0 [] 2 #[rv qa1, iv qi2] X0 hx hZ hown E_qa1 (w163_ hw) (own_same (w164_ hw) (w113_ hw) rfl (by decide)) (w164_ hw) (w95_ hw) (w77_ hw) (w166_ hw) (rm23 l Z a0 hw G1 Gg0 Gg1 Kg2 Kg3 qa1 qi2 qa3 qk4 qc5 h0 n0 X00 O2 P5 hEN F_qa1_count F_qa1_value A_qa3 F_qa1_coder hc2 E_qa1 hk3 hk4 hk5 g_qa3 ne_qa1_qa3 g_qa1) pd19 hml.symm (hb hby d19_2) e0 rfl rfl rfl rfl (by decide)
 obtain ⟨rfl, N1q, K1q, w6, w7, w8, w9, w10⟩ := hQ1
 have N1 := Fr.app N0 N1q
 have K11 := (Keep.refl h0 [qa1, qa3]).trans K1q (allS (Or.inl (mI 1 rfl)) (allS (Or.inl (mI 0 rfl)) all0))
 have E12_ := E_qa1.keep K1q
 refine own_lvF X1 Bd (.ref qa1) rfl ⟨rfl, N1, K11, E12_, w6, w7, w8, w10⟩ rfl (fun fs hr => pre0 _ (by
  show Sx p e below s₁ m 0 #[rv qa1, iv qi2] [] _
  refine zb X0 Bd d19_0 rfl rfl ?_
  refine zj X0 Bd d19_1 rfl ?_
  refine st1 _ ?_
  refine XS.pop X1.here hx rfl (hb hby d19_5) rfl rfl ?_
  refine zb X1 Bd d19_6 rfl rfl ?_
  exact retOut X1 hx Bd.returns rfl (Or.inr (Or.inr (Or.inr (Or.inr ⟨rfl, rfl, rfl⟩)))) (hb hby d19_7) hr))
theorem pd20 : parseMethodDescriptor "(I)Ljava/lang/StringBuilder;" = some ⟨[.int], some (.object SB_)⟩ := by decide +kernel
theorem d4_19 : D C3_ 19 (.ldc 31) 2 := by decide +kernel
theorem d4_21 : D C3_ 21 (.invokevirtual 24) 3 := by decide +kernel
-- java/lang/Math.max(II)I
def Q25 (Z : State)  (h0 : Heap) (n0 : Nat) : QT := fun v h L => v = some (.int 36) ∧ Fr n0 L ∧ h = h0
theorem rm25 (hw : HW a0 Z) (qi1 : Int32) (h0 : Heap) (n0 : Nat) (X00 : Old Z n0 h0) (hc1 : qi1 < (36 : Int32)) :
    MF l Z Y6_ jdk_29_method_65_code 2 (some .int) (Rm 0 0 0 0) #[.int qi1, .int 36] h0 (Q25 Z  h0 n0) := by
 refine own_sFm (K := "java/lang/Math") (by decide +kernel) rfl (fun m => ef12 m qi1 (36 : Int32)) ?_
 intro p e s m below meth c s₁ Bd hZ hh hx hby hml hown hnm X0 e0 pre0
 have N0 := Fr.nil n0
 refine own_lvF X0 Bd (.int 36) e0 ⟨rfl, N0, rfl⟩ rfl (fun fs hr => pre0 _ (by
  show Sx p e below s₁ m 0 #[iv qi1, iv 36] [] _
  refine zj X0 Bd d12_0 rfl ?_
  refine zj X0 Bd d12_1 rfl ?_
  refine zy (pc' := 9) X0 Bd d12_2 (XT.ii_lt_t (hc1 : qi1 < (36 : Int32))) rfl ?_
  refine zj X0 Bd d12_9 rfl ?_
  exact retI X0 hx Bd.returns (hb hby d12_10) hr))
-- jdk/internal/util/ArraysSupport.newLength(III)I
def Q26 (Z : State)  (h0 : Heap) (n0 : Nat) : QT := fun v h L => v = some (.int 70) ∧ Fr n0 L ∧ h = h0
theorem rm26 (hw : HW a0 Z) (qi1 : Int32) (h0 : Heap) (n0 : Nat) (X00 : Old Z n0 h0) (hc2 : qi1 < (36 : Int32)) :
    MF l Z Y7_ jdk_48_method_27_code 4 (some .int) (Rm 1 0 0 14) #[.int 34, .int qi1, .int 36] h0 (Q26 Z  h0 n0) := by
 refine own_sF pn4 rfl (fun m => ef11 m (34 : Int32) qi1 (36 : Int32)) ?_
 intro p e s m below meth c s₁ Bd hZ hh hx hby hml hown hnm X0 e0 pre0
 have N0 := Fr.nil n0
 obtain ⟨_, T1, L1, X1, hQ1, st1⟩ := own_cS 0 0 [.int 34] 3 #[iv 34, iv qi1, iv 36, .unset] X0 hx hZ hown (w124_ hw) (w125_ hw) (w126_ hw) (w127_ hw) (rm25 l Z a0 hw  qi1 h0 n0 X00 hc2) pd8 hml.symm (hb hby d11_3) e0 rfl rfl rfl rfl (by decide)
 obtain ⟨rfl, N1q, e1q⟩ := hQ1
 have N1 := Fr.app N0 N1q
 refine own_lvF X1 Bd (.int 70) e1q ⟨rfl, N1, rfl⟩ rfl (fun fs hr => pre0 _ (by
  show Sx p e below s₁ m 0 #[iv 34, iv qi1, iv 36, .unset] [] _
  refine zj X0 Bd d11_0 rfl ?_
  refine zj X0 Bd d11_1 rfl ?_
  refine zj X0 Bd d11_2 rfl ?_
  refine st1 _ ?_
  refine XS.iadd X1.here hx rfl (hb hby d11_6) rfl ?_
  refine zt X1 Bd d11_7 (l' := #[iv 34, iv qi1, iv 36, iv 70]) rfl ?_
  refine zc X1 Bd d11_8 ?_
  refine zj X1 Bd d11_9 rfl ?_
  refine zn X1 Bd d11_10 (XT.ii_ge_f ((by decide) : (0 : Int32) < (70 : Int32))) ?_
  refine zj X1 Bd d11_13 rfl ?_
  refine X1.ldcInt hx hown (mvT hZ (w128_ hw)) (g := (mkF m 14 #[iv 34, iv qi1, iv 36, iv 70] [.int 70])) rfl (hb hby d11_14) _ ?_
  refine zn X1 Bd d11_16 (XT.ii_gt_f ((by decide) : ¬ ((2147483639 : Int32) < (70 : Int32)))) ?_
  refine zj X1 Bd d11_19 rfl ?_
  exact retI X1 hx Bd.returns (hb hby d11_20) hr))
-- java/lang/AbstractStringBuilder.newCapacity(I)I
def Q27 (Z : State)  (h0 : Heap) (n0 : Nat) : QT := fun v h L => v = some (.int 70) ∧ Fr n0 L ∧ h = h0
abbrev l17_ (qa1 : Addr) (qi2 : Int32) : Array Slot := #[rv qa1, iv qi2, iv 34, iv (qi2 <<< ((0 : Int32) &&& 31)), iv ((qi2 <<< ((0 : Int32) &&& 31)) - (34 : Int32)), .unset]
abbrev l18_ (qa1 : Addr) (qi2 : Int32) : Array Slot := #[rv qa1, iv qi2, iv 34, iv (qi2 <<< ((0 : Int32) &&& 31)), iv ((qi2 <<< ((0 : Int32) &&& 31)) - (34 : Int32)), iv 70]
theorem rm27 (hw : HW a0 Z) (qa1 : Addr) (qi2 : Int32) (qa3 : Addr) (qk4 : ClassId) (qc5 : List Int32) (h0 : Heap) (n0 : Nat) (X00 : Old Z n0 h0) (F_qa1_value : VA Z h0 qa1 qa3) (A_qa3 : PA Z h0 qa3 qk4 .byte (34 : Int32) qc5) (F_qa1_coder : VC Z h0 qa1) (hc6 : ((qi2 <<< ((0 : Int32) &&& 31)) - (34 : Int32)) < (36 : Int32)) :
    MF l Z Y8_ jdk_68_method_10_code 6 (some .int) (Rm 2 0 0 29) #[.ref qa1, .int qi2] h0 (Q27 Z  h0 n0) := by
 refine own_sF pn3 rfl (fun m => ef10 m qa1 qi2) ?_
 intro p e s m below meth c s₁ Bd hZ hh hx hby hml hown hnm X0 e0 pre0
 have N0 := Fr.nil n0
 obtain ⟨T1, X1, e1, st1⟩ := own_gF 1 #[rv qa1, iv qi2, .unset, .unset, .unset, .unset] [] X0 hx hZ hown (w81_ hw) Via.refl e0 F_qa1_value (hb hby d10_1)
 have av2 := A_qa3
 obtain ⟨cl2, Ar2, q2, S2, N2, H2, Gf2⟩ := av2
 obtain ⟨T3, X3, e3, st3⟩ := own_gF 8 #[rv qa1, iv qi2, iv 34, .unset, .unset, .unset] [.int qi2] X1 hx hZ hown (w83_ hw) Via.refl e1 F_qa1_coder (hb hby d10_8)
 obtain ⟨T4, X4, e4, st4⟩ := own_gF 24 (l17_ qa1 qi2) [.int 2, .int 34, (.int ((qi2 <<< ((0 : Int32) &&& 31)) - (34 : Int32))), .int 34] X3 hx hZ hown (w83_ hw) Via.refl e3 F_qa1_coder (hb hby d10_24)
 obtain ⟨_, T5, L5, X5, hQ5, st5⟩ := own_cS 0 0 [] 29 (l17_ qa1 qi2) X4 hx hZ hown (w120_ hw) (w121_ hw) (w122_ hw) (w123_ hw) (rm26 l Z a0 hw  ((qi2 <<< ((0 : Int32) &&& 31)) - (34 : Int32)) h0 n0 X00 hc6) pd9 hml.symm (hb hby d10_29) e4 rfl rfl rfl rfl (by decide)
 obtain ⟨rfl, N5q, e5q⟩ := hQ5
 have N5 := Fr.app N0 N5q
 obtain ⟨T7, X7, e7, st7⟩ := own_gF 54 (l18_ qa1 qi2) [.int 70] X5 hx hZ hown (w83_ hw) Via.refl e5q F_qa1_coder (hb hby d10_54)
 refine own_lvF X7 Bd (.int 70) e7 ⟨rfl, N5, rfl⟩ rfl (fun fs hr => pre0 _ (by
  show Sx p e below s₁ m 0 #[rv qa1, iv qi2, .unset, .unset, .unset, .unset] [] _
  refine zb X0 Bd d10_0 rfl rfl ?_
  refine st1 _ ?_
  refine X1.arraylength hx (by rw [e1]; exact Ar2.1) (State.isArrayOf_alike hZ.alike Ar2.2.1) (g := (mkF m 4 #[rv qa1, iv qi2, .unset, .unset, .unset, .unset] [.ref qa3])) rfl rfl (hb hby d10_4) _ ?_
  rw [len_of S2 N2]
  refine zt X1 Bd d10_5 (l' := #[rv qa1, iv qi2, iv 34, .unset, .unset, .unset]) rfl ?_
  refine zj X1 Bd d10_6 rfl ?_
  refine zb X1 Bd d10_7 rfl rfl ?_
  refine st3 _ ?_
  refine XS.ishl X3.here hx rfl (hb hby d10_11) rfl ?_
  refine zt X3 Bd d10_12 (l' := #[rv qa1, iv qi2, iv 34, iv (qi2 <<< ((0 : Int32) &&& 31)), .unset, .unset]) rfl ?_
  refine zj X3 Bd d10_13 rfl ?_
  refine zj X3 Bd d10_14 rfl ?_
  refine XS.isub X3.here hx rfl (hb hby d10_15) rfl ?_
  refine zs X3 Bd d10_16 (l' := (l17_ qa1 qi2)) rfl ?_
  refine zj X3 Bd d10_18 rfl ?_
  refine zi X3 Bd d10_19 rfl ?_
  refine zj X3 Bd d10_21 rfl ?_
  refine zc X3 Bd d10_22 ?_
  refine zb X3 Bd d10_23 rfl rfl ?_
  refine st4 _ ?_
  refine XS.ishl X4.here hx rfl (hb hby d10_27) rfl ?_
  refine XS.iadd X4.here hx rfl (hb hby d10_28) rfl ?_
  refine st5 _ ?_
  refine zs X5 Bd d10_32 (l' := (l18_ qa1 qi2)) rfl ?_
  refine zi X5 Bd d10_34 rfl ?_
  refine X5.ldcInt hx hown (mvT hZ (w129_ hw)) (g := (mkF m 36 (l18_ qa1 qi2) [.int 70])) rfl (hb hby d10_36) _ ?_
  refine zy (pc' := 51) X5 Bd d10_38 (XT.ii_ne_t ((by decide) : ¬ ((70 : Int32) = (2147483647 : Int32)))) rfl ?_
  refine zi X5 Bd d10_51 rfl ?_
  refine zb X5 Bd d10_53 rfl rfl ?_
  refine st7 _ ?_
  refine XS.ishr X7.here hx rfl (hb hby d10_57) rfl ?_
  exact retI X7 hx Bd.returns (hb hby d10_58) hr))
-- java/lang/Math.min(II)I
def Q28 (Z : State)  (h0 : Heap) (n0 : Nat) : QT := fun v h L => v = some (.int 34) ∧ Fr n0 L ∧ h = h0
theorem rm28 (hw : HW a0 Z)  (h0 : Heap) (n0 : Nat) (X00 : Old Z n0 h0)  :
    MF l Z Y9_ jdk_29_method_69_code 2 (some .int) (Rm 0 0 0 0) #[.int 34, .int 70] h0 (Q28 Z  h0 n0) := by
 refine own_sFm (K := "java/lang/Math") (by decide +kernel) rfl (fun m => ef12 m (34 : Int32) (70 : Int32)) ?_
 intro p e s m below meth c s₁ Bd hZ hh hx hby hml hown hnm X0 e0 pre0
 have N0 := Fr.nil n0
 refine own_lvF X0 Bd (.int 34) e0 ⟨rfl, N0, rfl⟩ rfl (fun fs hr => pre0 _ (by
  show Sx p e below s₁ m 0 #[iv 34, iv 70] [] _
  refine zj X0 Bd d14_0 rfl ?_
  refine zj X0 Bd d14_1 rfl ?_
  refine zn X0 Bd d14_2 (XT.ii_gt_f ((by decide) : ¬ ((70 : Int32) < (34 : Int32)))) ?_
  refine zj X0 Bd d14_5 rfl ?_
  refine zg (pc' := 10) X0 Bd d14_6 rfl ?_
  exact retI X0 hx Bd.returns (hb hby d14_10) hr))
-- java/util/Arrays.copyOf([BI)[B
def Q29 (Z : State) (qc3 : List Int32) (h0 : Heap) (n0 : Nat) : QT := fun v h L => ∃ b2 : Addr, ∃ c2 : ClassId, v = some (.ref b2) ∧ Fr n0 L ∧ Keep h0 h [] ∧ h0.size ≤ b2 ∧ Exa Z h b2 "[B" ∧ PA Z h b2 c2 .byte (70 : Int32) qc3
theorem rm29 (hw : HW a0 Z) (qa1 : Addr) (qk2 : ClassId) (qc3 : List Int32) (h0 : Heap) (n0 : Nat) (X00 : Old Z n0 h0) (A_qa1 : PA Z h0 qa1 qk2 .byte (34 : Int32) qc3) (hk10 : ((0 : Int32)).toNatClampNeg = (([] : List Int32)).length) (hk11 : ((0 : Int32)).toNatClampNeg + ((34 : Int32)).toNatClampNeg ≤ ((34 : Int32)).toNatClampNeg) (hk12 : ((0 : Int32)).toNatClampNeg + ((34 : Int32)).toNatClampNeg ≤ ((70 : Int32)).toNatClampNeg) (hk13 : (qc3).length ≤ ((34 : Int32)).toNatClampNeg) :
    MF l Z Y10_ jdk_65_method_121_code 3 (some (.array .byte)) (Rm 1 1 70 18) #[.ref qa1, .int 70] h0 (Q29 Z qc3 h0 n0) := by
 refine own_sF pn5 rfl (fun m => ef9 m qa1 (70 : Int32)) ?_
 intro p e s m below meth c s₁ Bd hZ hh hx hby hml hown hnm X0 e0 pre0
 have N0 := Fr.nil n0
 have av1 := A_qa1
 obtain ⟨cl1, Ar1, q1, S1, N1, H1, Gf1⟩ := av1
 obtain ⟨T2, h2, c2, X2, e2, E2, A2, Ex2, st2⟩ := own_newPE X0 hx hZ (w38_ hw) e0 (g := (mkF m 15 #[rv qa1, iv 70, .unset] [.int 70])) rfl (hb hby d13_15) rfl (by decide) (cap := 70) (by decide) (lE rfl) (lE rfl) (lE rfl)
 obtain ⟨b2, g2⟩ : ∃ z, z = h0.size := ⟨_, rfl⟩
 rw [← g2] at A2 st2 Ex2
 replace X2 : Stand p l e (Rm 1 1 70 18) s m #[.ref qa1, .int 70] below meth c T2 _ 1 70 := X2
 have K3 := (Keep.refl h0 []).ext E2
 have A4_ : PA Z h2 b2 c2 .byte (70 : Int32) ([] : List Int32) := Arv.new A2 (by decide)
 have A6_ := A_qa1.ext E2
 have av5 := A6_
 obtain ⟨cl5, Ar5, q5, S5, N5, H5, Gf5⟩ := av5
 have O8 := X00.ext E2
 obtain ⟨_, T7, L7, X7, hQ7, st7⟩ := own_cS 1 70 [.int 0, .ref b2, .int 0, .ref qa1] 25 #[rv qa1, iv 70, rv b2] X2 hx hZ hown (w134_ hw) (w135_ hw) (w126_ hw) (w136_ hw) (rm28 l Z a0 hw   h2 n0 O8 ) pd8 hml.symm (hb hby d13_25) e2 rfl rfl rfl rfl (by decide)
 obtain ⟨rfl, N7q, e7q⟩ := hQ7
 have N7 := Fr.app N0 N7q
 have Ad9 := (A4_).pad (own_repl ((34 : Int32)).toNatClampNeg ([] : List Int32))
 have g_b2 : n0 ≤ b2 := Nat.le_trans (Nat.le_trans (Nat.le_of_eq X00.1.symm) X00.2.1) (Nat.le_of_eq g2.symm)
 obtain ⟨T9, h9, L9, X9, e9, N9, K9q, A9, st9⟩ := cpA X7 hx hZ hown (w137_ hw) (w140_ hw) (w138_ hw) (w139_ hw) e7q (vs := qc3.map Value.int) (vd := (([] : List Int32) ++ List.replicate ((34 : Int32)).toNatClampNeg 0).map Value.int) A6_ Ad9 (Or.inl ⟨rfl, rfl⟩) (by decide) (by decide) (by decide) hk11 hk12 rfl (by rw [List.length_map, List.length_append, List.length_replicate, hk10]; exact Nat.le_refl _) N7 g_b2 (g := (mkF m 28 #[rv qa1, iv 70, rv b2] [.int 34, .int 0, .ref b2, .int 0, .ref qa1])) rfl hml.symm rfl (hb hby d13_28) (by decide) (W := 0) (own_hw rfl) (by decide)
 have sz_b2 : h0.size ≤ b2 := (Nat.le_of_eq g2.symm)
 have K14 := K3.trans K9q (allS (Or.inr sz_b2) all0)
 have A15_ : PA Z h9 b2 c2 .byte (70 : Int32) qc3 := A9.pad (own_cpl (S := qc3) (D := ([] : List Int32)) hk10 hk13)
 have E16_ := Ex2.keep K9q
 refine own_lvF X9 Bd (.ref b2) e9 ⟨b2, c2, rfl, N9, K14, sz_b2, E16_, A15_⟩ rfl (fun fs hr => pre0 _ (by
  show Sx p e below s₁ m 0 #[rv qa1, iv 70, .unset] [] _
  refine zj X0 Bd d13_0 rfl ?_
  refine zb X0 Bd d13_1 rfl rfl ?_
  refine X0.arraylength hx (by rw [e0]; exact Ar1.1) (State.isArrayOf_alike hZ.alike Ar1.2.1) (g := (mkF m 2 #[rv qa1, iv 70, .unset] [.ref qa1, .int 70])) rfl rfl (hb hby d13_2) _ ?_
  rw [len_of S1 N1]
  refine zy (pc' := 14) X0 Bd d13_3 (XT.ii_ne_t ((by decide) : ¬ ((70 : Int32) = (34 : Int32)))) rfl ?_
  refine zj X0 Bd d13_14 rfl ?_
  refine st2 _ ?_
  refine XS.astoreN X2.here hx rfl (hb hby d13_17) rfl rfl (l' := #[rv qa1, iv 70, rv b2]) rfl ?_
  refine zb X2 Bd d13_18 rfl rfl ?_
  refine zc X2 Bd d13_19 ?_
  refine zb X2 Bd d13_20 rfl rfl ?_
  refine zc X2 Bd d13_21 ?_
  refine zb X2 Bd d13_22 rfl rfl ?_
  refine X2.arraylength hx (by rw [e2]; exact Ar5.1) (State.isArrayOf_alike hZ.alike Ar5.2.1) (g := (mkF m 23 #[rv qa1, iv 70, rv b2] [.ref qa1, .int 0, .ref b2, .int 0, .ref qa1])) rfl rfl (hb hby d13_23) _ ?_
  rw [len_of S5 N5]
  refine zj X2 Bd d13_24 rfl ?_
  refine st7 _ ?_
  refine st9 _ ?_
  refine zb X9 Bd d13_31 rfl rfl ?_
  exact retOut X9 hx Bd.returns rfl (Or.inr (Or.inr (Or.inr (Or.inr ⟨rfl, rfl, rfl⟩)))) (hb hby d13_32) hr))
-- java/lang/AbstractStringBuilder.ensureCapacityInternal(I)V
def Q30 (Z : State) (qa1 : Addr) (qc5 : List Int32) (qi6 : Int32) (h0 : Heap) (n0 : Nat) : QT := fun v h L => ∃ b14 : Addr, ∃ c15_ : ClassId, v = none ∧ Fr n0 L ∧ Keep h0 h [qa1] ∧ h0.size ≤ b14 ∧ VA Z h qa1 b14 ∧ VC Z h qa1 ∧ Exa Z h qa1 SB_ ∧ VN Z h qa1 qi6 ∧ Exa Z h b14 "[B" ∧ PA Z h b14 c15_ .byte (70 : Int32) qc5
theorem rm30 (hw : HW a0 Z) (qa1 : Addr) (qi2 : Int32) (qa3 : Addr) (qk4 : ClassId) (qc5 : List Int32) (qi6 : Int32) (h0 : Heap) (n0 : Nat) (X00 : Old Z n0 h0) (F_qa1_value : VA Z h0 qa1 qa3) (A_qa3 : PA Z h0 qa3 qk4 .byte (34 : Int32) qc5) (F_qa1_coder : VC Z h0 qa1) (hc4 : (0 : Int32) < (qi2 - (34 : Int32))) (hc7 : ((qi2 <<< ((0 : Int32) &&& 31)) - (34 : Int32)) < (36 : Int32)) (E_qa1 : Exa Z h0 qa1 SB_) (hk10 : ((0 : Int32)).toNatClampNeg = (([] : List Int32)).length) (hk11 : ((0 : Int32)).toNatClampNeg + ((34 : Int32)).toNatClampNeg ≤ ((34 : Int32)).toNatClampNeg) (hk12 : ((0 : Int32)).toNatClampNeg + ((34 : Int32)).toNatClampNeg ≤ ((70 : Int32)).toNatClampNeg) (hk13 : (qc5).length ≤ ((34 : Int32)).toNatClampNeg) (g_qa1 : n0 ≤ qa1) (F_qa1_count : VN Z h0 qa1 qi6) :
    MF l Z Y11_ jdk_68_method_9_code 3 none (Rm 3 1 70 48) #[.ref qa1, .int qi2] h0 (Q30 Z qa1 qc5 qi6 h0 n0) := by
 refine own_sF pn3 rfl (fun m => ef9 m qa1 qi2) ?_
 intro p e s m below meth c s₁ Bd hZ hh hx hby hml hown hnm X0 e0 pre0
 have N0 := Fr.nil n0
 obtain ⟨T1, X1, e1, st1⟩ := own_gF 1 #[rv qa1, iv qi2, .unset] [] X0 hx hZ hown (w81_ hw) Via.refl e0 F_qa1_value (hb hby d9_1)
 have av2 := A_qa3
 obtain ⟨cl2, Ar2, q2, S2, N2, H2, Gf2⟩ := av2
 obtain ⟨T3, X3, e3, st3⟩ := own_gF 6 #[rv qa1, iv qi2, .unset] [.int 34] X1 hx hZ hown (w83_ hw) Via.refl e1 F_qa1_coder (hb hby d9_6)
 obtain ⟨T5, X5, e5, st5⟩ := own_gF 19 #[rv qa1, iv qi2, iv 34] [.ref qa1] X3 hx hZ hown (w81_ hw) Via.refl e3 F_qa1_value (hb hby d9_19)
 obtain ⟨_, T6, L6, X6, hQ6, st6⟩ := own_cP 0 0 [.ref qa3, .ref qa1] 24 #[rv qa1, iv qi2, iv 34] X5 hx hZ hown E_qa1 (w115_ hw) (w116_ hw) (w118_ hw) (w117_ hw) (w77_ hw) (w119_ hw) (rm27 l Z a0 hw  qa1 qi2 qa3 qk4 qc5 h0 n0 X00 F_qa1_value A_qa3 F_qa1_coder hc7) pd1 hml.symm (hb hby d9_24) e5 rfl rfl rfl rfl (by decide)
 obtain ⟨rfl, N6q, e6q⟩ := hQ6
 have N6 := Fr.app N0 N6q
 obtain ⟨T8, X8, e8, st8⟩ := own_gF 28 #[rv qa1, iv qi2, iv 34] [.int 70, .ref qa3, .ref qa1] X6 hx hZ hown (w83_ hw) Via.refl e6q F_qa1_coder (hb hby d9_28)
 obtain ⟨_, T9, L9, X9, hQ9, st9⟩ := own_cS 1 70 [.ref qa1] 32 #[rv qa1, iv qi2, iv 34] X8 hx hZ hown (w130_ hw) (w131_ hw) (w132_ hw) (w133_ hw) (rm29 l Z a0 hw  qa3 qk4 qc5 h0 n0 X00 A_qa3 hk10 hk11 hk12 hk13) pd10 hml.symm (hb hby d9_32) e8 rfl rfl rfl rfl (by decide)
 obtain ⟨b14, c15_, rfl, N9q, K9q, w16, w17, w18⟩ := hQ9
 have N9 := Fr.app N6 N9q
 have K19 := (Keep.refl h0 [qa1]).trans K9q (fun x q => nomatch q)
 have F20_ := F_qa1_value.keep K9q nin0
 have E21_ := E_qa1.keep K9q
 obtain ⟨T22, h22, X22, e22, W22, st22⟩ := putF X9 hx hZ hown (host := "") (Or.inl (w81_ hw)) Via.refl rfl F20_ E21_ (Or.inl (w82_ hw)) (w68_ hw) (ty := (.array .byte)) (by decide) rfl rfl (g := (mkF m 35 #[rv qa1, iv qi2, iv 34] [.ref b14, .ref qa1])) rfl rfl (hb hby d9_35)
 have N22 := Fr.snoc X22 N9 g_qa1
 have K23 := K19.wr W22 (Or.inl (mI 0 rfl))
 have F24_ : VA Z h22 qa1 b14 := F20_.same W22
 have sz_b14 : h0.size ≤ b14 := w16
 have F25_ := F_qa1_coder.keep K9q nin0
 have F26_ := F25_.other W22 (Or.inr (slot_ne (Or.inl (w84_ hw)) (Or.inl (w82_ hw)) (by decide) (t := .byte) (t' := (.array .byte)) (by decide) (by decide)))
 have E27_ := E21_.wr W22
 have F28_ := F_qa1_count.keep K9q nin0
 have F29_ := F28_.other W22 (Or.inr (slot_ne (Or.inl (w109_ hw)) (Or.inl (w82_ hw)) (by decide) (t := .int) (t' := (.array .byte)) (by decide) (by decide)))
 have E30_ := w17.wr W22
 have nx31 : qa1 ≠ b14 := (Nat.ne_of_lt (Nat.lt_of_lt_of_le F_qa1_coder.lt w16))
 have A32_ := w18.other W22 (Ne.symm nx31)
 refine own_lvN X22 Bd e22 ⟨b14, c15_, rfl, N22, K23, sz_b14, F24_, F26_, E27_, F29_, E30_, A32_⟩ rfl (fun fs hr => pre0 _ (by
  show Sx p e below s₁ m 0 #[rv qa1, iv qi2, .unset] [] _
  refine zb X0 Bd d9_0 rfl rfl ?_
  refine st1 _ ?_
  refine X1.arraylength hx (by rw [e1]; exact Ar2.1) (State.isArrayOf_alike hZ.alike Ar2.2.1) (g := (mkF m 4 #[rv qa1, iv qi2, .unset] [.ref qa3])) rfl rfl (hb hby d9_4) _ ?_
  rw [len_of S2 N2]
  refine zb X1 Bd d9_5 rfl rfl ?_
  refine st3 _ ?_
  refine XS.ishr X3.here hx rfl (hb hby d9_9) rfl ?_
  refine zt X3 Bd d9_10 (l' := #[rv qa1, iv qi2, iv 34]) rfl ?_
  refine zj X3 Bd d9_11 rfl ?_
  refine zj X3 Bd d9_12 rfl ?_
  refine XS.isub X3.here hx rfl (hb hby d9_13) rfl ?_
  refine zo X3 Bd d9_14 (XT.i0_le_f (hc4 : (0 : Int32) < (qi2 - (34 : Int32)))) ?_
  refine zb X3 Bd d9_17 rfl rfl ?_
  refine zb X3 Bd d9_18 rfl rfl ?_
  refine st5 _ ?_
  refine zb X5 Bd d9_22 rfl rfl ?_
  refine zj X5 Bd d9_23 rfl ?_
  refine st6 _ ?_
  refine zb X6 Bd d9_27 rfl rfl ?_
  refine st8 _ ?_
  refine XS.ishl X8.here hx rfl (hb hby d9_31) rfl ?_
  refine st9 _ ?_
  refine st22 _ ?_
  exact X22.returnOut hx Bd.returns (hb hby d9_38) hr))
-- java/lang/String.getBytes([BIB)V
def Q31 (Z : State) (qa2 : Addr) (qk6 : ClassId) (qc7 : List Int32) (h0 : Heap) (n0 : Nat) : QT := fun v h L => v = none ∧ Fr n0 L ∧ Keep h0 h [qa2] ∧ PA Z h qa2 qk6 .byte (70 : Int32) (qc7 ++ K2_)
theorem rm31 (hw : HW a0 Z) (G1 : Int32) (qa1 : Addr) (qa2 : Addr) (qi3 : Int32) (qa4 : Addr) (qk5 : ClassId) (qk6 : ClassId) (qc7 : List Int32) (h0 : Heap) (n0 : Nat) (X00 : Old Z n0 h0) (O2 : CO Z G1) (P5 : NZ G1) (E_qa1 : Exa Z h0 qa1 ST_) (F_qa1_coder : SC Z h0 qa1) (F_qa1_value : SV Z h0 qa1 qa4) (A_qa4 : Arv Z h0 qa4 qk5 .byte (10 : Int32) [.int 44, .int 32, .int 110, .int 101, .int 116, .int 119, .int 111, .int 114, .int 107, .int 61] (.int 0)) (A_qa2 : PA Z h0 qa2 qk6 .byte (70 : Int32) qc7) (hk7 : ((qi3 <<< ((0 : Int32) &&& 31))).toNatClampNeg = (qc7).length) (hk8 : ¬ (qi3 <<< ((0 : Int32) &&& 31)) < 0) (hk9 : ((0 : Int32)).toNatClampNeg + ((10 : Int32)).toNatClampNeg ≤ ((10 : Int32)).toNatClampNeg) (hk10 : ((qi3 <<< ((0 : Int32) &&& 31))).toNatClampNeg + ((10 : Int32)).toNatClampNeg ≤ ((70 : Int32)).toNatClampNeg) (hk11 : (K2_).length ≤ ((10 : Int32)).toNatClampNeg) (g_qa2 : n0 ≤ qa2) :
    MF l Z Y14_ jdk_42_method_147_code 4 none (Rm 1 0 0 18) #[.ref qa1, .ref qa2, .int qi3, .int 0] h0 (Q31 Z qa2 qk6 qc7 h0 n0) := by
 refine own_sF pn6 rfl (fun m => ef14 m qa1 qa2 qi3 (0 : Int32)) ?_
 intro p e s m below meth c s₁ Bd hZ hh hx hby hml hown hnm X0 e0 pre0
 have N0 := Fr.nil n0
 obtain ⟨_, T1, L1, X1, hQ1, st1⟩ := own_cV 0 0 [] 1 #[rv qa1, rv qa2, iv qi3, iv 0] X0 hx hZ hown E_qa1 (w103_ hw) (w104_ hw) (notFace_of_selects (args := #[]) (mvT hZ (w106_ hw))) (w106_ hw) (w105_ hw) (w22_ hw) (w107_ hw) (rm13 l Z a0 hw G1 qa1 h0 n0 X00 O2 P5 F_qa1_coder) pd11 hml.symm (hb hby d18_1) e0 rfl rfl rfl rfl (by decide)
 obtain ⟨rfl, N1q, e1q⟩ := hQ1
 have N1 := Fr.app N0 N1q
 obtain ⟨T2, X2, e2, st2⟩ := own_gF 9 #[rv qa1, rv qa2, iv qi3, iv 0] [] X1 hx hZ hown (w47_ hw) Via.refl e1q F_qa1_value (hb hby d18_9)
 obtain ⟨T3, X3, e3, st3⟩ := own_gF 18 #[rv qa1, rv qa2, iv qi3, iv 0] [(.int (qi3 <<< ((0 : Int32) &&& 31))), .ref qa2, .int 0, .ref qa4] X2 hx hZ hown (w47_ hw) Via.refl e2 F_qa1_value (hb hby d18_18)
 have av4 := A_qa4
 obtain ⟨cl4, Ar4, q4, S4, N4, H4, Gf4⟩ := av4
 have A5_ : PA Z h0 qa4 qk5 .byte (10 : Int32) K2_ := A_qa4
 have Ad6 := (A_qa2).pad (own_repl ((10 : Int32)).toNatClampNeg qc7)
 obtain ⟨T6, h6, L6, X6, e6, N6, K6q, A6, st6⟩ := cpA X3 hx hZ hown (w157_ hw) (w140_ hw) (w138_ hw) (w139_ hw) e3 (vs := K2_.map Value.int) (vd := (qc7 ++ List.replicate ((10 : Int32)).toNatClampNeg 0).map Value.int) A5_ Ad6 (Or.inl ⟨rfl, rfl⟩) (by decide) hk8 (by decide) hk9 hk10 rfl (by rw [List.length_map, List.length_append, List.length_replicate, hk7]; exact Nat.le_refl _) N1 g_qa2 (g := (mkF m 22 #[rv qa1, rv qa2, iv qi3, iv 0] [.int 10, (.int (qi3 <<< ((0 : Int32) &&& 31))), .ref qa2, .int 0, .ref qa4])) rfl hml.symm rfl (hb hby d18_22) (by decide) (W := 0) (own_hw rfl) (by decide)
 have K12 := (Keep.refl h0 [qa2]).trans K6q (allS (Or.inl (mI 0 rfl)) all0)
 have A13_ : PA Z h6 qa2 qk6 .byte (70 : Int32) (qc7 ++ K2_) := A6.pad (own_cpl (S := K2_) (D := qc7) hk7 hk11)
 refine own_lvN X6 Bd e6 ⟨rfl, N6, K12, A13_⟩ rfl (fun fs hr => pre0 _ (by
  show Sx p e below s₁ m 0 #[rv qa1, rv qa2, iv qi3, iv 0] [] _
  refine zb X0 Bd d18_0 rfl rfl ?_
  refine st1 _ ?_
  refine zj X1 Bd d18_4 rfl ?_
  refine zn X1 Bd d18_5 (XT.ii_ne_f ((by decide) : (0 : Int32) = (0 : Int32))) ?_
  refine zb X1 Bd d18_8 rfl rfl ?_
  refine st2 _ ?_
  refine zc X2 Bd d18_12 ?_
  refine zb X2 Bd d18_13 rfl rfl ?_
  refine zj X2 Bd d18_14 rfl ?_
  refine zj X2 Bd d18_15 rfl ?_
  refine XS.ishl X2.here hx rfl (hb hby d18_16) rfl ?_
  refine zb X2 Bd d18_17 rfl rfl ?_
  refine st3 _ ?_
  refine X3.arraylength hx (by rw [e3]; exact Ar4.1) (State.isArrayOf_alike hZ.alike Ar4.2.1) (g := (mkF m 21 #[rv qa1, rv qa2, iv qi3, iv 0] [.ref qa4, (.int (qi3 <<< ((0 : Int32) &&& 31))), .ref qa2, .int 0, .ref qa4])) rfl rfl (hb hby d18_21) _ ?_
  rw [len_of S4 N4]
  refine st6 _ ?_
  refine zg (pc' := 43) X6 Bd d18_25 rfl ?_
  exact X6.returnOut hx Bd.returns (hb hby d18_43) hr))
-- java/lang/AbstractStringBuilder.putStringAt(ILjava/lang/String;)V
def Q32 (Z : State) (qa4 : Addr) (qk7 : ClassId) (qc8 : List Int32) (h0 : Heap) (n0 : Nat) : QT := fun v h L => v = none ∧ Fr n0 L ∧ Keep h0 h [qa4] ∧ PA Z h qa4 qk7 .byte (70 : Int32) (qc8 ++ K2_)
theorem rm32 (hw : HW a0 Z) (G1 : Int32) (qa1 : Addr) (qi2 : Int32) (qa3 : Addr) (qa4 : Addr) (qa5 : Addr) (qk6 : ClassId) (qk7 : ClassId) (qc8 : List Int32) (h0 : Heap) (n0 : Nat) (X00 : Old Z n0 h0) (O2 : CO Z G1) (P5 : NZ G1) (F_qa1_coder : VC Z h0 qa1) (E_qa3 : Exa Z h0 qa3 ST_) (F_qa3_coder : SC Z h0 qa3) (E_qa1 : Exa Z h0 qa1 SB_) (F_qa1_value : VA Z h0 qa1 qa4) (F_qa3_value : SV Z h0 qa3 qa5) (A_qa5 : Arv Z h0 qa5 qk6 .byte (10 : Int32) [.int 44, .int 32, .int 110, .int 101, .int 116, .int 119, .int 111, .int 114, .int 107, .int 61] (.int 0)) (A_qa4 : PA Z h0 qa4 qk7 .byte (70 : Int32) qc8) (hk5 : ((qi2 <<< ((0 : Int32) &&& 31))).toNatClampNeg = (qc8).length) (hk6 : ¬ (qi2 <<< ((0 : Int32) &&& 31)) < 0) (hk7 : ((0 : Int32)).toNatClampNeg + ((10 : Int32)).toNatClampNeg ≤ ((10 : Int32)).toNatClampNeg) (hk8 : ((qi2 <<< ((0 : Int32) &&& 31))).toNatClampNeg + ((10 : Int32)).toNatClampNeg ≤ ((70 : Int32)).toNatClampNeg) (hk9 : (K2_).length ≤ ((10 : Int32)).toNatClampNeg) (g_qa4 : n0 ≤ qa4) :
    MF l Z Y15_ jdk_68_method_73_code 3 none (Rm 2 0 0 33) #[.ref qa1, .int qi2, .ref qa3] h0 (Q32 Z qa4 qk7 qc8 h0 n0) := by
 refine own_sF pn3 rfl (fun m => ef13 m qa1 qi2 qa3) ?_
 intro p e s m below meth c s₁ Bd hZ hh hx hby hml hown hnm X0 e0 pre0
 have N0 := Fr.nil n0
 obtain ⟨_, T1, L1, X1, hQ1, st1⟩ := own_cP 0 0 [] 2 #[rv qa1, iv qi2, rv qa3] X0 hx hZ hown E_qa1 (w146_ hw) (w147_ hw) (w149_ hw) (w148_ hw) (w77_ hw) (w150_ hw) (rm14 l Z a0 hw G1 qa1 qa3 h0 n0 X00 O2 P5 F_qa1_coder E_qa3 F_qa3_coder) pd12 hml.symm (hb hby d15_2) e0 rfl rfl rfl rfl (by decide)
 obtain ⟨rfl, N1q, e1q⟩ := hQ1
 have N1 := Fr.app N0 N1q
 obtain ⟨T2, X2, e2, st2⟩ := own_gF 7 #[rv qa1, iv qi2, rv qa3] [.ref qa3] X1 hx hZ hown (w81_ hw) Via.refl e1q F_qa1_value (hb hby d15_7)
 obtain ⟨T3, X3, e3, st3⟩ := own_gF 12 #[rv qa1, iv qi2, rv qa3] [.int qi2, .ref qa4, .ref qa3] X2 hx hZ hown (w83_ hw) Via.refl e2 F_qa1_coder (hb hby d15_12)
 obtain ⟨_, T4, L4, X4, hQ4, st4⟩ := own_cV 0 0 [] 15 #[rv qa1, iv qi2, rv qa3] X3 hx hZ hown E_qa3 (w152_ hw) (w153_ hw) (notFace_of_selects (args := #[]) (mvT hZ (w155_ hw))) (w155_ hw) (w154_ hw) (w22_ hw) (w156_ hw) (rm31 l Z a0 hw G1 qa3 qa4 qi2 qa5 qk6 qk7 qc8 h0 n0 X00 O2 P5 E_qa3 F_qa3_coder F_qa3_value A_qa5 A_qa4 hk5 hk6 hk7 hk8 hk9 g_qa4) pd13 hml.symm (hb hby d15_15) e3 rfl rfl rfl rfl (by decide)
 obtain ⟨rfl, N4q, K4q, w10⟩ := hQ4
 have N4 := Fr.app N1 N4q
 have K11 := (Keep.refl h0 [qa4]).trans K4q (allS (Or.inl (mI 0 rfl)) all0)
 refine own_lvN X4 Bd rfl ⟨rfl, N4, K11, w10⟩ rfl (fun fs hr => pre0 _ (by
  show Sx p e below s₁ m 0 #[rv qa1, iv qi2, rv qa3] [] _
  refine zb X0 Bd d15_0 rfl rfl ?_
  refine zb X0 Bd d15_1 rfl rfl ?_
  refine st1 _ ?_
  refine zb X1 Bd d15_5 rfl rfl ?_
  refine zb X1 Bd d15_6 rfl rfl ?_
  refine st2 _ ?_
  refine zj X2 Bd d15_10 rfl ?_
  refine zb X2 Bd d15_11 rfl rfl ?_
  refine st3 _ ?_
  refine st4 _ ?_
  exact X4.returnOut hx Bd.returns (hb hby d15_18) hr))
-- java/lang/AbstractStringBuilder.append(Ljava/lang/String;)Ljava/lang/AbstractStringBuilder;
def Q33 (Z : State) (qa1 : Addr) (qi5 : Int32) (qc8 : List Int32) (h0 : Heap) (n0 : Nat) : QT := fun v h L => ∃ b11 : Addr, ∃ c12_ : ClassId, v = some (.ref qa1) ∧ Fr n0 L ∧ Keep h0 h [qa1] ∧ h0.size ≤ b11 ∧ Exa Z h qa1 SB_ ∧ VA Z h qa1 b11 ∧ VC Z h qa1 ∧ Fld Z h qa1 AB_ "count" "I" (.int (qi5 + (10 : Int32))) ∧ Exa Z h b11 "[B" ∧ PA Z h b11 c12_ .byte (70 : Int32) (qc8 ++ K2_)
theorem rm33 (hw : HW a0 Z) (G1 : Int32) (qa1 : Addr) (qa2 : Addr) (qa3 : Addr) (qk4 : ClassId) (qi5 : Int32) (qa6 : Addr) (qk7 : ClassId) (qc8 : List Int32) (h0 : Heap) (n0 : Nat) (X00 : Old Z n0 h0) (O2 : CO Z G1) (P5 : NZ G1) (E_qa2 : Exa Z h0 qa2 ST_) (F_qa2_coder : SC Z h0 qa2) (F_qa2_value : SV Z h0 qa2 qa3) (hp_qa2 : ∀ c ∈ K2_, ¬ c < 0 ∧ ¬ (255 : Int32) < c) (A_qa3 : Arv Z h0 qa3 qk4 .byte (10 : Int32) [.int 44, .int 32, .int 110, .int 101, .int 116, .int 119, .int 111, .int 114, .int 107, .int 61] (.int 0)) (F_qa1_count : VN Z h0 qa1 qi5) (F_qa1_value : VA Z h0 qa1 qa6) (A_qa6 : PA Z h0 qa6 qk7 .byte (34 : Int32) qc8) (F_qa1_coder : VC Z h0 qa1) (hc5 : (0 : Int32) < ((qi5 + (10 : Int32)) - (34 : Int32))) (hc6 : (((qi5 + (10 : Int32)) <<< ((0 : Int32) &&& 31)) - (34 : Int32)) < (36 : Int32)) (E_qa1 : Exa Z h0 qa1 SB_) (hk7 : ((0 : Int32)).toNatClampNeg = (([] : List Int32)).length) (hk8 : ((0 : Int32)).toNatClampNeg + ((34 : Int32)).toNatClampNeg ≤ ((34 : Int32)).toNatClampNeg) (hk9 : ((0 : Int32)).toNatClampNeg + ((34 : Int32)).toNatClampNeg ≤ ((70 : Int32)).toNatClampNeg) (hk10 : (qc8).length ≤ ((34 : Int32)).toNatClampNeg) (g_qa1 : n0 ≤ qa1) (ne_qa2_qa1 : qa2 ≠ qa1) (ne_qa3_qa1 : qa3 ≠ qa1) (hk28 : ((qi5 <<< ((0 : Int32) &&& 31))).toNatClampNeg = (qc8).length) (hk29 : ¬ (qi5 <<< ((0 : Int32) &&& 31)) < 0) (hk30 : ((0 : Int32)).toNatClampNeg + ((10 : Int32)).toNatClampNeg ≤ ((10 : Int32)).toNatClampNeg) (hk31 : ((qi5 <<< ((0 : Int32) &&& 31))).toNatClampNeg + ((10 : Int32)).toNatClampNeg ≤ ((70 : Int32)).toNatClampNeg) (hk32 : (K2_).length ≤ ((10 : Int32)).toNatClampNeg) :
    MF l Z Y16_ jdk_68_method_22_code 3 (some (.object AB_)) (Rm 4 1 70 62) #[.ref qa1, .ref qa2] h0 (Q33 Z qa1 qi5 qc8 h0 n0) := by
 refine own_sF pn3 rfl (fun m => ef8 m qa1 qa2) ?_
 intro p e s m below meth c s₁ Bd hZ hh hx hby hml hown hnm X0 e0 pre0
 have N0 := Fr.nil n0
 have hcd2 : StrChars.Road.CodA K2_ 0 (10 : Int32) [.int 44, .int 32, .int 110, .int 101, .int 116, .int 119, .int 111, .int 114, .int 107, .int 61] := StrChars.Road.codOf (n := 10) rfl (fun x hx => (hp_qa2 x hx).2)
 have hbd2 : ∀ x ∈ K2_, ¬ x < 0 ∧ ¬ (65535 : Int32) < x := own_up _ hp_qa2
 obtain ⟨cq1, kq1, q1a, q1b, q1c⟩ := isOf hZ e0 E_qa2
 obtain ⟨_, T1, L1, X1, hQ1, st1⟩ := own_cb0 0 0 0 0 0 0 (X0.virtualBack hx (y := Y17_) (z := Y17_) hown (mvT hZ (w98_ hw)) (mvT hZ (w99_ hw)) (notFace_of_selects (args := #[]) (mvT hZ (w101_ hw))) (mvT hZ (w101_ hw)) (mvT hZ (w100_ hw)) (by decide) (StrChars.Road.lenW (W := 0) hZ (own_wl hw) (kI := 4) (w21_ hw) E_qa2 F_qa2_value F_qa2_coder A_qa3 hcd2 hbd2 (O2.ext X00.2) P5 (lE rfl) (lE rfl) (lE rfl)) q1a q1c (g := (mkF m 10 #[rv qa1, rv qa2, .unset] [.ref qa2])) rfl hml.symm (Steps.refl _) (argsL := []) (rest := []) (lenOf pd7 rfl) rfl (own_hw rfl) (hb hby d8_10) (fun _ _ => ⟨rfl, e0, (lE rfl : 0 + 0 ≤ _), (lE rfl : 0 + 0 ≤ _)⟩)) rfl rfl
 dsimp only [Pt.U, Pt.locs, Pt.cells, Pt.slots] at hQ1
 obtain ⟨rfl, rfl, e1q⟩ := hQ1
 have N1 := Fr.app N0 (Fr.nil n0)
 obtain ⟨T3, X3, e3, st3⟩ := own_gF 16 #[rv qa1, rv qa2, iv 10] [.ref qa1] X1 hx hZ hown (w108_ hw) Via.refl e1q F_qa1_count (hb hby d8_16)
 obtain ⟨_, T4, L4, X4, hQ4, st4⟩ := own_cP 1 70 [] 21 #[rv qa1, rv qa2, iv 10] X3 hx hZ hown E_qa1 (w110_ hw) (w111_ hw) (w113_ hw) (w112_ hw) (w77_ hw) (w114_ hw) (rm30 l Z a0 hw  qa1 (qi5 + (10 : Int32)) qa6 qk7 qc8 qi5 h0 n0 X00 F_qa1_value A_qa6 F_qa1_coder hc5 hc6 E_qa1 hk7 hk8 hk9 hk10 g_qa1 F_qa1_count) pd5 hml.symm (hb hby d8_21) e3 rfl rfl rfl rfl (by decide)
 obtain ⟨b11, c12_, rfl, N4q, K4q, w13, w14, w15, w16, w17, w18, w19⟩ := hQ4
 have N4 := Fr.app N1 N4q
 have K20 := (Keep.refl h0 [qa1]).trans K4q (allS (Or.inl (mI 0 rfl)) all0)
 obtain ⟨T21, X21, e21, st21⟩ := own_gF 26 #[rv qa1, rv qa2, iv 10] [.ref qa1] X4 hx hZ hown (w108_ hw) Via.refl rfl w17 (hb hby d8_26)
 have E23_ := E_qa2.keep K4q
 have F24_ := F_qa2_coder.keep K4q (ninS ne_qa2_qa1 nin0)
 have E25_ := E_qa1.keep K4q
 have F26_ := F_qa2_value.keep K4q (ninS ne_qa2_qa1 nin0)
 have A27_ := A_qa3.keep K4q (ninS ne_qa3_qa1 nin0)
 have g_b11 : n0 ≤ b11 := Nat.le_trans (Nat.le_trans (Nat.le_of_eq X00.1.symm) X00.2.1) w13
 have O33 := X00.keep K4q (allS g_qa1 all0)
 obtain ⟨_, T22, L22, X22, hQ22, st22⟩ := own_cP 1 70 [] 30 #[rv qa1, rv qa2, iv 10] X21 hx hZ hown E25_ (w141_ hw) (w142_ hw) (w144_ hw) (w143_ hw) (w77_ hw) (w145_ hw) (rm32 l Z a0 hw G1 qa1 qi5 qa2 b11 qa3 qk4 c12_ qc8 T4.heap n0 O33 O2 P5 w15 E23_ F24_ E25_ w14 F26_ A27_ w19 hk28 hk29 hk30 hk31 hk32 g_b11) pd14 hml.symm (hb hby d8_30) e21 rfl rfl rfl rfl (by decide)
 obtain ⟨rfl, N22q, K22q, w34⟩ := hQ22
 have N22 := Fr.app N4 N22q
 have sz_b11 : h0.size ≤ b11 := w13
 have K35 := K20.trans K22q (allS (Or.inr sz_b11) all0)
 have nx37 : qa1 ≠ b11 := (Nat.ne_of_lt (Nat.lt_of_lt_of_le E_qa1.lt w13))
 have F38_ := w17.keep K22q (ninS nx37 nin0)
 obtain ⟨T36, X36, e36, st36⟩ := own_gF 35 #[rv qa1, rv qa2, iv 10] [.ref qa1] X22 hx hZ hown (w108_ hw) Via.refl rfl F38_ (hb hby d8_35)
 have E39_ := E25_.keep K22q
 obtain ⟨T40, h40, X40, e40, W40, st40⟩ := putF X36 hx hZ hown (host := "") (Or.inl (w108_ hw)) Via.refl e36 F38_ E39_ (Or.inl (w109_ hw)) (w68_ hw) (ty := .int) (by decide) rfl rfl (g := (mkF m 40 #[rv qa1, rv qa2, iv 10] [(.int (qi5 + (10 : Int32))), .ref qa1])) rfl rfl (hb hby d8_40)
 have N40 := Fr.snoc X40 N22 g_qa1
 have K41 := K35.wr W40 (Or.inl (mI 0 rfl))
 have F42_ : Fld Z h40 qa1 AB_ "count" "I" (.int (qi5 + (10 : Int32))) := F38_.same W40
 have E43_ := E39_.wr W40
 have F44_ := w14.keep K22q (ninS nx37 nin0)
 have F45_ := F44_.other W40 (Or.inr (slot_ne (Or.inl (w82_ hw)) (Or.inl (w109_ hw)) (by decide) (t := (.array .byte)) (t' := .int) (by decide) (by decide)))
 have F46_ := w15.keep K22q (ninS nx37 nin0)
 have F47_ := F46_.other W40 (Or.inr (slot_ne (Or.inl (w84_ hw)) (Or.inl (w109_ hw)) (by decide) (t := .byte) (t' := .int) (by decide) (by decide)))
 have E48_ := w18.keep K22q
 have E49_ := E48_.wr W40
 have A50_ := w34.other W40 (Ne.symm nx37)
 refine own_lvF X40 Bd (.ref qa1) e40 ⟨b11, c12_, rfl, N40, K41, sz_b11, E43_, F45_, F47_, F42_, E49_, A50_⟩ rfl (fun fs hr => pre0 _ (by
  show Sx p e below s₁ m 0 #[rv qa1, rv qa2, .unset] [] _
  refine zb X0 Bd d8_0 rfl rfl ?_
  refine XS.ifnonnullYes X0.here hx rfl (pc0 := 1) (pc' := 9) rfl (hb hby d8_1) rfl (by decide) (by decide) ?_
  refine zb X0 Bd d8_9 rfl rfl ?_
  refine st1.trans ?_
  refine zt X1 Bd d8_13 (l' := #[rv qa1, rv qa2, iv 10]) rfl ?_
  refine zb X1 Bd d8_14 rfl rfl ?_
  refine zb X1 Bd d8_15 rfl rfl ?_
  refine st3 _ ?_
  refine zj X3 Bd d8_19 rfl ?_
  refine XS.iadd X3.here hx rfl (hb hby d8_20) rfl ?_
  refine st4 _ ?_
  refine zb X4 Bd d8_24 rfl rfl ?_
  refine zb X4 Bd d8_25 rfl rfl ?_
  refine st21 _ ?_
  refine zb X21 Bd d8_29 rfl rfl ?_
  refine st22 _ ?_
  refine zb X22 Bd d8_33 rfl rfl ?_
  refine XS.dup X22.here hx rfl (hb hby d8_34) rfl rfl ?_
  refine st36 _ ?_
  refine zj X36 Bd d8_38 rfl ?_
  refine XS.iadd X36.here hx rfl (hb hby d8_39) rfl ?_
  refine st40 _ ?_
  refine zb X40 Bd d8_43 rfl rfl ?_
  exact retOut X40 hx Bd.returns rfl (Or.inr (Or.inr (Or.inr (Or.inr ⟨rfl, rfl, rfl⟩)))) (hb hby d8_44) hr))
-- java/lang/StringBuilder.append(Ljava/lang/String;)Ljava/lang/StringBuilder;
def Q34 (Z : State) (qa1 : Addr) (qi5 : Int32) (qc8 : List Int32) (h0 : Heap) (n0 : Nat) : QT := fun v h L => ∃ b13 : Addr, ∃ c14_ : ClassId, v = some (.ref qa1) ∧ Fr n0 L ∧ Keep h0 h [qa1] ∧ h0.size ≤ b13 ∧ Exa Z h qa1 SB_ ∧ VA Z h qa1 b13 ∧ VC Z h qa1 ∧ Fld Z h qa1 AB_ "count" "I" (.int (qi5 + (10 : Int32))) ∧ Exa Z h b13 "[B" ∧ PA Z h b13 c14_ .byte (70 : Int32) (qc8 ++ K2_)
theorem rm34 (hw : HW a0 Z) (G1 : Int32) (qa1 : Addr) (qa2 : Addr) (qa3 : Addr) (qk4 : ClassId) (qi5 : Int32) (qa6 : Addr) (qk7 : ClassId) (qc8 : List Int32) (h0 : Heap) (n0 : Nat) (X00 : Old Z n0 h0) (O2 : CO Z G1) (P5 : NZ G1) (E_qa2 : Exa Z h0 qa2 ST_) (F_qa2_coder : SC Z h0 qa2) (F_qa2_value : SV Z h0 qa2 qa3) (hp_qa2 : ∀ c ∈ K2_, ¬ c < 0 ∧ ¬ (255 : Int32) < c) (A_qa3 : Arv Z h0 qa3 qk4 .byte (10 : Int32) [.int 44, .int 32, .int 110, .int 101, .int 116, .int 119, .int 111, .int 114, .int 107, .int 61] (.int 0)) (F_qa1_count : VN Z h0 qa1 qi5) (F_qa1_value : VA Z h0 qa1 qa6) (A_qa6 : PA Z h0 qa6 qk7 .byte (34 : Int32) qc8) (F_qa1_coder : VC Z h0 qa1) (hc2 : (0 : Int32) < ((qi5 + (10 : Int32)) - (34 : Int32))) (hc3 : (((qi5 + (10 : Int32)) <<< ((0 : Int32) &&& 31)) - (34 : Int32)) < (36 : Int32)) (E_qa1 : Exa Z h0 qa1 SB_) (hk4 : ((0 : Int32)).toNatClampNeg = (([] : List Int32)).length) (hk5 : ((0 : Int32)).toNatClampNeg + ((34 : Int32)).toNatClampNeg ≤ ((34 : Int32)).toNatClampNeg) (hk6 : ((0 : Int32)).toNatClampNeg + ((34 : Int32)).toNatClampNeg ≤ ((70 : Int32)).toNatClampNeg) (hk7 : (qc8).length ≤ ((34 : Int32)).toNatClampNeg) (g_qa1 : n0 ≤ qa1) (ne_qa2_qa1 : qa2 ≠ qa1) (ne_qa3_qa1 : qa3 ≠ qa1) (hk8 : ((qi5 <<< ((0 : Int32) &&& 31))).toNatClampNeg = (qc8).length) (hk9 : ¬ (qi5 <<< ((0 : Int32) &&& 31)) < 0) (hk10 : ((0 : Int32)).toNatClampNeg + ((10 : Int32)).toNatClampNeg ≤ ((10 : Int32)).toNatClampNeg) (hk11 : ((qi5 <<< ((0 : Int32) &&& 31))).toNatClampNeg + ((10 : Int32)).toNatClampNeg ≤ ((70 : Int32)).toNatClampNeg) (hk12 : (K2_).length ≤ ((10 : Int32)).toNatClampNeg) :
    MF l Z Y18_ jdk_67_method_7_code 2 (some (.object SB_)) (Rm 5 1 70 76) #[.ref qa1, .ref qa2] h0 (Q34 Z qa1 qi5 qc8 h0 n0) := by
 refine own_sF pn2 rfl (fun m => ef7 m qa1 qa2) ?_
 intro p e s m below meth c s₁ Bd hZ hh hx hby hml hown hnm X0 e0 pre0
 have N0 := Fr.nil n0
 obtain ⟨_, T1, L1, X1, hQ1, st1⟩ := own_cU 1 70 [] 2 #[rv qa1, rv qa2] X0 hx hZ hown E_qa1 (w93_ hw) (own_same (w94_ hw) (w113_ hw) rfl (by decide)) (w94_ hw) (w95_ hw) (w77_ hw) (w97_ hw) (rm33 l Z a0 hw G1 qa1 qa2 qa3 qk4 qi5 qa6 qk7 qc8 h0 n0 X00 O2 P5 E_qa2 F_qa2_coder F_qa2_value hp_qa2 A_qa3 F_qa1_count F_qa1_value A_qa6 F_qa1_coder hc2 hc3 E_qa1 hk4 hk5 hk6 hk7 g_qa1 ne_qa2_qa1 ne_qa3_qa1 hk8 hk9 hk10 hk11 hk12) pd15 hml.symm (hb hby d7_2) e0 rfl rfl rfl rfl (by decide)
 obtain ⟨b13, c14_, rfl, N1q, K1q, w15, w16, w17, w18, w19, w20, w21⟩ := hQ1
 have N1 := Fr.app N0 N1q
 have K22 := (Keep.refl h0 [qa1]).trans K1q (allS (Or.inl (mI 0 rfl)) all0)
 have sz_b13 : h0.size ≤ b13 := w15
 have E23_ := E_qa1.keep K1q
 refine own_lvF X1 Bd (.ref qa1) rfl ⟨b13, c14_, rfl, N1, K22, sz_b13, E23_, w17, w18, w19, w20, w21⟩ rfl (fun fs hr => pre0 _ (by
  show Sx p e below s₁ m 0 #[rv qa1, rv qa2] [] _
  refine zb X0 Bd d7_0 rfl rfl ?_
  refine zb X0 Bd d7_1 rfl rfl ?_
  refine st1 _ ?_
  refine XS.pop X1.here hx rfl (hb hby d7_5) rfl rfl ?_
  refine zb X1 Bd d7_6 rfl rfl ?_
  exact retOut X1 hx Bd.returns rfl (Or.inr (Or.inr (Or.inr (Or.inr ⟨rfl, rfl, rfl⟩)))) (hb hby d7_7) hr))
theorem d4_24 : D C3_ 24 (.aload_n 0) 1 := by decide +kernel
theorem d4_25 : D C3_ 25 (.getfield 13) 3 := by decide +kernel
theorem d4_28 : D C3_ 28 (.invokevirtual 28) 3 := by decide +kernel
-- java/lang/AbstractStringBuilder.ensureCapacityInternal(I)V
def Q35 (Z : State)  (h0 : Heap) (n0 : Nat) : QT := fun v h L => v = none ∧ Fr n0 L ∧ h = h0
theorem rm35 (hw : HW a0 Z) (qa1 : Addr) (qi2 : Int32) (qa3 : Addr) (qk4 : ClassId) (qc5 : List Int32) (h0 : Heap) (n0 : Nat) (X00 : Old Z n0 h0) (F_qa1_value : VA Z h0 qa1 qa3) (A_qa3 : PA Z h0 qa3 qk4 .byte (70 : Int32) qc5) (F_qa1_coder : VC Z h0 qa1) (hc4 : ¬ ((0 : Int32) < (qi2 - (70 : Int32)))) :
    MF l Z Y11_ jdk_68_method_9_code 3 none (Rm 0 0 0 0) #[.ref qa1, .int qi2] h0 (Q35 Z  h0 n0) := by
 refine own_sF pn3 rfl (fun m => ef9 m qa1 qi2) ?_
 intro p e s m below meth c s₁ Bd hZ hh hx hby hml hown hnm X0 e0 pre0
 have N0 := Fr.nil n0
 obtain ⟨T1, X1, e1, st1⟩ := own_gF 1 #[rv qa1, iv qi2, .unset] [] X0 hx hZ hown (w81_ hw) Via.refl e0 F_qa1_value (hb hby d9_1)
 have av2 := A_qa3
 obtain ⟨cl2, Ar2, q2, S2, N2, H2, Gf2⟩ := av2
 obtain ⟨T3, X3, e3, st3⟩ := own_gF 6 #[rv qa1, iv qi2, .unset] [.int 70] X1 hx hZ hown (w83_ hw) Via.refl e1 F_qa1_coder (hb hby d9_6)
 refine own_lvN X3 Bd e3 ⟨rfl, N0, rfl⟩ rfl (fun fs hr => pre0 _ (by
  show Sx p e below s₁ m 0 #[rv qa1, iv qi2, .unset] [] _
  refine zb X0 Bd d9_0 rfl rfl ?_
  refine st1 _ ?_
  refine X1.arraylength hx (by rw [e1]; exact Ar2.1) (State.isArrayOf_alike hZ.alike Ar2.2.1) (g := (mkF m 4 #[rv qa1, iv qi2, .unset] [.ref qa3])) rfl rfl (hb hby d9_4) _ ?_
  rw [len_of S2 N2]
  refine zb X1 Bd d9_5 rfl rfl ?_
  refine st3 _ ?_
  refine XS.ishr X3.here hx rfl (hb hby d9_9) rfl ?_
  refine zt X3 Bd d9_10 (l' := #[rv qa1, iv qi2, iv 70]) rfl ?_
  refine zj X3 Bd d9_11 rfl ?_
  refine zj X3 Bd d9_12 rfl ?_
  refine XS.isub X3.here hx rfl (hb hby d9_13) rfl ?_
  refine zp (pc' := 38) X3 Bd d9_14 (XT.i0_le_t (hc4 : ¬ ((0 : Int32) < (qi2 - (70 : Int32))))) rfl ?_
  exact X3.returnOut hx Bd.returns (hb hby d9_38) hr))
-- java/lang/AbstractStringBuilder.append(I)Ljava/lang/AbstractStringBuilder;
def Q36 (Z : State) (qa1 : Addr) (qi2 : Int32) (qi3 : Int32) (qa4 : Addr) (qk5 : ClassId) (qc6 : List Int32) (h0 : Heap) (n0 : Nat) : QT := fun v h L => v = some (.ref qa1) ∧ Fr n0 L ∧ Keep h0 h [qa4, qa1] ∧ Fld Z h qa1 AB_ "count" "I" (.int (qi3 + (own_wd qi2))) ∧ VA Z h qa1 qa4 ∧ VC Z h qa1 ∧ Exa Z h qa1 SB_ ∧ PA Z h qa4 qk5 .byte (70 : Int32) (qc6 ++ (own_dec qi2))
abbrev l19_ (qa1 : Addr) (qi2 : Int32) (qi3 : Int32) : Array Slot := #[rv qa1, iv qi2, iv qi3, iv (qi3 + (own_wd qi2))]
theorem rm36 (hw : HW a0 Z) (G1 : Int32) (Gg0 : Addr) (Gg1 : Addr) (Kg2 : ClassId) (Kg3 : ClassId) (qa1 : Addr) (qi2 : Int32) (qi3 : Int32) (qa4 : Addr) (qk5 : ClassId) (qc6 : List Int32) (h0 : Heap) (n0 : Nat) (X00 : Old Z n0 h0) (O2 : CO Z G1) (P5 : NZ G1) (hEN : OwnEN Z Gg0 Gg1 Kg2 Kg3) (F_qa1_count : VN Z h0 qa1 qi3) (F_qa1_value : VA Z h0 qa1 qa4) (A_qa4 : PA Z h0 qa4 qk5 .byte (70 : Int32) qc6) (F_qa1_coder : VC Z h0 qa1) (hc4 : ¬ ((0 : Int32) < ((qi3 + (own_wd qi2)) - (70 : Int32)))) (E_qa1 : Exa Z h0 qa1 SB_) (hk8 : ((qi3 + (own_wd qi2))).toInt = (((qc6).length + (own_dec qi2).length : Nat) : Int)) (hk9 : (((qc6).length + (own_dec qi2).length : Nat) : Int) ≤ ((70 : Int32)).toInt) (hk10 : (qc6).length ≤ 900) (g_qa4 : n0 ≤ qa4) (ne_qa1_qa4 : qa1 ≠ qa4) (g_qa1 : n0 ≤ qa1) :
    MF l Z Y22_ jdk_68_method_32_code 4 (some (.object AB_)) (Rm 1 0 0 18) #[.ref qa1, .int qi2] h0 (Q36 Z qa1 qi2 qi3 qa4 qk5 qc6 h0 n0) := by
 refine own_sF pn3 rfl (fun m => ef15 m qa1 qi2) ?_
 intro p e s m below meth c s₁ Bd hZ hh hx hby hml hown hnm X0 e0 pre0
 have N0 := Fr.nil n0
 obtain ⟨T1, X1, e1, st1⟩ := own_gF 1 #[rv qa1, iv qi2, .unset, .unset] [] X0 hx hZ hown (w108_ hw) Via.refl e0 F_qa1_count (hb hby d20_1)
 obtain ⟨_, T2, L2, X2, hQ2, st2⟩ := own_cS 0 0 [.int qi3] 7 #[rv qa1, iv qi2, iv qi3, .unset] X1 hx hZ hown (w167_ hw) (w168_ hw) (w169_ hw) (w170_ hw) (rm19 l Z a0 hw  qi2 h0 n0 X00 ) pd1 hml.symm (hb hby d20_7) e1 rfl rfl rfl rfl (by decide)
 obtain ⟨rfl, N2q, e2q⟩ := hQ2
 have N2 := Fr.app N0 N2q
 obtain ⟨_, T3, L3, X3, hQ3, st3⟩ := own_cP 0 0 [] 14 (l19_ qa1 qi2 qi3) X2 hx hZ hown E_qa1 (w110_ hw) (w111_ hw) (w113_ hw) (w112_ hw) (w77_ hw) (w114_ hw) (rm35 l Z a0 hw  qa1 (qi3 + (own_wd qi2)) qa4 qk5 qc6 h0 n0 X00 F_qa1_value A_qa4 F_qa1_coder hc4) pd5 hml.symm (hb hby d20_14) e2q rfl rfl rfl rfl (by decide)
 obtain ⟨rfl, N3q, e3q⟩ := hQ3
 have N3 := Fr.app N2 N3q
 obtain ⟨_, T5, L5, X5, hQ5, st5⟩ := own_cV 0 0 [] 18 (l19_ qa1 qi2 qi3) X3 hx hZ hown E_qa1 (w171_ hw) (w172_ hw) (notFace_of_selects (args := #[]) (mvT hZ (w174_ hw))) (w174_ hw) (w173_ hw) (w77_ hw) (w175_ hw) (rm21 l Z a0 hw G1 qa1 h0 n0 X00 O2 P5 F_qa1_coder) pd17 hml.symm (hb hby d20_18) e3q rfl rfl rfl rfl (by decide)
 obtain ⟨rfl, N5q, e5q⟩ := hQ5
 have N5 := Fr.app N3 N5q
 obtain ⟨T6, X6, e6, st6⟩ := own_gF 27 (l19_ qa1 qi2 qi3) [(.int (qi3 + (own_wd qi2))), .int qi2] X5 hx hZ hown (w81_ hw) Via.refl e5q F_qa1_value (hb hby d20_27)
 obtain ⟨_, T7, L7, X7, hQ7, st7⟩ := own_cS 0 0 [] 30 (l19_ qa1 qi2 qi3) X6 hx hZ hown (w176_ hw) (w177_ hw) (w169_ hw) (w178_ hw) (rm22 l Z a0 hw Gg0 Gg1 Kg2 Kg3 qi2 (qi3 + (own_wd qi2)) qa4 qk5 (70 : Int32) qc6 h0 n0 X00 hEN A_qa4 hk8 hk9 hk10 g_qa4) pd18 hml.symm (hb hby d20_30) e6 rfl rfl rfl rfl (by decide)
 obtain ⟨z11_, rfl, N7q, K7q, w12⟩ := hQ7
 have N7 := Fr.app N5 N7q
 have K13 := (Keep.refl h0 [qa4, qa1]).trans K7q (allS (Or.inl (mI 0 rfl)) all0)
 have F14_ := F_qa1_count.keep K7q (ninS ne_qa1_qa4 nin0)
 have E15_ := E_qa1.keep K7q
 obtain ⟨T16, h16, X16, e16, W16, st16⟩ := putF X7 hx hZ hown (host := "") (Or.inl (w108_ hw)) Via.refl rfl F14_ E15_ (Or.inl (w109_ hw)) (w68_ hw) (ty := .int) (by decide) rfl rfl (g := (mkF m 50 (l19_ qa1 qi2 qi3) [(.int (qi3 + (own_wd qi2))), .ref qa1])) rfl rfl (hb hby d20_50)
 have N16 := Fr.snoc X16 N7 g_qa1
 have K17 := K13.wr W16 (Or.inl (mI 1 rfl))
 have F18_ : Fld Z h16 qa1 AB_ "count" "I" (.int (qi3 + (own_wd qi2))) := F14_.same W16
 have F19_ := F_qa1_value.keep K7q (ninS ne_qa1_qa4 nin0)
 have F20_ := F19_.other W16 (Or.inr (slot_ne (Or.inl (w82_ hw)) (Or.inl (w109_ hw)) (by decide) (t := (.array .byte)) (t' := .int) (by decide) (by decide)))
 have F21_ := F_qa1_coder.keep K7q (ninS ne_qa1_qa4 nin0)
 have F22_ := F21_.other W16 (Or.inr (slot_ne (Or.inl (w84_ hw)) (Or.inl (w109_ hw)) (by decide) (t := .byte) (t' := .int) (by decide) (by decide)))
 have E23_ := E15_.wr W16
 have A24_ := w12.other W16 (Ne.symm ne_qa1_qa4)
 refine own_lvF X16 Bd (.ref qa1) e16 ⟨rfl, N16, K17, F18_, F20_, F22_, E23_, A24_⟩ rfl (fun fs hr => pre0 _ (by
  show Sx p e below s₁ m 0 #[rv qa1, iv qi2, .unset, .unset] [] _
  refine zb X0 Bd d20_0 rfl rfl ?_
  refine st1 _ ?_
  refine zt X1 Bd d20_4 (l' := #[rv qa1, iv qi2, iv qi3, .unset]) rfl ?_
  refine zj X1 Bd d20_5 rfl ?_
  refine zj X1 Bd d20_6 rfl ?_
  refine st2 _ ?_
  refine XS.iadd X2.here hx rfl (hb hby d20_10) rfl ?_
  refine zt X2 Bd d20_11 (l' := (l19_ qa1 qi2 qi3)) rfl ?_
  refine zb X2 Bd d20_12 rfl rfl ?_
  refine zj X2 Bd d20_13 rfl ?_
  refine st3 _ ?_
  refine zb X3 Bd d20_17 rfl rfl ?_
  refine st5 _ ?_
  refine zo X5 Bd d20_21 (XT.i0_eq_f ((by decide) : ¬ ((1 : Int32) = (0 : Int32)))) ?_
  refine zj X5 Bd d20_24 rfl ?_
  refine zj X5 Bd d20_25 rfl ?_
  refine zb X5 Bd d20_26 rfl rfl ?_
  refine st6 _ ?_
  refine st7 _ ?_
  refine XS.pop X7.here hx rfl (hb hby d20_33) rfl rfl ?_
  refine zg (pc' := 48) X7 Bd d20_34 rfl ?_
  refine zb X7 Bd d20_48 rfl rfl ?_
  refine zj X7 Bd d20_49 rfl ?_
  refine st16 _ ?_
  refine zb X16 Bd d20_53 rfl rfl ?_
  exact retOut X16 hx Bd.returns rfl (Or.inr (Or.inr (Or.inr (Or.inr ⟨rfl, rfl, rfl⟩)))) (hb hby d20_54) hr))
-- java/lang/StringBuilder.append(I)Ljava/lang/StringBuilder;
def Q37 (Z : State) (qa1 : Addr) (qi2 : Int32) (qi3 : Int32) (qa4 : Addr) (qk5 : ClassId) (qc6 : List Int32) (h0 : Heap) (n0 : Nat) : QT := fun v h L => v = some (.ref qa1) ∧ Fr n0 L ∧ Keep h0 h [qa1, qa4] ∧ Exa Z h qa1 SB_ ∧ Fld Z h qa1 AB_ "count" "I" (.int (qi3 + (own_wd qi2))) ∧ VA Z h qa1 qa4 ∧ VC Z h qa1 ∧ PA Z h qa4 qk5 .byte (70 : Int32) (qc6 ++ (own_dec qi2))
theorem rm37 (hw : HW a0 Z) (G1 : Int32) (Gg0 : Addr) (Gg1 : Addr) (Kg2 : ClassId) (Kg3 : ClassId) (qa1 : Addr) (qi2 : Int32) (qi3 : Int32) (qa4 : Addr) (qk5 : ClassId) (qc6 : List Int32) (h0 : Heap) (n0 : Nat) (X00 : Old Z n0 h0) (O2 : CO Z G1) (P5 : NZ G1) (hEN : OwnEN Z Gg0 Gg1 Kg2 Kg3) (F_qa1_count : VN Z h0 qa1 qi3) (F_qa1_value : VA Z h0 qa1 qa4) (A_qa4 : PA Z h0 qa4 qk5 .byte (70 : Int32) qc6) (F_qa1_coder : VC Z h0 qa1) (hc2 : ¬ ((0 : Int32) < ((qi3 + (own_wd qi2)) - (70 : Int32)))) (E_qa1 : Exa Z h0 qa1 SB_) (hk3 : ((qi3 + (own_wd qi2))).toInt = (((qc6).length + (own_dec qi2).length : Nat) : Int)) (hk4 : (((qc6).length + (own_dec qi2).length : Nat) : Int) ≤ ((70 : Int32)).toInt) (hk5 : (qc6).length ≤ 900) (g_qa4 : n0 ≤ qa4) (ne_qa1_qa4 : qa1 ≠ qa4) (g_qa1 : n0 ≤ qa1) :
    MF l Z Y23_ jdk_67_method_15_code 2 (some (.object SB_)) (Rm 2 0 0 33) #[.ref qa1, .int qi2] h0 (Q37 Z qa1 qi2 qi3 qa4 qk5 qc6 h0 n0) := by
 refine own_sF pn2 rfl (fun m => ef6 m qa1 qi2) ?_
 intro p e s m below meth c s₁ Bd hZ hh hx hby hml hown hnm X0 e0 pre0
 have N0 := Fr.nil n0
 obtain ⟨_, T1, L1, X1, hQ1, st1⟩ := own_cU 0 0 [] 2 #[rv qa1, iv qi2] X0 hx hZ hown E_qa1 (w163_ hw) (own_same (w164_ hw) (w113_ hw) rfl (by decide)) (w164_ hw) (w95_ hw) (w77_ hw) (w166_ hw) (rm36 l Z a0 hw G1 Gg0 Gg1 Kg2 Kg3 qa1 qi2 qi3 qa4 qk5 qc6 h0 n0 X00 O2 P5 hEN F_qa1_count F_qa1_value A_qa4 F_qa1_coder hc2 E_qa1 hk3 hk4 hk5 g_qa4 ne_qa1_qa4 g_qa1) pd19 hml.symm (hb hby d19_2) e0 rfl rfl rfl rfl (by decide)
 obtain ⟨rfl, N1q, K1q, w6, w7, w8, w9, w10⟩ := hQ1
 have N1 := Fr.app N0 N1q
 have K11 := (Keep.refl h0 [qa1, qa4]).trans K1q (allS (Or.inl (mI 1 rfl)) (allS (Or.inl (mI 0 rfl)) all0))
 have E12_ := E_qa1.keep K1q
 refine own_lvF X1 Bd (.ref qa1) rfl ⟨rfl, N1, K11, E12_, w6, w7, w8, w10⟩ rfl (fun fs hr => pre0 _ (by
  show Sx p e below s₁ m 0 #[rv qa1, iv qi2] [] _
  refine zb X0 Bd d19_0 rfl rfl ?_
  refine zj X0 Bd d19_1 rfl ?_
  refine st1 _ ?_
  refine XS.pop X1.here hx rfl (hb hby d19_5) rfl rfl ?_
  refine zb X1 Bd d19_6 rfl rfl ?_
  exact retOut X1 hx Bd.returns rfl (Or.inr (Or.inr (Or.inr (Or.inr ⟨rfl, rfl, rfl⟩)))) (hb hby d19_7) hr))
theorem d4_31 : D C3_ 31 (.ldc 33) 2 := by decide +kernel
theorem d4_33 : D C3_ 33 (.invokevirtual 24) 3 := by decide +kernel
-- java/lang/String.getBytes([BIB)V
def Q38 (Z : State) (qa2 : Addr) (qk6 : ClassId) (qc7 : List Int32) (h0 : Heap) (n0 : Nat) : QT := fun v h L => v = none ∧ Fr n0 L ∧ Keep h0 h [qa2] ∧ PA Z h qa2 qk6 .byte (70 : Int32) (qc7 ++ K3_)
theorem rm38 (hw : HW a0 Z) (G1 : Int32) (qa1 : Addr) (qa2 : Addr) (qi3 : Int32) (qa4 : Addr) (qk5 : ClassId) (qk6 : ClassId) (qc7 : List Int32) (h0 : Heap) (n0 : Nat) (X00 : Old Z n0 h0) (O2 : CO Z G1) (P5 : NZ G1) (E_qa1 : Exa Z h0 qa1 ST_) (F_qa1_coder : SC Z h0 qa1) (F_qa1_value : SV Z h0 qa1 qa4) (A_qa4 : Arv Z h0 qa4 qk5 .byte (7 : Int32) [.int 44, .int 32, .int 104, .int 105, .int 116, .int 115, .int 61] (.int 0)) (A_qa2 : PA Z h0 qa2 qk6 .byte (70 : Int32) qc7) (hk7 : ((qi3 <<< ((0 : Int32) &&& 31))).toNatClampNeg = (qc7).length) (hk8 : ¬ (qi3 <<< ((0 : Int32) &&& 31)) < 0) (hk9 : ((0 : Int32)).toNatClampNeg + ((7 : Int32)).toNatClampNeg ≤ ((7 : Int32)).toNatClampNeg) (hk10 : ((qi3 <<< ((0 : Int32) &&& 31))).toNatClampNeg + ((7 : Int32)).toNatClampNeg ≤ ((70 : Int32)).toNatClampNeg) (hk11 : (K3_).length ≤ ((7 : Int32)).toNatClampNeg) (g_qa2 : n0 ≤ qa2) :
    MF l Z Y14_ jdk_42_method_147_code 4 none (Rm 1 0 0 18) #[.ref qa1, .ref qa2, .int qi3, .int 0] h0 (Q38 Z qa2 qk6 qc7 h0 n0) := by
 refine own_sF pn6 rfl (fun m => ef14 m qa1 qa2 qi3 (0 : Int32)) ?_
 intro p e s m below meth c s₁ Bd hZ hh hx hby hml hown hnm X0 e0 pre0
 have N0 := Fr.nil n0
 obtain ⟨_, T1, L1, X1, hQ1, st1⟩ := own_cV 0 0 [] 1 #[rv qa1, rv qa2, iv qi3, iv 0] X0 hx hZ hown E_qa1 (w103_ hw) (w104_ hw) (notFace_of_selects (args := #[]) (mvT hZ (w106_ hw))) (w106_ hw) (w105_ hw) (w22_ hw) (w107_ hw) (rm13 l Z a0 hw G1 qa1 h0 n0 X00 O2 P5 F_qa1_coder) pd11 hml.symm (hb hby d18_1) e0 rfl rfl rfl rfl (by decide)
 obtain ⟨rfl, N1q, e1q⟩ := hQ1
 have N1 := Fr.app N0 N1q
 obtain ⟨T2, X2, e2, st2⟩ := own_gF 9 #[rv qa1, rv qa2, iv qi3, iv 0] [] X1 hx hZ hown (w47_ hw) Via.refl e1q F_qa1_value (hb hby d18_9)
 obtain ⟨T3, X3, e3, st3⟩ := own_gF 18 #[rv qa1, rv qa2, iv qi3, iv 0] [(.int (qi3 <<< ((0 : Int32) &&& 31))), .ref qa2, .int 0, .ref qa4] X2 hx hZ hown (w47_ hw) Via.refl e2 F_qa1_value (hb hby d18_18)
 have av4 := A_qa4
 obtain ⟨cl4, Ar4, q4, S4, N4, H4, Gf4⟩ := av4
 have A5_ : PA Z h0 qa4 qk5 .byte (7 : Int32) K3_ := A_qa4
 have Ad6 := (A_qa2).pad (own_repl ((7 : Int32)).toNatClampNeg qc7)
 obtain ⟨T6, h6, L6, X6, e6, N6, K6q, A6, st6⟩ := cpA X3 hx hZ hown (w157_ hw) (w140_ hw) (w138_ hw) (w139_ hw) e3 (vs := K3_.map Value.int) (vd := (qc7 ++ List.replicate ((7 : Int32)).toNatClampNeg 0).map Value.int) A5_ Ad6 (Or.inl ⟨rfl, rfl⟩) (by decide) hk8 (by decide) hk9 hk10 rfl (by rw [List.length_map, List.length_append, List.length_replicate, hk7]; exact Nat.le_refl _) N1 g_qa2 (g := (mkF m 22 #[rv qa1, rv qa2, iv qi3, iv 0] [.int 7, (.int (qi3 <<< ((0 : Int32) &&& 31))), .ref qa2, .int 0, .ref qa4])) rfl hml.symm rfl (hb hby d18_22) (by decide) (W := 0) (own_hw rfl) (by decide)
 have K12 := (Keep.refl h0 [qa2]).trans K6q (allS (Or.inl (mI 0 rfl)) all0)
 have A13_ : PA Z h6 qa2 qk6 .byte (70 : Int32) (qc7 ++ K3_) := A6.pad (own_cpl (S := K3_) (D := qc7) hk7 hk11)
 refine own_lvN X6 Bd e6 ⟨rfl, N6, K12, A13_⟩ rfl (fun fs hr => pre0 _ (by
  show Sx p e below s₁ m 0 #[rv qa1, rv qa2, iv qi3, iv 0] [] _
  refine zb X0 Bd d18_0 rfl rfl ?_
  refine st1 _ ?_
  refine zj X1 Bd d18_4 rfl ?_
  refine zn X1 Bd d18_5 (XT.ii_ne_f ((by decide) : (0 : Int32) = (0 : Int32))) ?_
  refine zb X1 Bd d18_8 rfl rfl ?_
  refine st2 _ ?_
  refine zc X2 Bd d18_12 ?_
  refine zb X2 Bd d18_13 rfl rfl ?_
  refine zj X2 Bd d18_14 rfl ?_
  refine zj X2 Bd d18_15 rfl ?_
  refine XS.ishl X2.here hx rfl (hb hby d18_16) rfl ?_
  refine zb X2 Bd d18_17 rfl rfl ?_
  refine st3 _ ?_
  refine X3.arraylength hx (by rw [e3]; exact Ar4.1) (State.isArrayOf_alike hZ.alike Ar4.2.1) (g := (mkF m 21 #[rv qa1, rv qa2, iv qi3, iv 0] [.ref qa4, (.int (qi3 <<< ((0 : Int32) &&& 31))), .ref qa2, .int 0, .ref qa4])) rfl rfl (hb hby d18_21) _ ?_
  rw [len_of S4 N4]
  refine st6 _ ?_
  refine zg (pc' := 43) X6 Bd d18_25 rfl ?_
  exact X6.returnOut hx Bd.returns (hb hby d18_43) hr))
-- java/lang/AbstractStringBuilder.putStringAt(ILjava/lang/String;)V
def Q39 (Z : State) (qa4 : Addr) (qk7 : ClassId) (qc8 : List Int32) (h0 : Heap) (n0 : Nat) : QT := fun v h L => v = none ∧ Fr n0 L ∧ Keep h0 h [qa4] ∧ PA Z h qa4 qk7 .byte (70 : Int32) (qc8 ++ K3_)
theorem rm39 (hw : HW a0 Z) (G1 : Int32) (qa1 : Addr) (qi2 : Int32) (qa3 : Addr) (qa4 : Addr) (qa5 : Addr) (qk6 : ClassId) (qk7 : ClassId) (qc8 : List Int32) (h0 : Heap) (n0 : Nat) (X00 : Old Z n0 h0) (O2 : CO Z G1) (P5 : NZ G1) (F_qa1_coder : VC Z h0 qa1) (E_qa3 : Exa Z h0 qa3 ST_) (F_qa3_coder : SC Z h0 qa3) (E_qa1 : Exa Z h0 qa1 SB_) (F_qa1_value : VA Z h0 qa1 qa4) (F_qa3_value : SV Z h0 qa3 qa5) (A_qa5 : Arv Z h0 qa5 qk6 .byte (7 : Int32) [.int 44, .int 32, .int 104, .int 105, .int 116, .int 115, .int 61] (.int 0)) (A_qa4 : PA Z h0 qa4 qk7 .byte (70 : Int32) qc8) (hk5 : ((qi2 <<< ((0 : Int32) &&& 31))).toNatClampNeg = (qc8).length) (hk6 : ¬ (qi2 <<< ((0 : Int32) &&& 31)) < 0) (hk7 : ((0 : Int32)).toNatClampNeg + ((7 : Int32)).toNatClampNeg ≤ ((7 : Int32)).toNatClampNeg) (hk8 : ((qi2 <<< ((0 : Int32) &&& 31))).toNatClampNeg + ((7 : Int32)).toNatClampNeg ≤ ((70 : Int32)).toNatClampNeg) (hk9 : (K3_).length ≤ ((7 : Int32)).toNatClampNeg) (g_qa4 : n0 ≤ qa4) :
    MF l Z Y15_ jdk_68_method_73_code 3 none (Rm 2 0 0 33) #[.ref qa1, .int qi2, .ref qa3] h0 (Q39 Z qa4 qk7 qc8 h0 n0) := by
 refine own_sF pn3 rfl (fun m => ef13 m qa1 qi2 qa3) ?_
 intro p e s m below meth c s₁ Bd hZ hh hx hby hml hown hnm X0 e0 pre0
 have N0 := Fr.nil n0
 obtain ⟨_, T1, L1, X1, hQ1, st1⟩ := own_cP 0 0 [] 2 #[rv qa1, iv qi2, rv qa3] X0 hx hZ hown E_qa1 (w146_ hw) (w147_ hw) (w149_ hw) (w148_ hw) (w77_ hw) (w150_ hw) (rm14 l Z a0 hw G1 qa1 qa3 h0 n0 X00 O2 P5 F_qa1_coder E_qa3 F_qa3_coder) pd12 hml.symm (hb hby d15_2) e0 rfl rfl rfl rfl (by decide)
 obtain ⟨rfl, N1q, e1q⟩ := hQ1
 have N1 := Fr.app N0 N1q
 obtain ⟨T2, X2, e2, st2⟩ := own_gF 7 #[rv qa1, iv qi2, rv qa3] [.ref qa3] X1 hx hZ hown (w81_ hw) Via.refl e1q F_qa1_value (hb hby d15_7)
 obtain ⟨T3, X3, e3, st3⟩ := own_gF 12 #[rv qa1, iv qi2, rv qa3] [.int qi2, .ref qa4, .ref qa3] X2 hx hZ hown (w83_ hw) Via.refl e2 F_qa1_coder (hb hby d15_12)
 obtain ⟨_, T4, L4, X4, hQ4, st4⟩ := own_cV 0 0 [] 15 #[rv qa1, iv qi2, rv qa3] X3 hx hZ hown E_qa3 (w152_ hw) (w153_ hw) (notFace_of_selects (args := #[]) (mvT hZ (w155_ hw))) (w155_ hw) (w154_ hw) (w22_ hw) (w156_ hw) (rm38 l Z a0 hw G1 qa3 qa4 qi2 qa5 qk6 qk7 qc8 h0 n0 X00 O2 P5 E_qa3 F_qa3_coder F_qa3_value A_qa5 A_qa4 hk5 hk6 hk7 hk8 hk9 g_qa4) pd13 hml.symm (hb hby d15_15) e3 rfl rfl rfl rfl (by decide)
 obtain ⟨rfl, N4q, K4q, w10⟩ := hQ4
 have N4 := Fr.app N1 N4q
 have K11 := (Keep.refl h0 [qa4]).trans K4q (allS (Or.inl (mI 0 rfl)) all0)
 refine own_lvN X4 Bd rfl ⟨rfl, N4, K11, w10⟩ rfl (fun fs hr => pre0 _ (by
  show Sx p e below s₁ m 0 #[rv qa1, iv qi2, rv qa3] [] _
  refine zb X0 Bd d15_0 rfl rfl ?_
  refine zb X0 Bd d15_1 rfl rfl ?_
  refine st1 _ ?_
  refine zb X1 Bd d15_5 rfl rfl ?_
  refine zb X1 Bd d15_6 rfl rfl ?_
  refine st2 _ ?_
  refine zj X2 Bd d15_10 rfl ?_
  refine zb X2 Bd d15_11 rfl rfl ?_
  refine st3 _ ?_
  refine st4 _ ?_
  exact X4.returnOut hx Bd.returns (hb hby d15_18) hr))
-- java/lang/AbstractStringBuilder.append(Ljava/lang/String;)Ljava/lang/AbstractStringBuilder;
def Q40 (Z : State) (qa1 : Addr) (qi5 : Int32) (qa6 : Addr) (qk7 : ClassId) (qc8 : List Int32) (h0 : Heap) (n0 : Nat) : QT := fun v h L => v = some (.ref qa1) ∧ Fr n0 L ∧ Keep h0 h [qa6, qa1] ∧ Fld Z h qa1 AB_ "count" "I" (.int (qi5 + (7 : Int32))) ∧ VA Z h qa1 qa6 ∧ VC Z h qa1 ∧ Exa Z h qa1 SB_ ∧ PA Z h qa6 qk7 .byte (70 : Int32) (qc8 ++ K3_)
theorem rm40 (hw : HW a0 Z) (G1 : Int32) (qa1 : Addr) (qa2 : Addr) (qa3 : Addr) (qk4 : ClassId) (qi5 : Int32) (qa6 : Addr) (qk7 : ClassId) (qc8 : List Int32) (h0 : Heap) (n0 : Nat) (X00 : Old Z n0 h0) (O2 : CO Z G1) (P5 : NZ G1) (E_qa2 : Exa Z h0 qa2 ST_) (F_qa2_coder : SC Z h0 qa2) (F_qa2_value : SV Z h0 qa2 qa3) (hp_qa2 : ∀ c ∈ K3_, ¬ c < 0 ∧ ¬ (255 : Int32) < c) (A_qa3 : Arv Z h0 qa3 qk4 .byte (7 : Int32) [.int 44, .int 32, .int 104, .int 105, .int 116, .int 115, .int 61] (.int 0)) (F_qa1_count : VN Z h0 qa1 qi5) (F_qa1_value : VA Z h0 qa1 qa6) (A_qa6 : PA Z h0 qa6 qk7 .byte (70 : Int32) qc8) (F_qa1_coder : VC Z h0 qa1) (hc5 : ¬ ((0 : Int32) < ((qi5 + (7 : Int32)) - (70 : Int32)))) (E_qa1 : Exa Z h0 qa1 SB_) (hk8 : ((qi5 <<< ((0 : Int32) &&& 31))).toNatClampNeg = (qc8).length) (hk9 : ¬ (qi5 <<< ((0 : Int32) &&& 31)) < 0) (hk10 : ((0 : Int32)).toNatClampNeg + ((7 : Int32)).toNatClampNeg ≤ ((7 : Int32)).toNatClampNeg) (hk11 : ((qi5 <<< ((0 : Int32) &&& 31))).toNatClampNeg + ((7 : Int32)).toNatClampNeg ≤ ((70 : Int32)).toNatClampNeg) (hk12 : (K3_).length ≤ ((7 : Int32)).toNatClampNeg) (g_qa6 : n0 ≤ qa6) (ne_qa1_qa6 : qa1 ≠ qa6) (g_qa1 : n0 ≤ qa1) :
    MF l Z Y16_ jdk_68_method_22_code 3 (some (.object AB_)) (Rm 3 0 0 47) #[.ref qa1, .ref qa2] h0 (Q40 Z qa1 qi5 qa6 qk7 qc8 h0 n0) := by
 refine own_sF pn3 rfl (fun m => ef8 m qa1 qa2) ?_
 intro p e s m below meth c s₁ Bd hZ hh hx hby hml hown hnm X0 e0 pre0
 have N0 := Fr.nil n0
 have hcd2 : StrChars.Road.CodA K3_ 0 (7 : Int32) [.int 44, .int 32, .int 104, .int 105, .int 116, .int 115, .int 61] := StrChars.Road.codOf (n := 7) rfl (fun x hx => (hp_qa2 x hx).2)
 have hbd2 : ∀ x ∈ K3_, ¬ x < 0 ∧ ¬ (65535 : Int32) < x := own_up _ hp_qa2
 obtain ⟨cq1, kq1, q1a, q1b, q1c⟩ := isOf hZ e0 E_qa2
 obtain ⟨_, T1, L1, X1, hQ1, st1⟩ := own_cb0 0 0 0 0 0 0 (X0.virtualBack hx (y := Y17_) (z := Y17_) hown (mvT hZ (w98_ hw)) (mvT hZ (w99_ hw)) (notFace_of_selects (args := #[]) (mvT hZ (w101_ hw))) (mvT hZ (w101_ hw)) (mvT hZ (w100_ hw)) (by decide) (StrChars.Road.lenW (W := 0) hZ (own_wl hw) (kI := 4) (w21_ hw) E_qa2 F_qa2_value F_qa2_coder A_qa3 hcd2 hbd2 (O2.ext X00.2) P5 (lE rfl) (lE rfl) (lE rfl)) q1a q1c (g := (mkF m 10 #[rv qa1, rv qa2, .unset] [.ref qa2])) rfl hml.symm (Steps.refl _) (argsL := []) (rest := []) (lenOf pd7 rfl) rfl (own_hw rfl) (hb hby d8_10) (fun _ _ => ⟨rfl, e0, (lE rfl : 0 + 0 ≤ _), (lE rfl : 0 + 0 ≤ _)⟩)) rfl rfl
 dsimp only [Pt.U, Pt.locs, Pt.cells, Pt.slots] at hQ1
 obtain ⟨rfl, rfl, e1q⟩ := hQ1
 have N1 := Fr.app N0 (Fr.nil n0)
 obtain ⟨T3, X3, e3, st3⟩ := own_gF 16 #[rv qa1, rv qa2, iv 7] [.ref qa1] X1 hx hZ hown (w108_ hw) Via.refl e1q F_qa1_count (hb hby d8_16)
 obtain ⟨_, T4, L4, X4, hQ4, st4⟩ := own_cP 0 0 [] 21 #[rv qa1, rv qa2, iv 7] X3 hx hZ hown E_qa1 (w110_ hw) (w111_ hw) (w113_ hw) (w112_ hw) (w77_ hw) (w114_ hw) (rm35 l Z a0 hw  qa1 (qi5 + (7 : Int32)) qa6 qk7 qc8 h0 n0 X00 F_qa1_value A_qa6 F_qa1_coder hc5) pd5 hml.symm (hb hby d8_21) e3 rfl rfl rfl rfl (by decide)
 obtain ⟨rfl, N4q, e4q⟩ := hQ4
 have N4 := Fr.app N1 N4q
 obtain ⟨T6, X6, e6, st6⟩ := own_gF 26 #[rv qa1, rv qa2, iv 7] [.ref qa1] X4 hx hZ hown (w108_ hw) Via.refl e4q F_qa1_count (hb hby d8_26)
 obtain ⟨_, T7, L7, X7, hQ7, st7⟩ := own_cP 0 0 [] 30 #[rv qa1, rv qa2, iv 7] X6 hx hZ hown E_qa1 (w141_ hw) (w142_ hw) (w144_ hw) (w143_ hw) (w77_ hw) (w145_ hw) (rm39 l Z a0 hw G1 qa1 qi5 qa2 qa6 qa3 qk4 qk7 qc8 h0 n0 X00 O2 P5 F_qa1_coder E_qa2 F_qa2_coder E_qa1 F_qa1_value F_qa2_value A_qa3 A_qa6 hk8 hk9 hk10 hk11 hk12 g_qa6) pd14 hml.symm (hb hby d8_30) e6 rfl rfl rfl rfl (by decide)
 obtain ⟨rfl, N7q, K7q, w13⟩ := hQ7
 have N7 := Fr.app N4 N7q
 have K14 := (Keep.refl h0 [qa6, qa1]).trans K7q (allS (Or.inl (mI 0 rfl)) all0)
 have F16_ := F_qa1_count.keep K7q (ninS ne_qa1_qa6 nin0)
 obtain ⟨T15, X15, e15, st15⟩ := own_gF 35 #[rv qa1, rv qa2, iv 7] [.ref qa1] X7 hx hZ hown (w108_ hw) Via.refl rfl F16_ (hb hby d8_35)
 have E17_ := E_qa1.keep K7q
 obtain ⟨T18, h18, X18, e18, W18, st18⟩ := putF X15 hx hZ hown (host := "") (Or.inl (w108_ hw)) Via.refl e15 F16_ E17_ (Or.inl (w109_ hw)) (w68_ hw) (ty := .int) (by decide) rfl rfl (g := (mkF m 40 #[rv qa1, rv qa2, iv 7] [(.int (qi5 + (7 : Int32))), .ref qa1])) rfl rfl (hb hby d8_40)
 have N18 := Fr.snoc X18 N7 g_qa1
 have K19 := K14.wr W18 (Or.inl (mI 1 rfl))
 have F20_ : Fld Z h18 qa1 AB_ "count" "I" (.int (qi5 + (7 : Int32))) := F16_.same W18
 have F21_ := F_qa1_value.keep K7q (ninS ne_qa1_qa6 nin0)
 have F22_ := F21_.other W18 (Or.inr (slot_ne (Or.inl (w82_ hw)) (Or.inl (w109_ hw)) (by decide) (t := (.array .byte)) (t' := .int) (by decide) (by decide)))
 have F23_ := F_qa1_coder.keep K7q (ninS ne_qa1_qa6 nin0)
 have F24_ := F23_.other W18 (Or.inr (slot_ne (Or.inl (w84_ hw)) (Or.inl (w109_ hw)) (by decide) (t := .byte) (t' := .int) (by decide) (by decide)))
 have E25_ := E17_.wr W18
 have A26_ := w13.other W18 (Ne.symm ne_qa1_qa6)
 refine own_lvF X18 Bd (.ref qa1) e18 ⟨rfl, N18, K19, F20_, F22_, F24_, E25_, A26_⟩ rfl (fun fs hr => pre0 _ (by
  show Sx p e below s₁ m 0 #[rv qa1, rv qa2, .unset] [] _
  refine zb X0 Bd d8_0 rfl rfl ?_
  refine XS.ifnonnullYes X0.here hx rfl (pc0 := 1) (pc' := 9) rfl (hb hby d8_1) rfl (by decide) (by decide) ?_
  refine zb X0 Bd d8_9 rfl rfl ?_
  refine st1.trans ?_
  refine zt X1 Bd d8_13 (l' := #[rv qa1, rv qa2, iv 7]) rfl ?_
  refine zb X1 Bd d8_14 rfl rfl ?_
  refine zb X1 Bd d8_15 rfl rfl ?_
  refine st3 _ ?_
  refine zj X3 Bd d8_19 rfl ?_
  refine XS.iadd X3.here hx rfl (hb hby d8_20) rfl ?_
  refine st4 _ ?_
  refine zb X4 Bd d8_24 rfl rfl ?_
  refine zb X4 Bd d8_25 rfl rfl ?_
  refine st6 _ ?_
  refine zb X6 Bd d8_29 rfl rfl ?_
  refine st7 _ ?_
  refine zb X7 Bd d8_33 rfl rfl ?_
  refine XS.dup X7.here hx rfl (hb hby d8_34) rfl rfl ?_
  refine st15 _ ?_
  refine zj X15 Bd d8_38 rfl ?_
  refine XS.iadd X15.here hx rfl (hb hby d8_39) rfl ?_
  refine st18 _ ?_
  refine zb X18 Bd d8_43 rfl rfl ?_
  exact retOut X18 hx Bd.returns rfl (Or.inr (Or.inr (Or.inr (Or.inr ⟨rfl, rfl, rfl⟩)))) (hb hby d8_44) hr))
-- java/lang/StringBuilder.append(Ljava/lang/String;)Ljava/lang/StringBuilder;
def Q41 (Z : State) (qa1 : Addr) (qi5 : Int32) (qa6 : Addr) (qk7 : ClassId) (qc8 : List Int32) (h0 : Heap) (n0 : Nat) : QT := fun v h L => v = some (.ref qa1) ∧ Fr n0 L ∧ Keep h0 h [qa1, qa6] ∧ Exa Z h qa1 SB_ ∧ Fld Z h qa1 AB_ "count" "I" (.int (qi5 + (7 : Int32))) ∧ VA Z h qa1 qa6 ∧ VC Z h qa1 ∧ PA Z h qa6 qk7 .byte (70 : Int32) (qc8 ++ K3_)
theorem rm41 (hw : HW a0 Z) (G1 : Int32) (qa1 : Addr) (qa2 : Addr) (qa3 : Addr) (qk4 : ClassId) (qi5 : Int32) (qa6 : Addr) (qk7 : ClassId) (qc8 : List Int32) (h0 : Heap) (n0 : Nat) (X00 : Old Z n0 h0) (O2 : CO Z G1) (P5 : NZ G1) (E_qa2 : Exa Z h0 qa2 ST_) (F_qa2_coder : SC Z h0 qa2) (F_qa2_value : SV Z h0 qa2 qa3) (hp_qa2 : ∀ c ∈ K3_, ¬ c < 0 ∧ ¬ (255 : Int32) < c) (A_qa3 : Arv Z h0 qa3 qk4 .byte (7 : Int32) [.int 44, .int 32, .int 104, .int 105, .int 116, .int 115, .int 61] (.int 0)) (F_qa1_count : VN Z h0 qa1 qi5) (F_qa1_value : VA Z h0 qa1 qa6) (A_qa6 : PA Z h0 qa6 qk7 .byte (70 : Int32) qc8) (F_qa1_coder : VC Z h0 qa1) (hc2 : ¬ ((0 : Int32) < ((qi5 + (7 : Int32)) - (70 : Int32)))) (E_qa1 : Exa Z h0 qa1 SB_) (hk3 : ((qi5 <<< ((0 : Int32) &&& 31))).toNatClampNeg = (qc8).length) (hk4 : ¬ (qi5 <<< ((0 : Int32) &&& 31)) < 0) (hk5 : ((0 : Int32)).toNatClampNeg + ((7 : Int32)).toNatClampNeg ≤ ((7 : Int32)).toNatClampNeg) (hk6 : ((qi5 <<< ((0 : Int32) &&& 31))).toNatClampNeg + ((7 : Int32)).toNatClampNeg ≤ ((70 : Int32)).toNatClampNeg) (hk7 : (K3_).length ≤ ((7 : Int32)).toNatClampNeg) (g_qa6 : n0 ≤ qa6) (ne_qa1_qa6 : qa1 ≠ qa6) (g_qa1 : n0 ≤ qa1) :
    MF l Z Y18_ jdk_67_method_7_code 2 (some (.object SB_)) (Rm 4 0 0 61) #[.ref qa1, .ref qa2] h0 (Q41 Z qa1 qi5 qa6 qk7 qc8 h0 n0) := by
 refine own_sF pn2 rfl (fun m => ef7 m qa1 qa2) ?_
 intro p e s m below meth c s₁ Bd hZ hh hx hby hml hown hnm X0 e0 pre0
 have N0 := Fr.nil n0
 obtain ⟨_, T1, L1, X1, hQ1, st1⟩ := own_cU 0 0 [] 2 #[rv qa1, rv qa2] X0 hx hZ hown E_qa1 (w93_ hw) (own_same (w94_ hw) (w113_ hw) rfl (by decide)) (w94_ hw) (w95_ hw) (w77_ hw) (w97_ hw) (rm40 l Z a0 hw G1 qa1 qa2 qa3 qk4 qi5 qa6 qk7 qc8 h0 n0 X00 O2 P5 E_qa2 F_qa2_coder F_qa2_value hp_qa2 A_qa3 F_qa1_count F_qa1_value A_qa6 F_qa1_coder hc2 E_qa1 hk3 hk4 hk5 hk6 hk7 g_qa6 ne_qa1_qa6 g_qa1) pd15 hml.symm (hb hby d7_2) e0 rfl rfl rfl rfl (by decide)
 obtain ⟨rfl, N1q, K1q, w8, w9, w10, w11, w12⟩ := hQ1
 have N1 := Fr.app N0 N1q
 have K13 := (Keep.refl h0 [qa1, qa6]).trans K1q (allS (Or.inl (mI 1 rfl)) (allS (Or.inl (mI 0 rfl)) all0))
 have E14_ := E_qa1.keep K1q
 refine own_lvF X1 Bd (.ref qa1) rfl ⟨rfl, N1, K13, E14_, w8, w9, w10, w12⟩ rfl (fun fs hr => pre0 _ (by
  show Sx p e below s₁ m 0 #[rv qa1, rv qa2] [] _
  refine zb X0 Bd d7_0 rfl rfl ?_
  refine zb X0 Bd d7_1 rfl rfl ?_
  refine st1 _ ?_
  refine XS.pop X1.here hx rfl (hb hby d7_5) rfl rfl ?_
  refine zb X1 Bd d7_6 rfl rfl ?_
  exact retOut X1 hx Bd.returns rfl (Or.inr (Or.inr (Or.inr (Or.inr ⟨rfl, rfl, rfl⟩)))) (hb hby d7_7) hr))
theorem d4_36 : D C3_ 36 (.aload_n 0) 1 := by decide +kernel
theorem d4_37 : D C3_ 37 (.getfield 16) 3 := by decide +kernel
theorem d4_40 : D C3_ 40 (.invokevirtual 28) 3 := by decide +kernel
theorem d4_43 : D C3_ 43 (.ldc 35) 2 := by decide +kernel
theorem d4_45 : D C3_ 45 (.invokevirtual 24) 3 := by decide +kernel
-- java/lang/Math.max(II)I
def Q42 (Z : State)  (h0 : Heap) (n0 : Nat) : QT := fun v h L => v = some (.int 72) ∧ Fr n0 L ∧ h = h0
theorem rm42 (hw : HW a0 Z) (qi1 : Int32) (h0 : Heap) (n0 : Nat) (X00 : Old Z n0 h0) (hc1 : qi1 < (72 : Int32)) :
    MF l Z Y6_ jdk_29_method_65_code 2 (some .int) (Rm 0 0 0 0) #[.int qi1, .int 72] h0 (Q42 Z  h0 n0) := by
 refine own_sFm (K := "java/lang/Math") (by decide +kernel) rfl (fun m => ef12 m qi1 (72 : Int32)) ?_
 intro p e s m below meth c s₁ Bd hZ hh hx hby hml hown hnm X0 e0 pre0
 have N0 := Fr.nil n0
 refine own_lvF X0 Bd (.int 72) e0 ⟨rfl, N0, rfl⟩ rfl (fun fs hr => pre0 _ (by
  show Sx p e below s₁ m 0 #[iv qi1, iv 72] [] _
  refine zj X0 Bd d12_0 rfl ?_
  refine zj X0 Bd d12_1 rfl ?_
  refine zy (pc' := 9) X0 Bd d12_2 (XT.ii_lt_t (hc1 : qi1 < (72 : Int32))) rfl ?_
  refine zj X0 Bd d12_9 rfl ?_
  exact retI X0 hx Bd.returns (hb hby d12_10) hr))
-- jdk/internal/util/ArraysSupport.newLength(III)I
def Q43 (Z : State)  (h0 : Heap) (n0 : Nat) : QT := fun v h L => v = some (.int 142) ∧ Fr n0 L ∧ h = h0
theorem rm43 (hw : HW a0 Z) (qi1 : Int32) (h0 : Heap) (n0 : Nat) (X00 : Old Z n0 h0) (hc2 : qi1 < (72 : Int32)) :
    MF l Z Y7_ jdk_48_method_27_code 4 (some .int) (Rm 1 0 0 14) #[.int 70, .int qi1, .int 72] h0 (Q43 Z  h0 n0) := by
 refine own_sF pn4 rfl (fun m => ef11 m (70 : Int32) qi1 (72 : Int32)) ?_
 intro p e s m below meth c s₁ Bd hZ hh hx hby hml hown hnm X0 e0 pre0
 have N0 := Fr.nil n0
 obtain ⟨_, T1, L1, X1, hQ1, st1⟩ := own_cS 0 0 [.int 70] 3 #[iv 70, iv qi1, iv 72, .unset] X0 hx hZ hown (w124_ hw) (w125_ hw) (w126_ hw) (w127_ hw) (rm42 l Z a0 hw  qi1 h0 n0 X00 hc2) pd8 hml.symm (hb hby d11_3) e0 rfl rfl rfl rfl (by decide)
 obtain ⟨rfl, N1q, e1q⟩ := hQ1
 have N1 := Fr.app N0 N1q
 refine own_lvF X1 Bd (.int 142) e1q ⟨rfl, N1, rfl⟩ rfl (fun fs hr => pre0 _ (by
  show Sx p e below s₁ m 0 #[iv 70, iv qi1, iv 72, .unset] [] _
  refine zj X0 Bd d11_0 rfl ?_
  refine zj X0 Bd d11_1 rfl ?_
  refine zj X0 Bd d11_2 rfl ?_
  refine st1 _ ?_
  refine XS.iadd X1.here hx rfl (hb hby d11_6) rfl ?_
  refine zt X1 Bd d11_7 (l' := #[iv 70, iv qi1, iv 72, iv 142]) rfl ?_
  refine zc X1 Bd d11_8 ?_
  refine zj X1 Bd d11_9 rfl ?_
  refine zn X1 Bd d11_10 (XT.ii_ge_f ((by decide) : (0 : Int32) < (142 : Int32))) ?_
  refine zj X1 Bd d11_13 rfl ?_
  refine X1.ldcInt hx hown (mvT hZ (w128_ hw)) (g := (mkF m 14 #[iv 70, iv qi1, iv 72, iv 142] [.int 142])) rfl (hb hby d11_14) _ ?_
  refine zn X1 Bd d11_16 (XT.ii_gt_f ((by decide) : ¬ ((2147483639 : Int32) < (142 : Int32)))) ?_
  refine zj X1 Bd d11_19 rfl ?_
  exact retI X1 hx Bd.returns (hb hby d11_20) hr))
-- java/lang/AbstractStringBuilder.newCapacity(I)I
def Q44 (Z : State)  (h0 : Heap) (n0 : Nat) : QT := fun v h L => v = some (.int 142) ∧ Fr n0 L ∧ h = h0
abbrev l20_ (qa1 : Addr) (qi2 : Int32) : Array Slot := #[rv qa1, iv qi2, iv 70, iv (qi2 <<< ((0 : Int32) &&& 31)), iv ((qi2 <<< ((0 : Int32) &&& 31)) - (70 : Int32)), .unset]
abbrev l21_ (qa1 : Addr) (qi2 : Int32) : Array Slot := #[rv qa1, iv qi2, iv 70, iv (qi2 <<< ((0 : Int32) &&& 31)), iv ((qi2 <<< ((0 : Int32) &&& 31)) - (70 : Int32)), iv 142]
theorem rm44 (hw : HW a0 Z) (qa1 : Addr) (qi2 : Int32) (qa3 : Addr) (qk4 : ClassId) (qc5 : List Int32) (h0 : Heap) (n0 : Nat) (X00 : Old Z n0 h0) (F_qa1_value : VA Z h0 qa1 qa3) (A_qa3 : PA Z h0 qa3 qk4 .byte (70 : Int32) qc5) (F_qa1_coder : VC Z h0 qa1) (hc6 : ((qi2 <<< ((0 : Int32) &&& 31)) - (70 : Int32)) < (72 : Int32)) :
    MF l Z Y8_ jdk_68_method_10_code 6 (some .int) (Rm 2 0 0 29) #[.ref qa1, .int qi2] h0 (Q44 Z  h0 n0) := by
 refine own_sF pn3 rfl (fun m => ef10 m qa1 qi2) ?_
 intro p e s m below meth c s₁ Bd hZ hh hx hby hml hown hnm X0 e0 pre0
 have N0 := Fr.nil n0
 obtain ⟨T1, X1, e1, st1⟩ := own_gF 1 #[rv qa1, iv qi2, .unset, .unset, .unset, .unset] [] X0 hx hZ hown (w81_ hw) Via.refl e0 F_qa1_value (hb hby d10_1)
 have av2 := A_qa3
 obtain ⟨cl2, Ar2, q2, S2, N2, H2, Gf2⟩ := av2
 obtain ⟨T3, X3, e3, st3⟩ := own_gF 8 #[rv qa1, iv qi2, iv 70, .unset, .unset, .unset] [.int qi2] X1 hx hZ hown (w83_ hw) Via.refl e1 F_qa1_coder (hb hby d10_8)
 obtain ⟨T4, X4, e4, st4⟩ := own_gF 24 (l20_ qa1 qi2) [.int 2, .int 70, (.int ((qi2 <<< ((0 : Int32) &&& 31)) - (70 : Int32))), .int 70] X3 hx hZ hown (w83_ hw) Via.refl e3 F_qa1_coder (hb hby d10_24)
 obtain ⟨_, T5, L5, X5, hQ5, st5⟩ := own_cS 0 0 [] 29 (l20_ qa1 qi2) X4 hx hZ hown (w120_ hw) (w121_ hw) (w122_ hw) (w123_ hw) (rm43 l Z a0 hw  ((qi2 <<< ((0 : Int32) &&& 31)) - (70 : Int32)) h0 n0 X00 hc6) pd9 hml.symm (hb hby d10_29) e4 rfl rfl rfl rfl (by decide)
 obtain ⟨rfl, N5q, e5q⟩ := hQ5
 have N5 := Fr.app N0 N5q
 obtain ⟨T7, X7, e7, st7⟩ := own_gF 54 (l21_ qa1 qi2) [.int 142] X5 hx hZ hown (w83_ hw) Via.refl e5q F_qa1_coder (hb hby d10_54)
 refine own_lvF X7 Bd (.int 142) e7 ⟨rfl, N5, rfl⟩ rfl (fun fs hr => pre0 _ (by
  show Sx p e below s₁ m 0 #[rv qa1, iv qi2, .unset, .unset, .unset, .unset] [] _
  refine zb X0 Bd d10_0 rfl rfl ?_
  refine st1 _ ?_
  refine X1.arraylength hx (by rw [e1]; exact Ar2.1) (State.isArrayOf_alike hZ.alike Ar2.2.1) (g := (mkF m 4 #[rv qa1, iv qi2, .unset, .unset, .unset, .unset] [.ref qa3])) rfl rfl (hb hby d10_4) _ ?_
  rw [len_of S2 N2]
  refine zt X1 Bd d10_5 (l' := #[rv qa1, iv qi2, iv 70, .unset, .unset, .unset]) rfl ?_
  refine zj X1 Bd d10_6 rfl ?_
  refine zb X1 Bd d10_7 rfl rfl ?_
  refine st3 _ ?_
  refine XS.ishl X3.here hx rfl (hb hby d10_11) rfl ?_
  refine zt X3 Bd d10_12 (l' := #[rv qa1, iv qi2, iv 70, iv (qi2 <<< ((0 : Int32) &&& 31)), .unset, .unset]) rfl ?_
  refine zj X3 Bd d10_13 rfl ?_
  refine zj X3 Bd d10_14 rfl ?_
  refine XS.isub X3.here hx rfl (hb hby d10_15) rfl ?_
  refine zs X3 Bd d10_16 (l' := (l20_ qa1 qi2)) rfl ?_
  refine zj X3 Bd d10_18 rfl ?_
  refine zi X3 Bd d10_19 rfl ?_
  refine zj X3 Bd d10_21 rfl ?_
  refine zc X3 Bd d10_22 ?_
  refine zb X3 Bd d10_23 rfl rfl ?_
  refine st4 _ ?_
  refine XS.ishl X4.here hx rfl (hb hby d10_27) rfl ?_
  refine XS.iadd X4.here hx rfl (hb hby d10_28) rfl ?_
  refine st5 _ ?_
  refine zs X5 Bd d10_32 (l' := (l21_ qa1 qi2)) rfl ?_
  refine zi X5 Bd d10_34 rfl ?_
  refine X5.ldcInt hx hown (mvT hZ (w129_ hw)) (g := (mkF m 36 (l21_ qa1 qi2) [.int 142])) rfl (hb hby d10_36) _ ?_
  refine zy (pc' := 51) X5 Bd d10_38 (XT.ii_ne_t ((by decide) : ¬ ((142 : Int32) = (2147483647 : Int32)))) rfl ?_
  refine zi X5 Bd d10_51 rfl ?_
  refine zb X5 Bd d10_53 rfl rfl ?_
  refine st7 _ ?_
  refine XS.ishr X7.here hx rfl (hb hby d10_57) rfl ?_
  exact retI X7 hx Bd.returns (hb hby d10_58) hr))
-- java/lang/Math.min(II)I
def Q45 (Z : State)  (h0 : Heap) (n0 : Nat) : QT := fun v h L => v = some (.int 70) ∧ Fr n0 L ∧ h = h0
theorem rm45 (hw : HW a0 Z)  (h0 : Heap) (n0 : Nat) (X00 : Old Z n0 h0)  :
    MF l Z Y9_ jdk_29_method_69_code 2 (some .int) (Rm 0 0 0 0) #[.int 70, .int 142] h0 (Q45 Z  h0 n0) := by
 refine own_sFm (K := "java/lang/Math") (by decide +kernel) rfl (fun m => ef12 m (70 : Int32) (142 : Int32)) ?_
 intro p e s m below meth c s₁ Bd hZ hh hx hby hml hown hnm X0 e0 pre0
 have N0 := Fr.nil n0
 refine own_lvF X0 Bd (.int 70) e0 ⟨rfl, N0, rfl⟩ rfl (fun fs hr => pre0 _ (by
  show Sx p e below s₁ m 0 #[iv 70, iv 142] [] _
  refine zj X0 Bd d14_0 rfl ?_
  refine zj X0 Bd d14_1 rfl ?_
  refine zn X0 Bd d14_2 (XT.ii_gt_f ((by decide) : ¬ ((142 : Int32) < (70 : Int32)))) ?_
  refine zj X0 Bd d14_5 rfl ?_
  refine zg (pc' := 10) X0 Bd d14_6 rfl ?_
  exact retI X0 hx Bd.returns (hb hby d14_10) hr))
-- java/util/Arrays.copyOf([BI)[B
def Q46 (Z : State) (qc3 : List Int32) (h0 : Heap) (n0 : Nat) : QT := fun v h L => ∃ b2 : Addr, ∃ c2 : ClassId, v = some (.ref b2) ∧ Fr n0 L ∧ Keep h0 h [] ∧ h0.size ≤ b2 ∧ Exa Z h b2 "[B" ∧ PA Z h b2 c2 .byte (142 : Int32) qc3
theorem rm46 (hw : HW a0 Z) (qa1 : Addr) (qk2 : ClassId) (qc3 : List Int32) (h0 : Heap) (n0 : Nat) (X00 : Old Z n0 h0) (A_qa1 : PA Z h0 qa1 qk2 .byte (70 : Int32) qc3) (hk10 : ((0 : Int32)).toNatClampNeg = (([] : List Int32)).length) (hk11 : ((0 : Int32)).toNatClampNeg + ((70 : Int32)).toNatClampNeg ≤ ((70 : Int32)).toNatClampNeg) (hk12 : ((0 : Int32)).toNatClampNeg + ((70 : Int32)).toNatClampNeg ≤ ((142 : Int32)).toNatClampNeg) (hk13 : (qc3).length ≤ ((70 : Int32)).toNatClampNeg) :
    MF l Z Y10_ jdk_65_method_121_code 3 (some (.array .byte)) (Rm 1 1 142 18) #[.ref qa1, .int 142] h0 (Q46 Z qc3 h0 n0) := by
 refine own_sF pn5 rfl (fun m => ef9 m qa1 (142 : Int32)) ?_
 intro p e s m below meth c s₁ Bd hZ hh hx hby hml hown hnm X0 e0 pre0
 have N0 := Fr.nil n0
 have av1 := A_qa1
 obtain ⟨cl1, Ar1, q1, S1, N1, H1, Gf1⟩ := av1
 obtain ⟨T2, h2, c2, X2, e2, E2, A2, Ex2, st2⟩ := own_newPE X0 hx hZ (w38_ hw) e0 (g := (mkF m 15 #[rv qa1, iv 142, .unset] [.int 142])) rfl (hb hby d13_15) rfl (by decide) (cap := 142) (by decide) (lE rfl) (lE rfl) (lE rfl)
 obtain ⟨b2, g2⟩ : ∃ z, z = h0.size := ⟨_, rfl⟩
 rw [← g2] at A2 st2 Ex2
 replace X2 : Stand p l e (Rm 1 1 142 18) s m #[.ref qa1, .int 142] below meth c T2 _ 1 142 := X2
 have K3 := (Keep.refl h0 []).ext E2
 have A4_ : PA Z h2 b2 c2 .byte (142 : Int32) ([] : List Int32) := Arv.new A2 (by decide)
 have A6_ := A_qa1.ext E2
 have av5 := A6_
 obtain ⟨cl5, Ar5, q5, S5, N5, H5, Gf5⟩ := av5
 have O8 := X00.ext E2
 obtain ⟨_, T7, L7, X7, hQ7, st7⟩ := own_cS 1 142 [.int 0, .ref b2, .int 0, .ref qa1] 25 #[rv qa1, iv 142, rv b2] X2 hx hZ hown (w134_ hw) (w135_ hw) (w126_ hw) (w136_ hw) (rm45 l Z a0 hw   h2 n0 O8 ) pd8 hml.symm (hb hby d13_25) e2 rfl rfl rfl rfl (by decide)
 obtain ⟨rfl, N7q, e7q⟩ := hQ7
 have N7 := Fr.app N0 N7q
 have Ad9 := (A4_).pad (own_repl ((70 : Int32)).toNatClampNeg ([] : List Int32))
 have g_b2 : n0 ≤ b2 := Nat.le_trans (Nat.le_trans (Nat.le_of_eq X00.1.symm) X00.2.1) (Nat.le_of_eq g2.symm)
 obtain ⟨T9, h9, L9, X9, e9, N9, K9q, A9, st9⟩ := cpA X7 hx hZ hown (w137_ hw) (w140_ hw) (w138_ hw) (w139_ hw) e7q (vs := qc3.map Value.int) (vd := (([] : List Int32) ++ List.replicate ((70 : Int32)).toNatClampNeg 0).map Value.int) A6_ Ad9 (Or.inl ⟨rfl, rfl⟩) (by decide) (by decide) (by decide) hk11 hk12 rfl (by rw [List.length_map, List.length_append, List.length_replicate, hk10]; exact Nat.le_refl _) N7 g_b2 (g := (mkF m 28 #[rv qa1, iv 142, rv b2] [.int 70, .int 0, .ref b2, .int 0, .ref qa1])) rfl hml.symm rfl (hb hby d13_28) (by decide) (W := 0) (own_hw rfl) (by decide)
 have sz_b2 : h0.size ≤ b2 := (Nat.le_of_eq g2.symm)
 have K14 := K3.trans K9q (allS (Or.inr sz_b2) all0)
 have A15_ : PA Z h9 b2 c2 .byte (142 : Int32) qc3 := A9.pad (own_cpl (S := qc3) (D := ([] : List Int32)) hk10 hk13)
 have E16_ := Ex2.keep K9q
 refine own_lvF X9 Bd (.ref b2) e9 ⟨b2, c2, rfl, N9, K14, sz_b2, E16_, A15_⟩ rfl (fun fs hr => pre0 _ (by
  show Sx p e below s₁ m 0 #[rv qa1, iv 142, .unset] [] _
  refine zj X0 Bd d13_0 rfl ?_
  refine zb X0 Bd d13_1 rfl rfl ?_
  refine X0.arraylength hx (by rw [e0]; exact Ar1.1) (State.isArrayOf_alike hZ.alike Ar1.2.1) (g := (mkF m 2 #[rv qa1, iv 142, .unset] [.ref qa1, .int 142])) rfl rfl (hb hby d13_2) _ ?_
  rw [len_of S1 N1]
  refine zy (pc' := 14) X0 Bd d13_3 (XT.ii_ne_t ((by decide) : ¬ ((142 : Int32) = (70 : Int32)))) rfl ?_
  refine zj X0 Bd d13_14 rfl ?_
  refine st2 _ ?_
  refine XS.astoreN X2.here hx rfl (hb hby d13_17) rfl rfl (l' := #[rv qa1, iv 142, rv b2]) rfl ?_
  refine zb X2 Bd d13_18 rfl rfl ?_
  refine zc X2 Bd d13_19 ?_
  refine zb X2 Bd d13_20 rfl rfl ?_
  refine zc X2 Bd d13_21 ?_
  refine zb X2 Bd d13_22 rfl rfl ?_
  refine X2.arraylength hx (by rw [e2]; exact Ar5.1) (State.isArrayOf_alike hZ.alike Ar5.2.1) (g := (mkF m 23 #[rv qa1, iv 142, rv b2] [.ref qa1, .int 0, .ref b2, .int 0, .ref qa1])) rfl rfl (hb hby d13_23) _ ?_
  rw [len_of S5 N5]
  refine zj X2 Bd d13_24 rfl ?_
  refine st7 _ ?_
  refine st9 _ ?_
  refine zb X9 Bd d13_31 rfl rfl ?_
  exact retOut X9 hx Bd.returns rfl (Or.inr (Or.inr (Or.inr (Or.inr ⟨rfl, rfl, rfl⟩)))) (hb hby d13_32) hr))
-- java/lang/AbstractStringBuilder.ensureCapacityInternal(I)V
def Q47 (Z : State) (qa1 : Addr) (qc5 : List Int32) (qi6 : Int32) (h0 : Heap) (n0 : Nat) : QT := fun v h L => ∃ b14 : Addr, ∃ c15_ : ClassId, v = none ∧ Fr n0 L ∧ Keep h0 h [qa1] ∧ h0.size ≤ b14 ∧ VA Z h qa1 b14 ∧ VC Z h qa1 ∧ Exa Z h qa1 SB_ ∧ VN Z h qa1 qi6 ∧ Exa Z h b14 "[B" ∧ PA Z h b14 c15_ .byte (142 : Int32) qc5
theorem rm47 (hw : HW a0 Z) (qa1 : Addr) (qi2 : Int32) (qa3 : Addr) (qk4 : ClassId) (qc5 : List Int32) (qi6 : Int32) (h0 : Heap) (n0 : Nat) (X00 : Old Z n0 h0) (F_qa1_value : VA Z h0 qa1 qa3) (A_qa3 : PA Z h0 qa3 qk4 .byte (70 : Int32) qc5) (F_qa1_coder : VC Z h0 qa1) (hc4 : (0 : Int32) < (qi2 - (70 : Int32))) (hc7 : ((qi2 <<< ((0 : Int32) &&& 31)) - (70 : Int32)) < (72 : Int32)) (E_qa1 : Exa Z h0 qa1 SB_) (hk10 : ((0 : Int32)).toNatClampNeg = (([] : List Int32)).length) (hk11 : ((0 : Int32)).toNatClampNeg + ((70 : Int32)).toNatClampNeg ≤ ((70 : Int32)).toNatClampNeg) (hk12 : ((0 : Int32)).toNatClampNeg + ((70 : Int32)).toNatClampNeg ≤ ((142 : Int32)).toNatClampNeg) (hk13 : (qc5).length ≤ ((70 : Int32)).toNatClampNeg) (g_qa1 : n0 ≤ qa1) (F_qa1_count : VN Z h0 qa1 qi6) :
    MF l Z Y11_ jdk_68_method_9_code 3 none (Rm 3 1 142 48) #[.ref qa1, .int qi2] h0 (Q47 Z qa1 qc5 qi6 h0 n0) := by
 refine own_sF pn3 rfl (fun m => ef9 m qa1 qi2) ?_
 intro p e s m below meth c s₁ Bd hZ hh hx hby hml hown hnm X0 e0 pre0
 have N0 := Fr.nil n0
 obtain ⟨T1, X1, e1, st1⟩ := own_gF 1 #[rv qa1, iv qi2, .unset] [] X0 hx hZ hown (w81_ hw) Via.refl e0 F_qa1_value (hb hby d9_1)
 have av2 := A_qa3
 obtain ⟨cl2, Ar2, q2, S2, N2, H2, Gf2⟩ := av2
 obtain ⟨T3, X3, e3, st3⟩ := own_gF 6 #[rv qa1, iv qi2, .unset] [.int 70] X1 hx hZ hown (w83_ hw) Via.refl e1 F_qa1_coder (hb hby d9_6)
 obtain ⟨T5, X5, e5, st5⟩ := own_gF 19 #[rv qa1, iv qi2, iv 70] [.ref qa1] X3 hx hZ hown (w81_ hw) Via.refl e3 F_qa1_value (hb hby d9_19)
 obtain ⟨_, T6, L6, X6, hQ6, st6⟩ := own_cP 0 0 [.ref qa3, .ref qa1] 24 #[rv qa1, iv qi2, iv 70] X5 hx hZ hown E_qa1 (w115_ hw) (w116_ hw) (w118_ hw) (w117_ hw) (w77_ hw) (w119_ hw) (rm44 l Z a0 hw  qa1 qi2 qa3 qk4 qc5 h0 n0 X00 F_qa1_value A_qa3 F_qa1_coder hc7) pd1 hml.symm (hb hby d9_24) e5 rfl rfl rfl rfl (by decide)
 obtain ⟨rfl, N6q, e6q⟩ := hQ6
 have N6 := Fr.app N0 N6q
 obtain ⟨T8, X8, e8, st8⟩ := own_gF 28 #[rv qa1, iv qi2, iv 70] [.int 142, .ref qa3, .ref qa1] X6 hx hZ hown (w83_ hw) Via.refl e6q F_qa1_coder (hb hby d9_28)
 obtain ⟨_, T9, L9, X9, hQ9, st9⟩ := own_cS 1 142 [.ref qa1] 32 #[rv qa1, iv qi2, iv 70] X8 hx hZ hown (w130_ hw) (w131_ hw) (w132_ hw) (w133_ hw) (rm46 l Z a0 hw  qa3 qk4 qc5 h0 n0 X00 A_qa3 hk10 hk11 hk12 hk13) pd10 hml.symm (hb hby d9_32) e8 rfl rfl rfl rfl (by decide)
 obtain ⟨b14, c15_, rfl, N9q, K9q, w16, w17, w18⟩ := hQ9
 have N9 := Fr.app N6 N9q
 have K19 := (Keep.refl h0 [qa1]).trans K9q (fun x q => nomatch q)
 have F20_ := F_qa1_value.keep K9q nin0
 have E21_ := E_qa1.keep K9q
 obtain ⟨T22, h22, X22, e22, W22, st22⟩ := putF X9 hx hZ hown (host := "") (Or.inl (w81_ hw)) Via.refl rfl F20_ E21_ (Or.inl (w82_ hw)) (w68_ hw) (ty := (.array .byte)) (by decide) rfl rfl (g := (mkF m 35 #[rv qa1, iv qi2, iv 70] [.ref b14, .ref qa1])) rfl rfl (hb hby d9_35)
 have N22 := Fr.snoc X22 N9 g_qa1
 have K23 := K19.wr W22 (Or.inl (mI 0 rfl))
 have F24_ : VA Z h22 qa1 b14 := F20_.same W22
 have sz_b14 : h0.size ≤ b14 := w16
 have F25_ := F_qa1_coder.keep K9q nin0
 have F26_ := F25_.other W22 (Or.inr (slot_ne (Or.inl (w84_ hw)) (Or.inl (w82_ hw)) (by decide) (t := .byte) (t' := (.array .byte)) (by decide) (by decide)))
 have E27_ := E21_.wr W22
 have F28_ := F_qa1_count.keep K9q nin0
 have F29_ := F28_.other W22 (Or.inr (slot_ne (Or.inl (w109_ hw)) (Or.inl (w82_ hw)) (by decide) (t := .int) (t' := (.array .byte)) (by decide) (by decide)))
 have E30_ := w17.wr W22
 have nx31 : qa1 ≠ b14 := (Nat.ne_of_lt (Nat.lt_of_lt_of_le F_qa1_coder.lt w16))
 have A32_ := w18.other W22 (Ne.symm nx31)
 refine own_lvN X22 Bd e22 ⟨b14, c15_, rfl, N22, K23, sz_b14, F24_, F26_, E27_, F29_, E30_, A32_⟩ rfl (fun fs hr => pre0 _ (by
  show Sx p e below s₁ m 0 #[rv qa1, iv qi2, .unset] [] _
  refine zb X0 Bd d9_0 rfl rfl ?_
  refine st1 _ ?_
  refine X1.arraylength hx (by rw [e1]; exact Ar2.1) (State.isArrayOf_alike hZ.alike Ar2.2.1) (g := (mkF m 4 #[rv qa1, iv qi2, .unset] [.ref qa3])) rfl rfl (hb hby d9_4) _ ?_
  rw [len_of S2 N2]
  refine zb X1 Bd d9_5 rfl rfl ?_
  refine st3 _ ?_
  refine XS.ishr X3.here hx rfl (hb hby d9_9) rfl ?_
  refine zt X3 Bd d9_10 (l' := #[rv qa1, iv qi2, iv 70]) rfl ?_
  refine zj X3 Bd d9_11 rfl ?_
  refine zj X3 Bd d9_12 rfl ?_
  refine XS.isub X3.here hx rfl (hb hby d9_13) rfl ?_
  refine zo X3 Bd d9_14 (XT.i0_le_f (hc4 : (0 : Int32) < (qi2 - (70 : Int32)))) ?_
  refine zb X3 Bd d9_17 rfl rfl ?_
  refine zb X3 Bd d9_18 rfl rfl ?_
  refine st5 _ ?_
  refine zb X5 Bd d9_22 rfl rfl ?_
  refine zj X5 Bd d9_23 rfl ?_
  refine st6 _ ?_
  refine zb X6 Bd d9_27 rfl rfl ?_
  refine st8 _ ?_
  refine XS.ishl X8.here hx rfl (hb hby d9_31) rfl ?_
  refine st9 _ ?_
  refine st22 _ ?_
  exact X22.returnOut hx Bd.returns (hb hby d9_38) hr))
-- java/lang/String.getBytes([BIB)V
def Q48 (Z : State) (qa2 : Addr) (qk6 : ClassId) (qc7 : List Int32) (h0 : Heap) (n0 : Nat) : QT := fun v h L => v = none ∧ Fr n0 L ∧ Keep h0 h [qa2] ∧ PA Z h qa2 qk6 .byte (142 : Int32) (qc7 ++ K4_)
theorem rm48 (hw : HW a0 Z) (G1 : Int32) (qa1 : Addr) (qa2 : Addr) (qi3 : Int32) (qa4 : Addr) (qk5 : ClassId) (qk6 : ClassId) (qc7 : List Int32) (h0 : Heap) (n0 : Nat) (X00 : Old Z n0 h0) (O2 : CO Z G1) (P5 : NZ G1) (E_qa1 : Exa Z h0 qa1 ST_) (F_qa1_coder : SC Z h0 qa1) (F_qa1_value : SV Z h0 qa1 qa4) (A_qa4 : Arv Z h0 qa4 qk5 .byte (1 : Int32) [.int 93] (.int 0)) (A_qa2 : PA Z h0 qa2 qk6 .byte (142 : Int32) qc7) (hk7 : ((qi3 <<< ((0 : Int32) &&& 31))).toNatClampNeg = (qc7).length) (hk8 : ¬ (qi3 <<< ((0 : Int32) &&& 31)) < 0) (hk9 : ((0 : Int32)).toNatClampNeg + ((1 : Int32)).toNatClampNeg ≤ ((1 : Int32)).toNatClampNeg) (hk10 : ((qi3 <<< ((0 : Int32) &&& 31))).toNatClampNeg + ((1 : Int32)).toNatClampNeg ≤ ((142 : Int32)).toNatClampNeg) (hk11 : (K4_).length ≤ ((1 : Int32)).toNatClampNeg) (g_qa2 : n0 ≤ qa2) :
    MF l Z Y14_ jdk_42_method_147_code 4 none (Rm 1 0 0 18) #[.ref qa1, .ref qa2, .int qi3, .int 0] h0 (Q48 Z qa2 qk6 qc7 h0 n0) := by
 refine own_sF pn6 rfl (fun m => ef14 m qa1 qa2 qi3 (0 : Int32)) ?_
 intro p e s m below meth c s₁ Bd hZ hh hx hby hml hown hnm X0 e0 pre0
 have N0 := Fr.nil n0
 obtain ⟨_, T1, L1, X1, hQ1, st1⟩ := own_cV 0 0 [] 1 #[rv qa1, rv qa2, iv qi3, iv 0] X0 hx hZ hown E_qa1 (w103_ hw) (w104_ hw) (notFace_of_selects (args := #[]) (mvT hZ (w106_ hw))) (w106_ hw) (w105_ hw) (w22_ hw) (w107_ hw) (rm13 l Z a0 hw G1 qa1 h0 n0 X00 O2 P5 F_qa1_coder) pd11 hml.symm (hb hby d18_1) e0 rfl rfl rfl rfl (by decide)
 obtain ⟨rfl, N1q, e1q⟩ := hQ1
 have N1 := Fr.app N0 N1q
 obtain ⟨T2, X2, e2, st2⟩ := own_gF 9 #[rv qa1, rv qa2, iv qi3, iv 0] [] X1 hx hZ hown (w47_ hw) Via.refl e1q F_qa1_value (hb hby d18_9)
 obtain ⟨T3, X3, e3, st3⟩ := own_gF 18 #[rv qa1, rv qa2, iv qi3, iv 0] [(.int (qi3 <<< ((0 : Int32) &&& 31))), .ref qa2, .int 0, .ref qa4] X2 hx hZ hown (w47_ hw) Via.refl e2 F_qa1_value (hb hby d18_18)
 have av4 := A_qa4
 obtain ⟨cl4, Ar4, q4, S4, N4, H4, Gf4⟩ := av4
 have A5_ : PA Z h0 qa4 qk5 .byte (1 : Int32) K4_ := A_qa4
 have Ad6 := (A_qa2).pad (own_repl ((1 : Int32)).toNatClampNeg qc7)
 obtain ⟨T6, h6, L6, X6, e6, N6, K6q, A6, st6⟩ := cpA X3 hx hZ hown (w157_ hw) (w140_ hw) (w138_ hw) (w139_ hw) e3 (vs := K4_.map Value.int) (vd := (qc7 ++ List.replicate ((1 : Int32)).toNatClampNeg 0).map Value.int) A5_ Ad6 (Or.inl ⟨rfl, rfl⟩) (by decide) hk8 (by decide) hk9 hk10 rfl (by rw [List.length_map, List.length_append, List.length_replicate, hk7]; exact Nat.le_refl _) N1 g_qa2 (g := (mkF m 22 #[rv qa1, rv qa2, iv qi3, iv 0] [.int 1, (.int (qi3 <<< ((0 : Int32) &&& 31))), .ref qa2, .int 0, .ref qa4])) rfl hml.symm rfl (hb hby d18_22) (by decide) (W := 0) (own_hw rfl) (by decide)
 have K12 := (Keep.refl h0 [qa2]).trans K6q (allS (Or.inl (mI 0 rfl)) all0)
 have A13_ : PA Z h6 qa2 qk6 .byte (142 : Int32) (qc7 ++ K4_) := A6.pad (own_cpl (S := K4_) (D := qc7) hk7 hk11)
 refine own_lvN X6 Bd e6 ⟨rfl, N6, K12, A13_⟩ rfl (fun fs hr => pre0 _ (by
  show Sx p e below s₁ m 0 #[rv qa1, rv qa2, iv qi3, iv 0] [] _
  refine zb X0 Bd d18_0 rfl rfl ?_
  refine st1 _ ?_
  refine zj X1 Bd d18_4 rfl ?_
  refine zn X1 Bd d18_5 (XT.ii_ne_f ((by decide) : (0 : Int32) = (0 : Int32))) ?_
  refine zb X1 Bd d18_8 rfl rfl ?_
  refine st2 _ ?_
  refine zc X2 Bd d18_12 ?_
  refine zb X2 Bd d18_13 rfl rfl ?_
  refine zj X2 Bd d18_14 rfl ?_
  refine zj X2 Bd d18_15 rfl ?_
  refine XS.ishl X2.here hx rfl (hb hby d18_16) rfl ?_
  refine zb X2 Bd d18_17 rfl rfl ?_
  refine st3 _ ?_
  refine X3.arraylength hx (by rw [e3]; exact Ar4.1) (State.isArrayOf_alike hZ.alike Ar4.2.1) (g := (mkF m 21 #[rv qa1, rv qa2, iv qi3, iv 0] [.ref qa4, (.int (qi3 <<< ((0 : Int32) &&& 31))), .ref qa2, .int 0, .ref qa4])) rfl rfl (hb hby d18_21) _ ?_
  rw [len_of S4 N4]
  refine st6 _ ?_
  refine zg (pc' := 43) X6 Bd d18_25 rfl ?_
  exact X6.returnOut hx Bd.returns (hb hby d18_43) hr))
-- java/lang/AbstractStringBuilder.putStringAt(ILjava/lang/String;)V
def Q49 (Z : State) (qa4 : Addr) (qk7 : ClassId) (qc8 : List Int32) (h0 : Heap) (n0 : Nat) : QT := fun v h L => v = none ∧ Fr n0 L ∧ Keep h0 h [qa4] ∧ PA Z h qa4 qk7 .byte (142 : Int32) (qc8 ++ K4_)
theorem rm49 (hw : HW a0 Z) (G1 : Int32) (qa1 : Addr) (qi2 : Int32) (qa3 : Addr) (qa4 : Addr) (qa5 : Addr) (qk6 : ClassId) (qk7 : ClassId) (qc8 : List Int32) (h0 : Heap) (n0 : Nat) (X00 : Old Z n0 h0) (O2 : CO Z G1) (P5 : NZ G1) (F_qa1_coder : VC Z h0 qa1) (E_qa3 : Exa Z h0 qa3 ST_) (F_qa3_coder : SC Z h0 qa3) (E_qa1 : Exa Z h0 qa1 SB_) (F_qa1_value : VA Z h0 qa1 qa4) (F_qa3_value : SV Z h0 qa3 qa5) (A_qa5 : Arv Z h0 qa5 qk6 .byte (1 : Int32) [.int 93] (.int 0)) (A_qa4 : PA Z h0 qa4 qk7 .byte (142 : Int32) qc8) (hk5 : ((qi2 <<< ((0 : Int32) &&& 31))).toNatClampNeg = (qc8).length) (hk6 : ¬ (qi2 <<< ((0 : Int32) &&& 31)) < 0) (hk7 : ((0 : Int32)).toNatClampNeg + ((1 : Int32)).toNatClampNeg ≤ ((1 : Int32)).toNatClampNeg) (hk8 : ((qi2 <<< ((0 : Int32) &&& 31))).toNatClampNeg + ((1 : Int32)).toNatClampNeg ≤ ((142 : Int32)).toNatClampNeg) (hk9 : (K4_).length ≤ ((1 : Int32)).toNatClampNeg) (g_qa4 : n0 ≤ qa4) :
    MF l Z Y15_ jdk_68_method_73_code 3 none (Rm 2 0 0 33) #[.ref qa1, .int qi2, .ref qa3] h0 (Q49 Z qa4 qk7 qc8 h0 n0) := by
 refine own_sF pn3 rfl (fun m => ef13 m qa1 qi2 qa3) ?_
 intro p e s m below meth c s₁ Bd hZ hh hx hby hml hown hnm X0 e0 pre0
 have N0 := Fr.nil n0
 obtain ⟨_, T1, L1, X1, hQ1, st1⟩ := own_cP 0 0 [] 2 #[rv qa1, iv qi2, rv qa3] X0 hx hZ hown E_qa1 (w146_ hw) (w147_ hw) (w149_ hw) (w148_ hw) (w77_ hw) (w150_ hw) (rm14 l Z a0 hw G1 qa1 qa3 h0 n0 X00 O2 P5 F_qa1_coder E_qa3 F_qa3_coder) pd12 hml.symm (hb hby d15_2) e0 rfl rfl rfl rfl (by decide)
 obtain ⟨rfl, N1q, e1q⟩ := hQ1
 have N1 := Fr.app N0 N1q
 obtain ⟨T2, X2, e2, st2⟩ := own_gF 7 #[rv qa1, iv qi2, rv qa3] [.ref qa3] X1 hx hZ hown (w81_ hw) Via.refl e1q F_qa1_value (hb hby d15_7)
 obtain ⟨T3, X3, e3, st3⟩ := own_gF 12 #[rv qa1, iv qi2, rv qa3] [.int qi2, .ref qa4, .ref qa3] X2 hx hZ hown (w83_ hw) Via.refl e2 F_qa1_coder (hb hby d15_12)
 obtain ⟨_, T4, L4, X4, hQ4, st4⟩ := own_cV 0 0 [] 15 #[rv qa1, iv qi2, rv qa3] X3 hx hZ hown E_qa3 (w152_ hw) (w153_ hw) (notFace_of_selects (args := #[]) (mvT hZ (w155_ hw))) (w155_ hw) (w154_ hw) (w22_ hw) (w156_ hw) (rm48 l Z a0 hw G1 qa3 qa4 qi2 qa5 qk6 qk7 qc8 h0 n0 X00 O2 P5 E_qa3 F_qa3_coder F_qa3_value A_qa5 A_qa4 hk5 hk6 hk7 hk8 hk9 g_qa4) pd13 hml.symm (hb hby d15_15) e3 rfl rfl rfl rfl (by decide)
 obtain ⟨rfl, N4q, K4q, w10⟩ := hQ4
 have N4 := Fr.app N1 N4q
 have K11 := (Keep.refl h0 [qa4]).trans K4q (allS (Or.inl (mI 0 rfl)) all0)
 refine own_lvN X4 Bd rfl ⟨rfl, N4, K11, w10⟩ rfl (fun fs hr => pre0 _ (by
  show Sx p e below s₁ m 0 #[rv qa1, iv qi2, rv qa3] [] _
  refine zb X0 Bd d15_0 rfl rfl ?_
  refine zb X0 Bd d15_1 rfl rfl ?_
  refine st1 _ ?_
  refine zb X1 Bd d15_5 rfl rfl ?_
  refine zb X1 Bd d15_6 rfl rfl ?_
  refine st2 _ ?_
  refine zj X2 Bd d15_10 rfl ?_
  refine zb X2 Bd d15_11 rfl rfl ?_
  refine st3 _ ?_
  refine st4 _ ?_
  exact X4.returnOut hx Bd.returns (hb hby d15_18) hr))
-- java/lang/AbstractStringBuilder.append(Ljava/lang/String;)Ljava/lang/AbstractStringBuilder;
def Q50 (Z : State) (qa1 : Addr) (qi5 : Int32) (qc8 : List Int32) (h0 : Heap) (n0 : Nat) : QT := fun v h L => ∃ b11 : Addr, ∃ c12_ : ClassId, v = some (.ref qa1) ∧ Fr n0 L ∧ Keep h0 h [qa1] ∧ h0.size ≤ b11 ∧ Exa Z h qa1 SB_ ∧ VA Z h qa1 b11 ∧ VC Z h qa1 ∧ Fld Z h qa1 AB_ "count" "I" (.int (qi5 + (1 : Int32))) ∧ Exa Z h b11 "[B" ∧ PA Z h b11 c12_ .byte (142 : Int32) (qc8 ++ K4_)
theorem rm50 (hw : HW a0 Z) (G1 : Int32) (qa1 : Addr) (qa2 : Addr) (qa3 : Addr) (qk4 : ClassId) (qi5 : Int32) (qa6 : Addr) (qk7 : ClassId) (qc8 : List Int32) (h0 : Heap) (n0 : Nat) (X00 : Old Z n0 h0) (O2 : CO Z G1) (P5 : NZ G1) (E_qa2 : Exa Z h0 qa2 ST_) (F_qa2_coder : SC Z h0 qa2) (F_qa2_value : SV Z h0 qa2 qa3) (hp_qa2 : ∀ c ∈ K4_, ¬ c < 0 ∧ ¬ (255 : Int32) < c) (A_qa3 : Arv Z h0 qa3 qk4 .byte (1 : Int32) [.int 93] (.int 0)) (F_qa1_count : VN Z h0 qa1 qi5) (F_qa1_value : VA Z h0 qa1 qa6) (A_qa6 : PA Z h0 qa6 qk7 .byte (70 : Int32) qc8) (F_qa1_coder : VC Z h0 qa1) (hc5 : (0 : Int32) < ((qi5 + (1 : Int32)) - (70 : Int32))) (hc6 : (((qi5 + (1 : Int32)) <<< ((0 : Int32) &&& 31)) - (70 : Int32)) < (72 : Int32)) (E_qa1 : Exa Z h0 qa1 SB_) (hk7 : ((0 : Int32)).toNatClampNeg = (([] : List Int32)).length) (hk8 : ((0 : Int32)).toNatClampNeg + ((70 : Int32)).toNatClampNeg ≤ ((70 : Int32)).toNatClampNeg) (hk9 : ((0 : Int32)).toNatClampNeg + ((70 : Int32)).toNatClampNeg ≤ ((142 : Int32)).toNatClampNeg) (hk10 : (qc8).length ≤ ((70 : Int32)).toNatClampNeg) (g_qa1 : n0 ≤ qa1) (ne_qa2_qa1 : qa2 ≠ qa1) (ne_qa3_qa1 : qa3 ≠ qa1) (hk28 : ((qi5 <<< ((0 : Int32) &&& 31))).toNatClampNeg = (qc8).length) (hk29 : ¬ (qi5 <<< ((0 : Int32) &&& 31)) < 0) (hk30 : ((0 : Int32)).toNatClampNeg + ((1 : Int32)).toNatClampNeg ≤ ((1 : Int32)).toNatClampNeg) (hk31 : ((qi5 <<< ((0 : Int32) &&& 31))).toNatClampNeg + ((1 : Int32)).toNatClampNeg ≤ ((142 : Int32)).toNatClampNeg) (hk32 : (K4_).length ≤ ((1 : Int32)).toNatClampNeg) :
    MF l Z Y16_ jdk_68_method_22_code 3 (some (.object AB_)) (Rm 4 1 142 62) #[.ref qa1, .ref qa2] h0 (Q50 Z qa1 qi5 qc8 h0 n0) := by
 refine own_sF pn3 rfl (fun m => ef8 m qa1 qa2) ?_
 intro p e s m below meth c s₁ Bd hZ hh hx hby hml hown hnm X0 e0 pre0
 have N0 := Fr.nil n0
 have hcd2 : StrChars.Road.CodA K4_ 0 (1 : Int32) [.int 93] := StrChars.Road.codOf (n := 1) rfl (fun x hx => (hp_qa2 x hx).2)
 have hbd2 : ∀ x ∈ K4_, ¬ x < 0 ∧ ¬ (65535 : Int32) < x := own_up _ hp_qa2
 obtain ⟨cq1, kq1, q1a, q1b, q1c⟩ := isOf hZ e0 E_qa2
 obtain ⟨_, T1, L1, X1, hQ1, st1⟩ := own_cb0 0 0 0 0 0 0 (X0.virtualBack hx (y := Y17_) (z := Y17_) hown (mvT hZ (w98_ hw)) (mvT hZ (w99_ hw)) (notFace_of_selects (args := #[]) (mvT hZ (w101_ hw))) (mvT hZ (w101_ hw)) (mvT hZ (w100_ hw)) (by decide) (StrChars.Road.lenW (W := 0) hZ (own_wl hw) (kI := 4) (w21_ hw) E_qa2 F_qa2_value F_qa2_coder A_qa3 hcd2 hbd2 (O2.ext X00.2) P5 (lE rfl) (lE rfl) (lE rfl)) q1a q1c (g := (mkF m 10 #[rv qa1, rv qa2, .unset] [.ref qa2])) rfl hml.symm (Steps.refl _) (argsL := []) (rest := []) (lenOf pd7 rfl) rfl (own_hw rfl) (hb hby d8_10) (fun _ _ => ⟨rfl, e0, (lE rfl : 0 + 0 ≤ _), (lE rfl : 0 + 0 ≤ _)⟩)) rfl rfl
 dsimp only [Pt.U, Pt.locs, Pt.cells, Pt.slots] at hQ1
 obtain ⟨rfl, rfl, e1q⟩ := hQ1
 have N1 := Fr.app N0 (Fr.nil n0)
 obtain ⟨T3, X3, e3, st3⟩ := own_gF 16 #[rv qa1, rv qa2, iv 1] [.ref qa1] X1 hx hZ hown (w108_ hw) Via.refl e1q F_qa1_count (hb hby d8_16)
 obtain ⟨_, T4, L4, X4, hQ4, st4⟩ := own_cP 1 142 [] 21 #[rv qa1, rv qa2, iv 1] X3 hx hZ hown E_qa1 (w110_ hw) (w111_ hw) (w113_ hw) (w112_ hw) (w77_ hw) (w114_ hw) (rm47 l Z a0 hw  qa1 (qi5 + (1 : Int32)) qa6 qk7 qc8 qi5 h0 n0 X00 F_qa1_value A_qa6 F_qa1_coder hc5 hc6 E_qa1 hk7 hk8 hk9 hk10 g_qa1 F_qa1_count) pd5 hml.symm (hb hby d8_21) e3 rfl rfl rfl rfl (by decide)
 obtain ⟨b11, c12_, rfl, N4q, K4q, w13, w14, w15, w16, w17, w18, w19⟩ := hQ4
 have N4 := Fr.app N1 N4q
 have K20 := (Keep.refl h0 [qa1]).trans K4q (allS (Or.inl (mI 0 rfl)) all0)
 obtain ⟨T21, X21, e21, st21⟩ := own_gF 26 #[rv qa1, rv qa2, iv 1] [.ref qa1] X4 hx hZ hown (w108_ hw) Via.refl rfl w17 (hb hby d8_26)
 have E23_ := E_qa2.keep K4q
 have F24_ := F_qa2_coder.keep K4q (ninS ne_qa2_qa1 nin0)
 have E25_ := E_qa1.keep K4q
 have F26_ := F_qa2_value.keep K4q (ninS ne_qa2_qa1 nin0)
 have A27_ := A_qa3.keep K4q (ninS ne_qa3_qa1 nin0)
 have g_b11 : n0 ≤ b11 := Nat.le_trans (Nat.le_trans (Nat.le_of_eq X00.1.symm) X00.2.1) w13
 have O33 := X00.keep K4q (allS g_qa1 all0)
 obtain ⟨_, T22, L22, X22, hQ22, st22⟩ := own_cP 1 142 [] 30 #[rv qa1, rv qa2, iv 1] X21 hx hZ hown E25_ (w141_ hw) (w142_ hw) (w144_ hw) (w143_ hw) (w77_ hw) (w145_ hw) (rm49 l Z a0 hw G1 qa1 qi5 qa2 b11 qa3 qk4 c12_ qc8 T4.heap n0 O33 O2 P5 w15 E23_ F24_ E25_ w14 F26_ A27_ w19 hk28 hk29 hk30 hk31 hk32 g_b11) pd14 hml.symm (hb hby d8_30) e21 rfl rfl rfl rfl (by decide)
 obtain ⟨rfl, N22q, K22q, w34⟩ := hQ22
 have N22 := Fr.app N4 N22q
 have sz_b11 : h0.size ≤ b11 := w13
 have K35 := K20.trans K22q (allS (Or.inr sz_b11) all0)
 have nx37 : qa1 ≠ b11 := (Nat.ne_of_lt (Nat.lt_of_lt_of_le E_qa1.lt w13))
 have F38_ := w17.keep K22q (ninS nx37 nin0)
 obtain ⟨T36, X36, e36, st36⟩ := own_gF 35 #[rv qa1, rv qa2, iv 1] [.ref qa1] X22 hx hZ hown (w108_ hw) Via.refl rfl F38_ (hb hby d8_35)
 have E39_ := E25_.keep K22q
 obtain ⟨T40, h40, X40, e40, W40, st40⟩ := putF X36 hx hZ hown (host := "") (Or.inl (w108_ hw)) Via.refl e36 F38_ E39_ (Or.inl (w109_ hw)) (w68_ hw) (ty := .int) (by decide) rfl rfl (g := (mkF m 40 #[rv qa1, rv qa2, iv 1] [(.int (qi5 + (1 : Int32))), .ref qa1])) rfl rfl (hb hby d8_40)
 have N40 := Fr.snoc X40 N22 g_qa1
 have K41 := K35.wr W40 (Or.inl (mI 0 rfl))
 have F42_ : Fld Z h40 qa1 AB_ "count" "I" (.int (qi5 + (1 : Int32))) := F38_.same W40
 have E43_ := E39_.wr W40
 have F44_ := w14.keep K22q (ninS nx37 nin0)
 have F45_ := F44_.other W40 (Or.inr (slot_ne (Or.inl (w82_ hw)) (Or.inl (w109_ hw)) (by decide) (t := (.array .byte)) (t' := .int) (by decide) (by decide)))
 have F46_ := w15.keep K22q (ninS nx37 nin0)
 have F47_ := F46_.other W40 (Or.inr (slot_ne (Or.inl (w84_ hw)) (Or.inl (w109_ hw)) (by decide) (t := .byte) (t' := .int) (by decide) (by decide)))
 have E48_ := w18.keep K22q
 have E49_ := E48_.wr W40
 have A50_ := w34.other W40 (Ne.symm nx37)
 refine own_lvF X40 Bd (.ref qa1) e40 ⟨b11, c12_, rfl, N40, K41, sz_b11, E43_, F45_, F47_, F42_, E49_, A50_⟩ rfl (fun fs hr => pre0 _ (by
  show Sx p e below s₁ m 0 #[rv qa1, rv qa2, .unset] [] _
  refine zb X0 Bd d8_0 rfl rfl ?_
  refine XS.ifnonnullYes X0.here hx rfl (pc0 := 1) (pc' := 9) rfl (hb hby d8_1) rfl (by decide) (by decide) ?_
  refine zb X0 Bd d8_9 rfl rfl ?_
  refine st1.trans ?_
  refine zt X1 Bd d8_13 (l' := #[rv qa1, rv qa2, iv 1]) rfl ?_
  refine zb X1 Bd d8_14 rfl rfl ?_
  refine zb X1 Bd d8_15 rfl rfl ?_
  refine st3 _ ?_
  refine zj X3 Bd d8_19 rfl ?_
  refine XS.iadd X3.here hx rfl (hb hby d8_20) rfl ?_
  refine st4 _ ?_
  refine zb X4 Bd d8_24 rfl rfl ?_
  refine zb X4 Bd d8_25 rfl rfl ?_
  refine st21 _ ?_
  refine zb X21 Bd d8_29 rfl rfl ?_
  refine st22 _ ?_
  refine zb X22 Bd d8_33 rfl rfl ?_
  refine XS.dup X22.here hx rfl (hb hby d8_34) rfl rfl ?_
  refine st36 _ ?_
  refine zj X36 Bd d8_38 rfl ?_
  refine XS.iadd X36.here hx rfl (hb hby d8_39) rfl ?_
  refine st40 _ ?_
  refine zb X40 Bd d8_43 rfl rfl ?_
  exact retOut X40 hx Bd.returns rfl (Or.inr (Or.inr (Or.inr (Or.inr ⟨rfl, rfl, rfl⟩)))) (hb hby d8_44) hr))
-- java/lang/StringBuilder.append(Ljava/lang/String;)Ljava/lang/StringBuilder;
def Q51 (Z : State) (qa1 : Addr) (qi5 : Int32) (qc8 : List Int32) (h0 : Heap) (n0 : Nat) : QT := fun v h L => ∃ b13 : Addr, ∃ c14_ : ClassId, v = some (.ref qa1) ∧ Fr n0 L ∧ Keep h0 h [qa1] ∧ h0.size ≤ b13 ∧ Exa Z h qa1 SB_ ∧ VA Z h qa1 b13 ∧ VC Z h qa1 ∧ Fld Z h qa1 AB_ "count" "I" (.int (qi5 + (1 : Int32))) ∧ Exa Z h b13 "[B" ∧ PA Z h b13 c14_ .byte (142 : Int32) (qc8 ++ K4_)
theorem rm51 (hw : HW a0 Z) (G1 : Int32) (qa1 : Addr) (qa2 : Addr) (qa3 : Addr) (qk4 : ClassId) (qi5 : Int32) (qa6 : Addr) (qk7 : ClassId) (qc8 : List Int32) (h0 : Heap) (n0 : Nat) (X00 : Old Z n0 h0) (O2 : CO Z G1) (P5 : NZ G1) (E_qa2 : Exa Z h0 qa2 ST_) (F_qa2_coder : SC Z h0 qa2) (F_qa2_value : SV Z h0 qa2 qa3) (hp_qa2 : ∀ c ∈ K4_, ¬ c < 0 ∧ ¬ (255 : Int32) < c) (A_qa3 : Arv Z h0 qa3 qk4 .byte (1 : Int32) [.int 93] (.int 0)) (F_qa1_count : VN Z h0 qa1 qi5) (F_qa1_value : VA Z h0 qa1 qa6) (A_qa6 : PA Z h0 qa6 qk7 .byte (70 : Int32) qc8) (F_qa1_coder : VC Z h0 qa1) (hc2 : (0 : Int32) < ((qi5 + (1 : Int32)) - (70 : Int32))) (hc3 : (((qi5 + (1 : Int32)) <<< ((0 : Int32) &&& 31)) - (70 : Int32)) < (72 : Int32)) (E_qa1 : Exa Z h0 qa1 SB_) (hk4 : ((0 : Int32)).toNatClampNeg = (([] : List Int32)).length) (hk5 : ((0 : Int32)).toNatClampNeg + ((70 : Int32)).toNatClampNeg ≤ ((70 : Int32)).toNatClampNeg) (hk6 : ((0 : Int32)).toNatClampNeg + ((70 : Int32)).toNatClampNeg ≤ ((142 : Int32)).toNatClampNeg) (hk7 : (qc8).length ≤ ((70 : Int32)).toNatClampNeg) (g_qa1 : n0 ≤ qa1) (ne_qa2_qa1 : qa2 ≠ qa1) (ne_qa3_qa1 : qa3 ≠ qa1) (hk8 : ((qi5 <<< ((0 : Int32) &&& 31))).toNatClampNeg = (qc8).length) (hk9 : ¬ (qi5 <<< ((0 : Int32) &&& 31)) < 0) (hk10 : ((0 : Int32)).toNatClampNeg + ((1 : Int32)).toNatClampNeg ≤ ((1 : Int32)).toNatClampNeg) (hk11 : ((qi5 <<< ((0 : Int32) &&& 31))).toNatClampNeg + ((1 : Int32)).toNatClampNeg ≤ ((142 : Int32)).toNatClampNeg) (hk12 : (K4_).length ≤ ((1 : Int32)).toNatClampNeg) :
    MF l Z Y18_ jdk_67_method_7_code 2 (some (.object SB_)) (Rm 5 1 142 76) #[.ref qa1, .ref qa2] h0 (Q51 Z qa1 qi5 qc8 h0 n0) := by
 refine own_sF pn2 rfl (fun m => ef7 m qa1 qa2) ?_
 intro p e s m below meth c s₁ Bd hZ hh hx hby hml hown hnm X0 e0 pre0
 have N0 := Fr.nil n0
 obtain ⟨_, T1, L1, X1, hQ1, st1⟩ := own_cU 1 142 [] 2 #[rv qa1, rv qa2] X0 hx hZ hown E_qa1 (w93_ hw) (own_same (w94_ hw) (w113_ hw) rfl (by decide)) (w94_ hw) (w95_ hw) (w77_ hw) (w97_ hw) (rm50 l Z a0 hw G1 qa1 qa2 qa3 qk4 qi5 qa6 qk7 qc8 h0 n0 X00 O2 P5 E_qa2 F_qa2_coder F_qa2_value hp_qa2 A_qa3 F_qa1_count F_qa1_value A_qa6 F_qa1_coder hc2 hc3 E_qa1 hk4 hk5 hk6 hk7 g_qa1 ne_qa2_qa1 ne_qa3_qa1 hk8 hk9 hk10 hk11 hk12) pd15 hml.symm (hb hby d7_2) e0 rfl rfl rfl rfl (by decide)
 obtain ⟨b13, c14_, rfl, N1q, K1q, w15, w16, w17, w18, w19, w20, w21⟩ := hQ1
 have N1 := Fr.app N0 N1q
 have K22 := (Keep.refl h0 [qa1]).trans K1q (allS (Or.inl (mI 0 rfl)) all0)
 have sz_b13 : h0.size ≤ b13 := w15
 have E23_ := E_qa1.keep K1q
 refine own_lvF X1 Bd (.ref qa1) rfl ⟨b13, c14_, rfl, N1, K22, sz_b13, E23_, w17, w18, w19, w20, w21⟩ rfl (fun fs hr => pre0 _ (by
  show Sx p e below s₁ m 0 #[rv qa1, rv qa2] [] _
  refine zb X0 Bd d7_0 rfl rfl ?_
  refine zb X0 Bd d7_1 rfl rfl ?_
  refine st1 _ ?_
  refine XS.pop X1.here hx rfl (hb hby d7_5) rfl rfl ?_
  refine zb X1 Bd d7_6 rfl rfl ?_
  exact retOut X1 hx Bd.returns rfl (Or.inr (Or.inr (Or.inr (Or.inr ⟨rfl, rfl, rfl⟩)))) (hb hby d7_7) hr))
theorem d4_48 : D C3_ 48 (.invokevirtual 37) 3 := by decide +kernel
theorem d24_0 : D C21_ 0 (.new 18) 3 := by decide +kernel
theorem d24_3 : D C21_ 3 .dup 1 := by decide +kernel
theorem d24_4 : D C21_ 4 (.aload_n 0) 1 := by decide +kernel
theorem d24_5 : D C21_ 5 (.invokespecial 137) 3 := by decide +kernel
theorem d25_0 : D C17_ 0 (.aload_n 0) 1 := by decide +kernel
theorem d25_1 : D C17_ 1 (.aload_n 1) 1 := by decide +kernel
theorem d25_2 : D C17_ 2 .aconst_null 1 := by decide +kernel
theorem d25_3 : D C17_ 3 (.invokespecial 489) 3 := by decide +kernel
theorem ef18 (m : MethodId) (x0 : Addr) (x1 : Addr) : entryFrame m #[.ref x0, .ref x1, .null] 5 = mkF m 0 #[.val (.ref x0), .val (.ref x1), .val .null, .unset, .unset] [] := by first | (simp [entryFrame, mkF, argsToLocals, Value.category]; done) | rfl
theorem d26_0 : D C29_ 0 (.aload_n 0) 1 := by decide +kernel
theorem d26_1 : D C29_ 1 (.invokespecial 1) 3 := by decide +kernel
theorem d26_4 : D C29_ 4 (.aload_n 1) 1 := by decide +kernel
theorem d26_5 : D C29_ 5 (.invokevirtual 552) 3 := by decide +kernel
theorem d27_0 : D C11_ 0 (.aload_n 0) 1 := by decide +kernel
theorem d27_1 : D C11_ 1 (.getfield 15) 3 := by decide +kernel
theorem d27_4 : D C11_ 4 .areturn 1 := by decide +kernel
-- java/lang/AbstractStringBuilder.getValue()[B
def Q52 (Z : State) (qa2 : Addr) (h0 : Heap) (n0 : Nat) : QT := fun v h L => v = some (.ref qa2) ∧ Fr n0 L ∧ h = h0
theorem rm52 (hw : HW a0 Z) (qa1 : Addr) (qa2 : Addr) (h0 : Heap) (n0 : Nat) (X00 : Old Z n0 h0) (F_qa1_value : VA Z h0 qa1 qa2) :
    MF l Z Y24_ jdk_68_method_64_code 1 (some (.array .byte)) (Rm 0 0 0 0) #[.ref qa1] h0 (Q52 Z qa2 h0 n0) := by
 refine own_sF pn3 rfl (fun m => ef5 m qa1) ?_
 intro p e s m below meth c s₁ Bd hZ hh hx hby hml hown hnm X0 e0 pre0
 have N0 := Fr.nil n0
 obtain ⟨T1, X1, e1, st1⟩ := own_gF 1 #[rv qa1] [] X0 hx hZ hown (w81_ hw) Via.refl e0 F_qa1_value (hb hby d27_1)
 refine own_lvF X1 Bd (.ref qa2) e1 ⟨rfl, N0, rfl⟩ rfl (fun fs hr => pre0 _ (by
  show Sx p e below s₁ m 0 #[rv qa1] [] _
  refine zb X0 Bd d27_0 rfl rfl ?_
  refine st1 _ ?_
  exact retOut X1 hx Bd.returns rfl (Or.inr (Or.inr (Or.inr (Or.inr ⟨rfl, rfl, rfl⟩)))) (hb hby d27_4) hr))
theorem pd21 : parseMethodDescriptor "()[B" = some ⟨[], some (.array .byte)⟩ := by decide +kernel
theorem d26_8 : D C29_ 8 (.astore_n 3) 1 := by decide +kernel
theorem d26_9 : D C29_ 9 (.aload_n 1) 1 := by decide +kernel
theorem d26_10 : D C29_ 10 (.invokevirtual 549) 3 := by decide +kernel
theorem d28_0 : D C12_ 0 (.aload_n 0) 1 := by decide +kernel
theorem d28_1 : D C12_ 1 (.invokespecial 343) 3 := by decide +kernel
theorem d29_0 : D C4_ 0 (.aload_n 0) 1 := by decide +kernel
theorem d29_1 : D C4_ 1 (.getfield 79) 3 := by decide +kernel
theorem d29_4 : D C4_ 4 .ireturn 1 := by decide +kernel
-- java/lang/AbstractStringBuilder.length()I
def Q53 (Z : State) (qi2 : Int32) (h0 : Heap) (n0 : Nat) : QT := fun v h L => v = some (.int qi2) ∧ Fr n0 L ∧ h = h0
theorem rm53 (hw : HW a0 Z) (qa1 : Addr) (qi2 : Int32) (h0 : Heap) (n0 : Nat) (X00 : Old Z n0 h0) (F_qa1_count : VN Z h0 qa1 qi2) :
    MF l Z Y25_ jdk_68_method_6_code 1 (some .int) (Rm 0 0 0 0) #[.ref qa1] h0 (Q53 Z qi2 h0 n0) := by
 refine own_sF pn3 rfl (fun m => ef5 m qa1) ?_
 intro p e s m below meth c s₁ Bd hZ hh hx hby hml hown hnm X0 e0 pre0
 have N0 := Fr.nil n0
 obtain ⟨T1, X1, e1, st1⟩ := own_gF 1 #[rv qa1] [] X0 hx hZ hown (w108_ hw) Via.refl e0 F_qa1_count (hb hby d29_1)
 refine own_lvF X1 Bd (.int qi2) e1 ⟨rfl, N0, rfl⟩ rfl (fun fs hr => pre0 _ (by
  show Sx p e below s₁ m 0 #[rv qa1] [] _
  refine zb X0 Bd d29_0 rfl rfl ?_
  refine st1 _ ?_
  exact retI X1 hx Bd.returns (hb hby d29_4) hr))
theorem d28_4 : D C12_ 4 .ireturn 1 := by decide +kernel
-- java/lang/StringBuilder.length()I
def Q54 (Z : State) (qi2 : Int32) (h0 : Heap) (n0 : Nat) : QT := fun v h L => v = some (.int qi2) ∧ Fr n0 L ∧ h = h0
theorem rm54 (hw : HW a0 Z) (qa1 : Addr) (qi2 : Int32) (h0 : Heap) (n0 : Nat) (X00 : Old Z n0 h0) (F_qa1_count : VN Z h0 qa1 qi2) (E_qa1 : Exa Z h0 qa1 SB_) :
    MF l Z Y26_ jdk_67_method_93_code 1 (some .int) (Rm 1 0 0 12) #[.ref qa1] h0 (Q54 Z qi2 h0 n0) := by
 refine own_sF pn2 rfl (fun m => ef5 m qa1) ?_
 intro p e s m below meth c s₁ Bd hZ hh hx hby hml hown hnm X0 e0 pre0
 have N0 := Fr.nil n0
 obtain ⟨_, T1, L1, X1, hQ1, st1⟩ := own_cU 0 0 [] 1 #[rv qa1] X0 hx hZ hown E_qa1 (w206_ hw) (own_same (w202_ hw) (w113_ hw) rfl (by decide)) (w202_ hw) (w95_ hw) (w77_ hw) (w207_ hw) (rm53 l Z a0 hw  qa1 qi2 h0 n0 X00 F_qa1_count) pd7 hml.symm (hb hby d28_1) e0 rfl rfl rfl rfl (by decide)
 obtain ⟨rfl, N1q, e1q⟩ := hQ1
 have N1 := Fr.app N0 N1q
 refine own_lvF X1 Bd (.int qi2) e1q ⟨rfl, N1, rfl⟩ rfl (fun fs hr => pre0 _ (by
  show Sx p e below s₁ m 0 #[rv qa1] [] _
  refine zb X0 Bd d28_0 rfl rfl ?_
  refine st1 _ ?_
  exact retI X1 hx Bd.returns (hb hby d28_4) hr))
theorem d26_13 : D C29_ 13 (.istore 4) 2 := by decide +kernel
theorem d26_15 : D C29_ 15 (.aload_n 1) 1 := by decide +kernel
theorem d26_16 : D C29_ 16 (.invokevirtual 1047) 3 := by decide +kernel
theorem d26_19 : D C29_ 19 (.ifCond .eq 22) 3 := by decide +kernel
theorem d26_22 : D C29_ 22 (.aload_n 0) 1 := by decide +kernel
theorem d26_23 : D C29_ 23 (.iconst 0) 1 := by decide +kernel
theorem d26_24 : D C29_ 24 (.putfield 15) 3 := by decide +kernel
theorem d26_27 : D C29_ 27 (.aload_n 0) 1 := by decide +kernel
theorem d26_28 : D C29_ 28 (.aload_n 3) 1 := by decide +kernel
theorem d26_29 : D C29_ 29 (.iconst 0) 1 := by decide +kernel
theorem d26_30 : D C29_ 30 (.iload 4) 2 := by decide +kernel
theorem d26_32 : D C29_ 32 (.invokestatic 54) 3 := by decide +kernel
theorem ef19 (m : MethodId) (x0 : Addr) (x1 : Int32) (x2 : Int32) : entryFrame m #[.ref x0, .int x1, .int x2] 3 = mkF m 0 #[.val (.ref x0), .val (.int x1), .val (.int x2)] [] := by first | (simp [entryFrame, mkF, argsToLocals, Value.category]; done) | rfl
theorem d30_0 : D C31_ 0 (.iload_n 1) 1 := by decide +kernel
theorem d30_1 : D C31_ 1 (.ifCond .ne 9) 3 := by decide +kernel
theorem d30_4 : D C31_ 4 (.iload_n 2) 1 := by decide +kernel
theorem d30_5 : D C31_ 5 (.aload_n 0) 1 := by decide +kernel
theorem d30_6 : D C31_ 6 .arraylength 1 := by decide +kernel
theorem d30_7 : D C31_ 7 (.if_icmp .eq 10) 3 := by decide +kernel
theorem d30_10 : D C31_ 10 (.aload_n 0) 1 := by decide +kernel
theorem d30_11 : D C31_ 11 (.iload_n 1) 1 := by decide +kernel
theorem d30_12 : D C31_ 12 (.iload_n 2) 1 := by decide +kernel
theorem d30_13 : D C31_ 13 (.invokestatic 339) 3 := by decide +kernel
theorem ef20 (m : MethodId) (x0 : Addr) (x1 : Int32) (x2 : Int32) : entryFrame m #[.ref x0, .int x1, .int x2] 5 = mkF m 0 #[.val (.ref x0), .val (.int x1), .val (.int x2), .unset, .unset] [] := by first | (simp [entryFrame, mkF, argsToLocals, Value.category]; done) | rfl
theorem d31_0 : D C26_ 0 (.iload_n 1) 1 := by decide +kernel
theorem d31_1 : D C26_ 1 (.iload_n 2) 1 := by decide +kernel
theorem d31_2 : D C26_ 2 (.invokestatic 343) 3 := by decide +kernel
theorem d32_0 : D C27_ 0 (.iload_n 1) 1 := by decide +kernel
theorem d32_1 : D C27_ 1 (.iload_n 0) 1 := by decide +kernel
theorem d32_2 : D C27_ 2 (.if_icmp .ge 35) 3 := by decide +kernel
theorem d32_37 : D C27_ 37 .return_ 1 := by decide +kernel
-- java/util/Arrays.checkLength(II)V
def Q55 (Z : State)  (h0 : Heap) (n0 : Nat) : QT := fun v h L => v = none ∧ Fr n0 L ∧ h = h0
theorem rm55 (hw : HW a0 Z) (qi1 : Int32) (h0 : Heap) (n0 : Nat) (X00 : Old Z n0 h0) (hc1 : ¬ (qi1 < (0 : Int32))) :
    MF l Z Y27_ jdk_65_method_131_code 2 none (Rm 0 0 0 0) #[.int 0, .int qi1] h0 (Q55 Z  h0 n0) := by
 refine own_sF pn5 rfl (fun m => ef12 m (0 : Int32) qi1) ?_
 intro p e s m below meth c s₁ Bd hZ hh hx hby hml hown hnm X0 e0 pre0
 have N0 := Fr.nil n0
 refine own_lvN X0 Bd e0 ⟨rfl, N0, rfl⟩ rfl (fun fs hr => pre0 _ (by
  show Sx p e below s₁ m 0 #[iv 0, iv qi1] [] _
  refine zj X0 Bd d32_0 rfl ?_
  refine zj X0 Bd d32_1 rfl ?_
  refine zy (pc' := 37) X0 Bd d32_2 (XT.ii_ge_t (hc1 : ¬ (qi1 < (0 : Int32)))) rfl ?_
  exact X0.returnOut hx Bd.returns (hb hby d32_37) hr))
theorem pd22 : parseMethodDescriptor "(II)V" = some ⟨[.int, .int], none⟩ := by decide +kernel
theorem d31_5 : D C26_ 5 (.iload_n 2) 1 := by decide +kernel
theorem d31_6 : D C26_ 6 (.iload_n 1) 1 := by decide +kernel
theorem d31_7 : D C26_ 7 .isub 1 := by decide +kernel
theorem d31_8 : D C26_ 8 (.istore_n 3) 1 := by decide +kernel
theorem d31_9 : D C26_ 9 (.iload_n 3) 1 := by decide +kernel
theorem d31_10 : D C26_ 10 (.newarray .byte) 2 := by decide +kernel
theorem d31_12 : D C26_ 12 (.astore 4) 2 := by decide +kernel
theorem d31_14 : D C26_ 14 (.aload_n 0) 1 := by decide +kernel
theorem d31_15 : D C26_ 15 (.iload_n 1) 1 := by decide +kernel
theorem d31_16 : D C26_ 16 (.aload 4) 2 := by decide +kernel
theorem d31_18 : D C26_ 18 (.iconst 0) 1 := by decide +kernel
theorem d31_19 : D C26_ 19 (.aload_n 0) 1 := by decide +kernel
theorem d31_20 : D C26_ 20 .arraylength 1 := by decide +kernel
theorem d31_21 : D C26_ 21 (.iload_n 1) 1 := by decide +kernel
theorem d31_22 : D C26_ 22 .isub 1 := by decide +kernel
theorem d31_23 : D C26_ 23 (.iload_n 3) 1 := by decide +kernel
theorem d31_24 : D C26_ 24 (.invokestatic 304) 3 := by decide +kernel
theorem d14_9 : D C25_ 9 (.iload_n 1) 1 := by decide +kernel
-- java/lang/Math.min(II)I
def Q56 (Z : State) (qi1 : Int32) (h0 : Heap) (n0 : Nat) : QT := fun v h L => v = some (.int qi1) ∧ Fr n0 L ∧ h = h0
theorem rm56 (hw : HW a0 Z) (qi1 : Int32) (h0 : Heap) (n0 : Nat) (X00 : Old Z n0 h0) (hc1 : qi1 < (142 : Int32)) :
    MF l Z Y9_ jdk_29_method_69_code 2 (some .int) (Rm 0 0 0 0) #[.int 142, .int qi1] h0 (Q56 Z qi1 h0 n0) := by
 refine own_sFm (K := "java/lang/Math") (by decide +kernel) rfl (fun m => ef12 m (142 : Int32) qi1) ?_
 intro p e s m below meth c s₁ Bd hZ hh hx hby hml hown hnm X0 e0 pre0
 have N0 := Fr.nil n0
 refine own_lvF X0 Bd (.int qi1) e0 ⟨rfl, N0, rfl⟩ rfl (fun fs hr => pre0 _ (by
  show Sx p e below s₁ m 0 #[iv 142, iv qi1] [] _
  refine zj X0 Bd d14_0 rfl ?_
  refine zj X0 Bd d14_1 rfl ?_
  refine zy (pc' := 9) X0 Bd d14_2 (XT.ii_gt_t (hc1 : qi1 < (142 : Int32))) rfl ?_
  refine zj X0 Bd d14_9 rfl ?_
  exact retI X0 hx Bd.returns (hb hby d14_10) hr))
theorem d31_27 : D C26_ 27 (.invokestatic 150) 3 := by decide +kernel
theorem d31_30 : D C26_ 30 (.aload 4) 2 := by decide +kernel
theorem d31_32 : D C26_ 32 .areturn 1 := by decide +kernel
-- java/util/Arrays.copyOfRangeByte([BII)[B
def Q57 (Z : State) (qi2 : Int32) (qc4 : List Int32) (h0 : Heap) (n0 : Nat) : QT := fun v h L => ∃ b3 : Addr, ∃ c3 : ClassId, v = some (.ref b3) ∧ Fr n0 L ∧ Keep h0 h [] ∧ h0.size ≤ b3 ∧ Exa Z h b3 "[B" ∧ PA Z h b3 c3 .byte (qi2 - (0 : Int32)) qc4
theorem rm57 (hw : HW a0 Z) (qa1 : Addr) (qi2 : Int32) (qk3 : ClassId) (qc4 : List Int32) (h0 : Heap) (n0 : Nat) (X00 : Old Z n0 h0) (hc2 : ¬ (qi2 < (0 : Int32))) (hk4 : ¬ (qi2 - (0 : Int32)) < 0) (hk5 : ((qi2 - (0 : Int32))).toNatClampNeg ≤ 71) (A_qa1 : PA Z h0 qa1 qk3 .byte (142 : Int32) qc4) (hc11 : (qi2 - (0 : Int32)) < (142 : Int32)) (hk14 : ((0 : Int32)).toNatClampNeg = (([] : List Int32)).length) (hk15 : ((0 : Int32)).toNatClampNeg + ((qi2 - (0 : Int32))).toNatClampNeg ≤ ((142 : Int32)).toNatClampNeg) (hk16 : ((0 : Int32)).toNatClampNeg + ((qi2 - (0 : Int32))).toNatClampNeg ≤ ((qi2 - (0 : Int32))).toNatClampNeg) (hk17 : (qc4).length ≤ ((qi2 - (0 : Int32))).toNatClampNeg) :
    MF l Z Y28_ jdk_65_method_133_code 5 (some (.array .byte)) (Rm 1 1 71 18) #[.ref qa1, .int 0, .int qi2] h0 (Q57 Z qi2 qc4 h0 n0) := by
 refine own_sF pn5 rfl (fun m => ef20 m qa1 (0 : Int32) qi2) ?_
 intro p e s m below meth c s₁ Bd hZ hh hx hby hml hown hnm X0 e0 pre0
 have N0 := Fr.nil n0
 obtain ⟨_, T1, L1, X1, hQ1, st1⟩ := own_cS 0 0 [] 2 #[rv qa1, iv 0, iv qi2, .unset, .unset] X0 hx hZ hown (w215_ hw) (w216_ hw) (w132_ hw) (w217_ hw) (rm55 l Z a0 hw  qi2 h0 n0 X00 hc2) pd22 hml.symm (hb hby d31_2) e0 rfl rfl rfl rfl (by decide)
 obtain ⟨rfl, N1q, e1q⟩ := hQ1
 have N1 := Fr.app N0 N1q
 obtain ⟨T3, h3, c3, X3, e3, E3, A3, Ex3, st3⟩ := own_newPE X1 hx hZ (w38_ hw) e1q (g := (mkF m 10 #[rv qa1, iv 0, iv qi2, iv (qi2 - (0 : Int32)), .unset] [(.int (qi2 - (0 : Int32)))])) rfl (hb hby d31_10) rfl hk4 (cap := 71) hk5 (lE rfl) (lE rfl) (lE rfl)
 obtain ⟨b3, g3⟩ : ∃ z, z = h0.size := ⟨_, rfl⟩
 rw [← g3] at A3 st3 Ex3
 replace X3 : Stand p l e (Rm 1 1 71 18) s m #[.ref qa1, .int 0, .int qi2] below meth c T3 _ 1 71 := X3
 have K6 := (Keep.refl h0 []).ext E3
 have A7_ : PA Z h3 b3 c3 .byte (qi2 - (0 : Int32)) ([] : List Int32) := Arv.new A3 hk4
 have A9_ := A_qa1.ext E3
 have av8 := A9_
 obtain ⟨cl8, Ar8, q8, S8, N8, H8, Gf8⟩ := av8
 have O12 := X00.ext E3
 obtain ⟨_, T10, L10, X10, hQ10, st10⟩ := own_cS 1 71 [.int 0, .ref b3, .int 0, .ref qa1] 24 #[rv qa1, iv 0, iv qi2, iv (qi2 - (0 : Int32)), rv b3] X3 hx hZ hown (w134_ hw) (w135_ hw) (w126_ hw) (w136_ hw) (rm56 l Z a0 hw  (qi2 - (0 : Int32)) h3 n0 O12 hc11) pd8 hml.symm (hb hby d31_24) e3 rfl rfl rfl rfl (by decide)
 obtain ⟨rfl, N10q, e10q⟩ := hQ10
 have N10 := Fr.app N1 N10q
 have Ad13 := (A7_).pad (own_repl ((qi2 - (0 : Int32))).toNatClampNeg ([] : List Int32))
 have g_b3 : n0 ≤ b3 := Nat.le_trans (Nat.le_trans (Nat.le_of_eq X00.1.symm) X00.2.1) (Nat.le_of_eq g3.symm)
 obtain ⟨T13, h13, L13, X13, e13, N13, K13q, A13, st13⟩ := cpA X10 hx hZ hown (w137_ hw) (w140_ hw) (w138_ hw) (w139_ hw) e10q (vs := qc4.map Value.int) (vd := (([] : List Int32) ++ List.replicate ((qi2 - (0 : Int32))).toNatClampNeg 0).map Value.int) A9_ Ad13 (Or.inl ⟨rfl, rfl⟩) (by decide) (by decide) hk4 hk15 hk16 rfl (by rw [List.length_map, List.length_append, List.length_replicate, hk14]; exact Nat.le_refl _) N10 g_b3 (g := (mkF m 27 #[rv qa1, iv 0, iv qi2, iv (qi2 - (0 : Int32)), rv b3] [(.int (qi2 - (0 : Int32))), .int 0, .ref b3, .int 0, .ref qa1])) rfl hml.symm rfl (hb hby d31_27) (by decide) (W := 0) (own_hw rfl) (by decide)
 have sz_b3 : h0.size ≤ b3 := (Nat.le_of_eq g3.symm)
 have K18 := K6.trans K13q (allS (Or.inr sz_b3) all0)
 have A19_ : PA Z h13 b3 c3 .byte (qi2 - (0 : Int32)) qc4 := A13.pad (own_cpl (S := qc4) (D := ([] : List Int32)) hk14 hk17)
 have E20_ := Ex3.keep K13q
 refine own_lvF X13 Bd (.ref b3) e13 ⟨b3, c3, rfl, N13, K18, sz_b3, E20_, A19_⟩ rfl (fun fs hr => pre0 _ (by
  show Sx p e below s₁ m 0 #[rv qa1, iv 0, iv qi2, .unset, .unset] [] _
  refine zj X0 Bd d31_0 rfl ?_
  refine zj X0 Bd d31_1 rfl ?_
  refine st1 _ ?_
  refine zj X1 Bd d31_5 rfl ?_
  refine zj X1 Bd d31_6 rfl ?_
  refine XS.isub X1.here hx rfl (hb hby d31_7) rfl ?_
  refine zt X1 Bd d31_8 (l' := #[rv qa1, iv 0, iv qi2, iv (qi2 - (0 : Int32)), .unset]) rfl ?_
  refine zj X1 Bd d31_9 rfl ?_
  refine st3 _ ?_
  refine XS.astore X3.here hx rfl (hb hby d31_12) rfl rfl (l' := #[rv qa1, iv 0, iv qi2, iv (qi2 - (0 : Int32)), rv b3]) rfl ?_
  refine zb X3 Bd d31_14 rfl rfl ?_
  refine zj X3 Bd d31_15 rfl ?_
  refine za X3 Bd d31_16 rfl rfl ?_
  refine zc X3 Bd d31_18 ?_
  refine zb X3 Bd d31_19 rfl rfl ?_
  refine X3.arraylength hx (by rw [e3]; exact Ar8.1) (State.isArrayOf_alike hZ.alike Ar8.2.1) (g := (mkF m 20 #[rv qa1, iv 0, iv qi2, iv (qi2 - (0 : Int32)), rv b3] [.ref qa1, .int 0, .ref b3, .int 0, .ref qa1])) rfl rfl (hb hby d31_20) _ ?_
  rw [len_of S8 N8]
  refine zj X3 Bd d31_21 rfl ?_
  refine XS.isub X3.here hx rfl (hb hby d31_22) rfl ?_
  refine zj X3 Bd d31_23 rfl ?_
  refine st10 _ ?_
  refine st13 _ ?_
  refine za X13 Bd d31_30 rfl rfl ?_
  exact retOut X13 hx Bd.returns rfl (Or.inr (Or.inr (Or.inr (Or.inr ⟨rfl, rfl, rfl⟩)))) (hb hby d31_32) hr))
theorem pd23 : parseMethodDescriptor "([BII)[B" = some ⟨[(.array .byte), .int, .int], some (.array .byte)⟩ := by decide +kernel
theorem d30_16 : D C31_ 16 .areturn 1 := by decide +kernel
-- java/util/Arrays.copyOfRange([BII)[B
def Q58 (Z : State) (qi2 : Int32) (qc4 : List Int32) (h0 : Heap) (n0 : Nat) : QT := fun v h L => ∃ b12 : Addr, ∃ c13_ : ClassId, v = some (.ref b12) ∧ Fr n0 L ∧ Keep h0 h [] ∧ h0.size ≤ b12 ∧ Exa Z h b12 "[B" ∧ PA Z h b12 c13_ .byte (qi2 - (0 : Int32)) qc4
theorem rm58 (hw : HW a0 Z) (qa1 : Addr) (qi2 : Int32) (qk3 : ClassId) (qc4 : List Int32) (h0 : Heap) (n0 : Nat) (X00 : Old Z n0 h0) (A_qa1 : PA Z h0 qa1 qk3 .byte (142 : Int32) qc4) (hc2 : ¬ (qi2 = (142 : Int32))) (hc4 : ¬ (qi2 < (0 : Int32))) (hk5 : ¬ (qi2 - (0 : Int32)) < 0) (hk6 : ((qi2 - (0 : Int32))).toNatClampNeg ≤ 71) (hc7 : (qi2 - (0 : Int32)) < (142 : Int32)) (hk8 : ((0 : Int32)).toNatClampNeg = (([] : List Int32)).length) (hk9 : ((0 : Int32)).toNatClampNeg + ((qi2 - (0 : Int32))).toNatClampNeg ≤ ((142 : Int32)).toNatClampNeg) (hk10 : ((0 : Int32)).toNatClampNeg + ((qi2 - (0 : Int32))).toNatClampNeg ≤ ((qi2 - (0 : Int32))).toNatClampNeg) (hk11 : (qc4).length ≤ ((qi2 - (0 : Int32))).toNatClampNeg) :
    MF l Z Y29_ jdk_65_method_132_code 3 (some (.array .byte)) (Rm 2 1 71 34) #[.ref qa1, .int 0, .int qi2] h0 (Q58 Z qi2 qc4 h0 n0) := by
 refine own_sF pn5 rfl (fun m => ef19 m qa1 (0 : Int32) qi2) ?_
 intro p e s m below meth c s₁ Bd hZ hh hx hby hml hown hnm X0 e0 pre0
 have N0 := Fr.nil n0
 have av1 := A_qa1
 obtain ⟨cl1, Ar1, q1, S1, N1, H1, Gf1⟩ := av1
 obtain ⟨_, T3, L3, X3, hQ3, st3⟩ := own_cS 1 71 [] 13 #[rv qa1, iv 0, iv qi2] X0 hx hZ hown (w212_ hw) (w213_ hw) (w132_ hw) (w214_ hw) (rm57 l Z a0 hw  qa1 qi2 qk3 qc4 h0 n0 X00 hc4 hk5 hk6 A_qa1 hc7 hk8 hk9 hk10 hk11) pd23 hml.symm (hb hby d30_13) e0 rfl rfl rfl rfl (by decide)
 obtain ⟨b12, c13_, rfl, N3q, K3q, w14, w15, w16⟩ := hQ3
 have N3 := Fr.app N0 N3q
 have K17 := (Keep.refl h0 []).trans K3q (fun x q => nomatch q)
 have sz_b12 : h0.size ≤ b12 := w14
 refine own_lvF X3 Bd (.ref b12) rfl ⟨b12, c13_, rfl, N3, K17, sz_b12, w15, w16⟩ rfl (fun fs hr => pre0 _ (by
  show Sx p e below s₁ m 0 #[rv qa1, iv 0, iv qi2] [] _
  refine zj X0 Bd d30_0 rfl ?_
  refine zo X0 Bd d30_1 (XT.i0_ne_f ((by decide) : (0 : Int32) = (0 : Int32))) ?_
  refine zj X0 Bd d30_4 rfl ?_
  refine zb X0 Bd d30_5 rfl rfl ?_
  refine X0.arraylength hx (by rw [e0]; exact Ar1.1) (State.isArrayOf_alike hZ.alike Ar1.2.1) (g := (mkF m 6 #[rv qa1, iv 0, iv qi2] [.ref qa1, .int qi2])) rfl rfl (hb hby d30_6) _ ?_
  rw [len_of S1 N1]
  refine zn X0 Bd d30_7 (XT.ii_eq_f (hc2 : ¬ (qi2 = (142 : Int32)))) ?_
  refine zb X0 Bd d30_10 rfl rfl ?_
  refine zj X0 Bd d30_11 rfl ?_
  refine zj X0 Bd d30_12 rfl ?_
  refine st3 _ ?_
  exact retOut X3 hx Bd.returns rfl (Or.inr (Or.inr (Or.inr (Or.inr ⟨rfl, rfl, rfl⟩)))) (hb hby d30_16) hr))
theorem d26_35 : D C29_ 35 (.putfield 9) 3 := by decide +kernel
theorem d26_38 : D C29_ 38 (.goto 59) 3 := by decide +kernel
theorem d26_97 : D C29_ 97 .return_ 1 := by decide +kernel
-- java/lang/String.<init>(Ljava/lang/AbstractStringBuilder;Ljava/lang/Void;)V
def Q59 (Z : State) (qa1 : Addr) (qi4 : Int32) (qc6 : List Int32) (h0 : Heap) (n0 : Nat) : QT := fun v h L => ∃ b20 : Addr, ∃ c21_ : ClassId, v = none ∧ Fr n0 L ∧ Keep h0 h [qa1] ∧ h0.size ≤ b20 ∧ Exa Z h qa1 ST_ ∧ SC Z h qa1 ∧ SV Z h qa1 b20 ∧ Exa Z h b20 "[B" ∧ PA Z h b20 c21_ .byte (qi4 - (0 : Int32)) qc6
theorem rm59 (hw : HW a0 Z) (G1 : Int32) (qa1 : Addr) (qa2 : Addr) (qa3 : Addr) (qi4 : Int32) (qk5 : ClassId) (qc6 : List Int32) (h0 : Heap) (n0 : Nat) (X00 : Old Z n0 h0) (O2 : CO Z G1) (P5 : NZ G1) (E_qa2 : Exa Z h0 qa2 SB_) (F_qa2_value : VA Z h0 qa2 qa3) (F_qa2_count : VN Z h0 qa2 qi4) (F_qa2_coder : VC Z h0 qa2) (E_qa1 : Exa Z h0 qa1 ST_) (F_qa1_coder : SC Z h0 qa1) (g_qa1 : n0 ≤ qa1) (A_qa3 : PA Z h0 qa3 qk5 .byte (142 : Int32) qc6) (ne_qa3_qa1 : qa3 ≠ qa1) (hc10 : ¬ (qi4 = (142 : Int32))) (hc11 : ¬ (qi4 < (0 : Int32))) (hk12 : ¬ (qi4 - (0 : Int32)) < 0) (hk13 : ((qi4 - (0 : Int32))).toNatClampNeg ≤ 71) (hc14 : (qi4 - (0 : Int32)) < (142 : Int32)) (hk15 : ((0 : Int32)).toNatClampNeg = (([] : List Int32)).length) (hk16 : ((0 : Int32)).toNatClampNeg + ((qi4 - (0 : Int32))).toNatClampNeg ≤ ((142 : Int32)).toNatClampNeg) (hk17 : ((0 : Int32)).toNatClampNeg + ((qi4 - (0 : Int32))).toNatClampNeg ≤ ((qi4 - (0 : Int32))).toNatClampNeg) (hk18 : (qc6).length ≤ ((qi4 - (0 : Int32))).toNatClampNeg) (F_qa1_value : Fld Z h0 qa1 ST_ "value" "[B" .null) :
    MF l Z Y30_ jdk_42_method_150_code 5 none (Rm 3 1 71 49) #[.ref qa1, .ref qa2, .null] h0 (Q59 Z qa1 qi4 qc6 h0 n0) := by
 refine own_sF pn6 rfl (fun m => ef18 m qa1 qa2) ?_
 intro p e s m below meth c s₁ Bd hZ hh hx hby hml hown hnm X0 e0 pre0
 have N0 := Fr.nil n0
 obtain ⟨T1, X1, e1, st1⟩ := initO X0 hx hZ hown (w30_ hw) (w31_ hw) (w32_ hw) e0 (g := (mkF m 1 #[rv qa1, rv qa2, .val .null, .unset, .unset] [.ref qa1])) rfl hml.symm rfl (hb hby d26_1) (by decide) (W := 0) (own_hw rfl) (lE rfl)
 obtain ⟨_, T2, L2, X2, hQ2, st2⟩ := own_cV 0 0 [] 5 #[rv qa1, rv qa2, .val .null, .unset, .unset] X1 hx hZ hown E_qa2 (w195_ hw) (w196_ hw) (notFace_of_selects (args := #[]) (mvT hZ (w198_ hw))) (w198_ hw) (w197_ hw) (w77_ hw) (w199_ hw) (rm52 l Z a0 hw  qa2 qa3 h0 n0 X00 F_qa2_value) pd21 hml.symm (hb hby d26_5) e1 rfl rfl rfl rfl (by decide)
 obtain ⟨rfl, N2q, e2q⟩ := hQ2
 have N2 := Fr.app N0 N2q
 obtain ⟨_, T3, L3, X3, hQ3, st3⟩ := own_cV 0 0 [] 10 #[rv qa1, rv qa2, .val .null, rv qa3, .unset] X2 hx hZ hown E_qa2 (w200_ hw) (w201_ hw) (own_nf (mvT (args := #[]) hZ (w113_ hw)) rfl) (w203_ hw) (w204_ hw) (w69_ hw) (w205_ hw) (rm54 l Z a0 hw  qa2 qi4 h0 n0 X00 F_qa2_count E_qa2) pd7 hml.symm (hb hby d26_10) e2q rfl rfl rfl rfl (by decide)
 obtain ⟨rfl, N3q, e3q⟩ := hQ3
 have N3 := Fr.app N2 N3q
 obtain ⟨_, T4, L4, X4, hQ4, st4⟩ := own_cV 0 0 [] 16 #[rv qa1, rv qa2, .val .null, rv qa3, iv qi4] X3 hx hZ hown E_qa2 (w208_ hw) (w172_ hw) (notFace_of_selects (args := #[]) (mvT hZ (w174_ hw))) (w174_ hw) (w173_ hw) (w77_ hw) (w175_ hw) (rm21 l Z a0 hw G1 qa2 h0 n0 X00 O2 P5 F_qa2_coder) pd17 hml.symm (hb hby d26_16) e3q rfl rfl rfl rfl (by decide)
 obtain ⟨rfl, N4q, e4q⟩ := hQ4
 have N4 := Fr.app N3 N4q
 obtain ⟨T5, h5, X5, e5, W5, st5⟩ := putF X4 hx hZ hown (host := "") (Or.inl (w45_ hw)) Via.refl e4q F_qa1_coder E_qa1 (Or.inr ⟨(w46_ hw), rfl, hnm⟩) (w21_ hw) (ty := .byte) (by decide) rfl rfl (g := (mkF m 24 #[rv qa1, rv qa2, .val .null, rv qa3, iv qi4] [.int 0, .ref qa1])) rfl rfl (hb hby d26_24)
 have N5 := Fr.snoc X5 N4 g_qa1
 have K6 := (Keep.refl h0 [qa1]).wr W5 (Or.inl (mI 0 rfl))
 have F7_ : SC Z h5 qa1 := F_qa1_coder.same W5
 have A9_ := A_qa3.other W5 ne_qa3_qa1
 have O19 := X00.wr W5 g_qa1
 obtain ⟨_, T8, L8, X8, hQ8, st8⟩ := own_cS 1 71 [.ref qa1] 32 #[rv qa1, rv qa2, .val .null, rv qa3, iv qi4] X5 hx hZ hown (w209_ hw) (w210_ hw) (w132_ hw) (w211_ hw) (rm58 l Z a0 hw  qa3 qi4 qk5 qc6 h5 n0 O19 A9_ hc10 hc11 hk12 hk13 hc14 hk15 hk16 hk17 hk18) pd23 hml.symm (hb hby d26_32) e5 rfl rfl rfl rfl (by decide)
 obtain ⟨b20, c21_, rfl, N8q, K8q, w22, w23, w24⟩ := hQ8
 have N8 := Fr.app N5 N8q
 have K25 := K6.trans K8q (fun x q => nomatch q)
 have F26_ := F_qa1_value.other W5 (Or.inr (slot_ne (Or.inr (w48_ hw)) (Or.inr (w46_ hw)) (by decide) (t := (.array .byte)) (t' := .byte) (by decide) (by decide)))
 have F27_ := F26_.keep K8q nin0
 have E28_ := E_qa1.wr W5
 have E29_ := E28_.keep K8q
 obtain ⟨T30, h30, X30, e30, W30, st30⟩ := putF X8 hx hZ hown (host := "") (Or.inl (w47_ hw)) Via.refl rfl F27_ E29_ (Or.inr ⟨(w48_ hw), rfl, hnm⟩) (w21_ hw) (ty := (.array .byte)) (by decide) rfl rfl (g := (mkF m 35 #[rv qa1, rv qa2, .val .null, rv qa3, iv qi4] [.ref b20, .ref qa1])) rfl rfl (hb hby d26_35)
 have N30 := Fr.snoc X30 N8 g_qa1
 have K31 := K25.wr W30 (Or.inl (mI 0 rfl))
 have F32_ : SV Z h30 qa1 b20 := F27_.same W30
 have sz_b20 : h0.size ≤ b20 := Nat.le_trans K6.1 w22
 have E33_ := E29_.wr W30
 have F34_ := F7_.keep K8q nin0
 have F35_ := F34_.other W30 (Or.inr (slot_ne (Or.inr (w46_ hw)) (Or.inr (w48_ hw)) (by decide) (t := .byte) (t' := (.array .byte)) (by decide) (by decide)))
 have E36_ := w23.wr W30
 have nx37 : qa1 ≠ b20 := (Nat.ne_of_lt (Nat.lt_of_lt_of_le (Nat.lt_of_lt_of_le E_qa1.lt (Nat.le_of_eq W5.size.symm)) w22))
 have A38_ := w24.other W30 (Ne.symm nx37)
 refine own_lvN X30 Bd e30 ⟨b20, c21_, rfl, N30, K31, sz_b20, E33_, F35_, F32_, E36_, A38_⟩ rfl (fun fs hr => pre0 _ (by
  show Sx p e below s₁ m 0 #[rv qa1, rv qa2, .val .null, .unset, .unset] [] _
  refine zb X0 Bd d26_0 rfl rfl ?_
  refine st1 _ ?_
  refine zb X1 Bd d26_4 rfl rfl ?_
  refine st2 _ ?_
  refine XS.astoreN X2.here hx rfl (hb hby d26_8) rfl rfl (l' := #[rv qa1, rv qa2, .val .null, rv qa3, .unset]) rfl ?_
  refine zb X2 Bd d26_9 rfl rfl ?_
  refine st3 _ ?_
  refine zs X3 Bd d26_13 (l' := #[rv qa1, rv qa2, .val .null, rv qa3, iv qi4]) rfl ?_
  refine zb X3 Bd d26_15 rfl rfl ?_
  refine st4 _ ?_
  refine zo X4 Bd d26_19 (XT.i0_eq_f ((by decide) : ¬ ((1 : Int32) = (0 : Int32)))) ?_
  refine zb X4 Bd d26_22 rfl rfl ?_
  refine zc X4 Bd d26_23 ?_
  refine st5 _ ?_
  refine zb X5 Bd d26_27 rfl rfl ?_
  refine zb X5 Bd d26_28 rfl rfl ?_
  refine zc X5 Bd d26_29 ?_
  refine zi X5 Bd d26_30 rfl ?_
  refine st8 _ ?_
  refine st30 _ ?_
  refine zg (pc' := 97) X30 Bd d26_38 rfl ?_
  exact X30.returnOut hx Bd.returns (hb hby d26_97) hr))
theorem pd24 : parseMethodDescriptor "(Ljava/lang/AbstractStringBuilder;Ljava/lang/Void;)V" = some ⟨[(.object AB_), (.object "java/lang/Void")], none⟩ := by decide +kernel
theorem d25_6 : D C17_ 6 .return_ 1 := by decide +kernel
-- java/lang/String.<init>(Ljava/lang/StringBuilder;)V
def Q60 (Z : State) (qa1 : Addr) (qi4 : Int32) (qc6 : List Int32) (h0 : Heap) (n0 : Nat) : QT := fun v h L => ∃ b11 : Addr, ∃ c12_ : ClassId, v = none ∧ Fr n0 L ∧ Keep h0 h [qa1] ∧ h0.size ≤ b11 ∧ Exa Z h qa1 ST_ ∧ SC Z h qa1 ∧ SV Z h qa1 b11 ∧ Exa Z h b11 "[B" ∧ PA Z h b11 c12_ .byte (qi4 - (0 : Int32)) qc6
theorem rm60 (hw : HW a0 Z) (G1 : Int32) (qa1 : Addr) (qa2 : Addr) (qa3 : Addr) (qi4 : Int32) (qk5 : ClassId) (qc6 : List Int32) (h0 : Heap) (n0 : Nat) (X00 : Old Z n0 h0) (O2 : CO Z G1) (P5 : NZ G1) (E_qa2 : Exa Z h0 qa2 SB_) (F_qa2_value : VA Z h0 qa2 qa3) (F_qa2_count : VN Z h0 qa2 qi4) (F_qa2_coder : VC Z h0 qa2) (E_qa1 : Exa Z h0 qa1 ST_) (F_qa1_coder : SC Z h0 qa1) (g_qa1 : n0 ≤ qa1) (A_qa3 : PA Z h0 qa3 qk5 .byte (142 : Int32) qc6) (ne_qa3_qa1 : qa3 ≠ qa1) (hc2 : ¬ (qi4 = (142 : Int32))) (hc3 : ¬ (qi4 < (0 : Int32))) (hk4 : ¬ (qi4 - (0 : Int32)) < 0) (hk5 : ((qi4 - (0 : Int32))).toNatClampNeg ≤ 71) (hc6 : (qi4 - (0 : Int32)) < (142 : Int32)) (hk7 : ((0 : Int32)).toNatClampNeg = (([] : List Int32)).length) (hk8 : ((0 : Int32)).toNatClampNeg + ((qi4 - (0 : Int32))).toNatClampNeg ≤ ((142 : Int32)).toNatClampNeg) (hk9 : ((0 : Int32)).toNatClampNeg + ((qi4 - (0 : Int32))).toNatClampNeg ≤ ((qi4 - (0 : Int32))).toNatClampNeg) (hk10 : (qc6).length ≤ ((qi4 - (0 : Int32))).toNatClampNeg) (F_qa1_value : Fld Z h0 qa1 ST_ "value" "[B" .null) :
    MF l Z Y31_ jdk_42_method_53_code 2 none (Rm 4 1 71 65) #[.ref qa1, .ref qa2] h0 (Q60 Z qa1 qi4 qc6 h0 n0) := by
 refine own_sF pn6 rfl (fun m => ef7 m qa1 qa2) ?_
 intro p e s m below meth c s₁ Bd hZ hh hx hby hml hown hnm X0 e0 pre0
 have N0 := Fr.nil n0
 obtain ⟨_, T1, L1, X1, hQ1, st1⟩ := own_cI 1 71 [] 3 #[rv qa1, rv qa2] X0 hx hZ hown (w192_ hw) (w193_ hw) (w22_ hw) (w194_ hw) (rm59 l Z a0 hw G1 qa1 qa2 qa3 qi4 qk5 qc6 h0 n0 X00 O2 P5 E_qa2 F_qa2_value F_qa2_count F_qa2_coder E_qa1 F_qa1_coder g_qa1 A_qa3 ne_qa3_qa1 hc2 hc3 hk4 hk5 hc6 hk7 hk8 hk9 hk10 F_qa1_value) pd24 hml.symm (hb hby d25_3) e0 rfl rfl rfl rfl rfl (by decide)
 obtain ⟨b11, c12_, rfl, N1q, K1q, w13, w14, w15, w16, w17, w18⟩ := hQ1
 have N1 := Fr.app N0 N1q
 have K19 := (Keep.refl h0 [qa1]).trans K1q (allS (Or.inl (mI 0 rfl)) all0)
 have sz_b11 : h0.size ≤ b11 := w13
 have E20_ := E_qa1.keep K1q
 refine own_lvN X1 Bd rfl ⟨b11, c12_, rfl, N1, K19, sz_b11, E20_, w15, w16, w17, w18⟩ rfl (fun fs hr => pre0 _ (by
  show Sx p e below s₁ m 0 #[rv qa1, rv qa2] [] _
  refine zb X0 Bd d25_0 rfl rfl ?_
  refine zb X0 Bd d25_1 rfl rfl ?_
  refine XS.aconstNull X0.here hx rfl (hb hby d25_2) ?_
  refine st1 _ ?_
  exact X1.returnOut hx Bd.returns (hb hby d25_6) hr))
theorem pd25 : parseMethodDescriptor "(Ljava/lang/StringBuilder;)V" = some ⟨[(.object SB_)], none⟩ := by decide +kernel
theorem d24_8 : D C21_ 8 .areturn 1 := by decide +kernel
-- java/lang/StringBuilder.toString()Ljava/lang/String;
def Q61 (Z : State) (qi3 : Int32) (qc5 : List Int32) (h0 : Heap) (n0 : Nat) : QT := fun v h L => ∃ b1 : Addr, ∃ b22 : Addr, ∃ c23_ : ClassId, v = some (.ref b1) ∧ Fr n0 L ∧ Keep h0 h [] ∧ h0.size ≤ b1 ∧ h0.size ≤ b22 ∧ b1 ≠ b22 ∧ Exa Z h b1 ST_ ∧ SC Z h b1 ∧ SV Z h b1 b22 ∧ Exa Z h b22 "[B" ∧ PA Z h b22 c23_ .byte (qi3 - (0 : Int32)) qc5
theorem rm61 (hw : HW a0 Z) (G1 : Int32) (qa1 : Addr) (qa2 : Addr) (qi3 : Int32) (qk4 : ClassId) (qc5 : List Int32) (h0 : Heap) (n0 : Nat) (X00 : Old Z n0 h0) (O2 : CO Z G1) (P5 : NZ G1) (E_qa1 : Exa Z h0 qa1 SB_) (F_qa1_value : VA Z h0 qa1 qa2) (F_qa1_count : VN Z h0 qa1 qi3) (F_qa1_coder : VC Z h0 qa1) (A_qa2 : PA Z h0 qa2 qk4 .byte (142 : Int32) qc5) (hc12 : ¬ (qi3 = (142 : Int32))) (hc13 : ¬ (qi3 < (0 : Int32))) (hk14 : ¬ (qi3 - (0 : Int32)) < 0) (hk15 : ((qi3 - (0 : Int32))).toNatClampNeg ≤ 71) (hc16 : (qi3 - (0 : Int32)) < (142 : Int32)) (hk17 : ((0 : Int32)).toNatClampNeg = (([] : List Int32)).length) (hk18 : ((0 : Int32)).toNatClampNeg + ((qi3 - (0 : Int32))).toNatClampNeg ≤ ((142 : Int32)).toNatClampNeg) (hk19 : ((0 : Int32)).toNatClampNeg + ((qi3 - (0 : Int32))).toNatClampNeg ≤ ((qi3 - (0 : Int32))).toNatClampNeg) (hk20 : (qc5).length ≤ ((qi3 - (0 : Int32))).toNatClampNeg) :
    MF l Z Y32_ jdk_67_method_42_code 1 (some (.object ST_)) (Rm 5 2 75 79) #[.ref qa1] h0 (Q61 Z qi3 qc5 h0 n0) := by
 refine own_sF pn2 rfl (fun m => ef5 m qa1) ?_
 intro p e s m below meth c s₁ Bd hZ hh hx hby hml hown hnm X0 e0 pre0
 have N0 := Fr.nil n0
 obtain ⟨T1, h1, X1, e1, E1, A1, D1, -, st1⟩ := newO X0 hx hZ hown (w188_ hw) (w21_ hw) (w22_ hw) e0 (g := (mkF m 0 #[rv qa1] [])) rfl (hb hby d24_0) (lE rfl) (lE rfl)
 obtain ⟨b1, g1⟩ : ∃ z, z = h0.size := ⟨_, rfl⟩
 rw [← g1] at A1 D1 st1
 replace X1 : Stand p l e (Rm 5 2 75 79) s m #[.ref qa1] below meth c T1 _ 1 4 := X1
 have K2 := (Keep.refl h0 []).ext E1
 have F3_ : SC Z h1 b1 := D1 (Or.inr (w46_ hw)) (ty := .byte) (by decide)
 have F4_ : Fld Z h1 b1 ST_ "value" "[B" .null := D1 (Or.inr (w48_ hw)) (ty := (.array .byte)) (by decide)
 have E6_ := E_qa1.ext E1
 have F7_ := F_qa1_value.ext E1
 have F8_ := F_qa1_count.ext E1
 have F9_ := F_qa1_coder.ext E1
 have g_b1 : n0 ≤ b1 := Nat.le_trans (Nat.le_trans (Nat.le_of_eq X00.1.symm) X00.2.1) (Nat.le_of_eq g1.symm)
 have A10_ := A_qa2.ext E1
 have nx11 : qa2 ≠ b1 := (Nat.ne_of_lt (Nat.lt_of_lt_of_le A_qa2.lt (Nat.le_of_eq g1.symm)))
 have O21 := X00.ext E1
 obtain ⟨_, T5, L5, X5, hQ5, st5⟩ := own_cI 2 75 [.ref b1] 5 #[rv qa1] X1 hx hZ hown (w189_ hw) (w190_ hw) (w22_ hw) (w191_ hw) (rm60 l Z a0 hw G1 b1 qa1 qa2 qi3 qk4 qc5 h1 n0 O21 O2 P5 E6_ F7_ F8_ F9_ A1 F3_ g_b1 A10_ nx11 hc12 hc13 hk14 hk15 hc16 hk17 hk18 hk19 hk20 F4_) pd25 hml.symm (hb hby d24_5) e1 rfl rfl rfl rfl rfl (by decide)
 obtain ⟨b22, c23_, rfl, N5q, K5q, w24, w25, w26, w27, w28, w29⟩ := hQ5
 have N5 := Fr.app N0 N5q
 have sz_b1 : h0.size ≤ b1 := (Nat.le_of_eq g1.symm)
 have K30 := K2.trans K5q (allS (Or.inr sz_b1) all0)
 have sz_b22 : h0.size ≤ b22 := Nat.le_trans K2.1 w24
 have nx31 : b1 ≠ b22 := (Nat.ne_of_lt (Nat.lt_of_lt_of_le A1.lt w24))
 have E32_ := A1.keep K5q
 refine own_lvF X5 Bd (.ref b1) rfl ⟨b1, b22, c23_, rfl, N5, K30, sz_b1, sz_b22, nx31, E32_, w26, w27, w28, w29⟩ rfl (fun fs hr => pre0 _ (by
  show Sx p e below s₁ m 0 #[rv qa1] [] _
  refine st1 _ ?_
  refine XS.dup X1.here hx rfl (hb hby d24_3) rfl rfl ?_
  refine zb X1 Bd d24_4 rfl rfl ?_
  refine st5 _ ?_
  exact retOut X5 hx Bd.returns rfl (Or.inr (Or.inr (Or.inr (Or.inr ⟨rfl, rfl, rfl⟩)))) (hb hby d24_8) hr))
theorem pd26 : parseMethodDescriptor "()Ljava/lang/String;" = some ⟨[], some (.object ST_)⟩ := by decide +kernel
theorem d4_51 : D C3_ 51 .areturn 1 := by decide +kernel
-- java/lang/String.getBytes([BIB)V
def Q62 (Z : State) (qa2 : Addr) (qk6 : ClassId) (qc7 : List Int32) (h0 : Heap) (n0 : Nat) : QT := fun v h L => v = none ∧ Fr n0 L ∧ Keep h0 h [qa2] ∧ PA Z h qa2 qk6 .byte (70 : Int32) (qc7 ++ K4_)
theorem rm62 (hw : HW a0 Z) (G1 : Int32) (qa1 : Addr) (qa2 : Addr) (qi3 : Int32) (qa4 : Addr) (qk5 : ClassId) (qk6 : ClassId) (qc7 : List Int32) (h0 : Heap) (n0 : Nat) (X00 : Old Z n0 h0) (O2 : CO Z G1) (P5 : NZ G1) (E_qa1 : Exa Z h0 qa1 ST_) (F_qa1_coder : SC Z h0 qa1) (F_qa1_value : SV Z h0 qa1 qa4) (A_qa4 : Arv Z h0 qa4 qk5 .byte (1 : Int32) [.int 93] (.int 0)) (A_qa2 : PA Z h0 qa2 qk6 .byte (70 : Int32) qc7) (hk7 : ((qi3 <<< ((0 : Int32) &&& 31))).toNatClampNeg = (qc7).length) (hk8 : ¬ (qi3 <<< ((0 : Int32) &&& 31)) < 0) (hk9 : ((0 : Int32)).toNatClampNeg + ((1 : Int32)).toNatClampNeg ≤ ((1 : Int32)).toNatClampNeg) (hk10 : ((qi3 <<< ((0 : Int32) &&& 31))).toNatClampNeg + ((1 : Int32)).toNatClampNeg ≤ ((70 : Int32)).toNatClampNeg) (hk11 : (K4_).length ≤ ((1 : Int32)).toNatClampNeg) (g_qa2 : n0 ≤ qa2) :
    MF l Z Y14_ jdk_42_method_147_code 4 none (Rm 1 0 0 18) #[.ref qa1, .ref qa2, .int qi3, .int 0] h0 (Q62 Z qa2 qk6 qc7 h0 n0) := by
 refine own_sF pn6 rfl (fun m => ef14 m qa1 qa2 qi3 (0 : Int32)) ?_
 intro p e s m below meth c s₁ Bd hZ hh hx hby hml hown hnm X0 e0 pre0
 have N0 := Fr.nil n0
 obtain ⟨_, T1, L1, X1, hQ1, st1⟩ := own_cV 0 0 [] 1 #[rv qa1, rv qa2, iv qi3, iv 0] X0 hx hZ hown E_qa1 (w103_ hw) (w104_ hw) (notFace_of_selects (args := #[]) (mvT hZ (w106_ hw))) (w106_ hw) (w105_ hw) (w22_ hw) (w107_ hw) (rm13 l Z a0 hw G1 qa1 h0 n0 X00 O2 P5 F_qa1_coder) pd11 hml.symm (hb hby d18_1) e0 rfl rfl rfl rfl (by decide)
 obtain ⟨rfl, N1q, e1q⟩ := hQ1
 have N1 := Fr.app N0 N1q
 obtain ⟨T2, X2, e2, st2⟩ := own_gF 9 #[rv qa1, rv qa2, iv qi3, iv 0] [] X1 hx hZ hown (w47_ hw) Via.refl e1q F_qa1_value (hb hby d18_9)
 obtain ⟨T3, X3, e3, st3⟩ := own_gF 18 #[rv qa1, rv qa2, iv qi3, iv 0] [(.int (qi3 <<< ((0 : Int32) &&& 31))), .ref qa2, .int 0, .ref qa4] X2 hx hZ hown (w47_ hw) Via.refl e2 F_qa1_value (hb hby d18_18)
 have av4 := A_qa4
 obtain ⟨cl4, Ar4, q4, S4, N4, H4, Gf4⟩ := av4
 have A5_ : PA Z h0 qa4 qk5 .byte (1 : Int32) K4_ := A_qa4
 have Ad6 := (A_qa2).pad (own_repl ((1 : Int32)).toNatClampNeg qc7)
 obtain ⟨T6, h6, L6, X6, e6, N6, K6q, A6, st6⟩ := cpA X3 hx hZ hown (w157_ hw) (w140_ hw) (w138_ hw) (w139_ hw) e3 (vs := K4_.map Value.int) (vd := (qc7 ++ List.replicate ((1 : Int32)).toNatClampNeg 0).map Value.int) A5_ Ad6 (Or.inl ⟨rfl, rfl⟩) (by decide) hk8 (by decide) hk9 hk10 rfl (by rw [List.length_map, List.length_append, List.length_replicate, hk7]; exact Nat.le_refl _) N1 g_qa2 (g := (mkF m 22 #[rv qa1, rv qa2, iv qi3, iv 0] [.int 1, (.int (qi3 <<< ((0 : Int32) &&& 31))), .ref qa2, .int 0, .ref qa4])) rfl hml.symm rfl (hb hby d18_22) (by decide) (W := 0) (own_hw rfl) (by decide)
 have K12 := (Keep.refl h0 [qa2]).trans K6q (allS (Or.inl (mI 0 rfl)) all0)
 have A13_ : PA Z h6 qa2 qk6 .byte (70 : Int32) (qc7 ++ K4_) := A6.pad (own_cpl (S := K4_) (D := qc7) hk7 hk11)
 refine own_lvN X6 Bd e6 ⟨rfl, N6, K12, A13_⟩ rfl (fun fs hr => pre0 _ (by
  show Sx p e below s₁ m 0 #[rv qa1, rv qa2, iv qi3, iv 0] [] _
  refine zb X0 Bd d18_0 rfl rfl ?_
  refine st1 _ ?_
  refine zj X1 Bd d18_4 rfl ?_
  refine zn X1 Bd d18_5 (XT.ii_ne_f ((by decide) : (0 : Int32) = (0 : Int32))) ?_
  refine zb X1 Bd d18_8 rfl rfl ?_
  refine st2 _ ?_
  refine zc X2 Bd d18_12 ?_
  refine zb X2 Bd d18_13 rfl rfl ?_
  refine zj X2 Bd d18_14 rfl ?_
  refine zj X2 Bd d18_15 rfl ?_
  refine XS.ishl X2.here hx rfl (hb hby d18_16) rfl ?_
  refine zb X2 Bd d18_17 rfl rfl ?_
  refine st3 _ ?_
  refine X3.arraylength hx (by rw [e3]; exact Ar4.1) (State.isArrayOf_alike hZ.alike Ar4.2.1) (g := (mkF m 21 #[rv qa1, rv qa2, iv qi3, iv 0] [.ref qa4, (.int (qi3 <<< ((0 : Int32) &&& 31))), .ref qa2, .int 0, .ref qa4])) rfl rfl (hb hby d18_21) _ ?_
  rw [len_of S4 N4]
  refine st6 _ ?_
  refine zg (pc' := 43) X6 Bd d18_25 rfl ?_
  exact X6.returnOut hx Bd.returns (hb hby d18_43) hr))
-- java/lang/AbstractStringBuilder.putStringAt(ILjava/lang/String;)V
def Q63 (Z : State) (qa4 : Addr) (qk7 : ClassId) (qc8 : List Int32) (h0 : Heap) (n0 : Nat) : QT := fun v h L => v = none ∧ Fr n0 L ∧ Keep h0 h [qa4] ∧ PA Z h qa4 qk7 .byte (70 : Int32) (qc8 ++ K4_)
theorem rm63 (hw : HW a0 Z) (G1 : Int32) (qa1 : Addr) (qi2 : Int32) (qa3 : Addr) (qa4 : Addr) (qa5 : Addr) (qk6 : ClassId) (qk7 : ClassId) (qc8 : List Int32) (h0 : Heap) (n0 : Nat) (X00 : Old Z n0 h0) (O2 : CO Z G1) (P5 : NZ G1) (F_qa1_coder : VC Z h0 qa1) (E_qa3 : Exa Z h0 qa3 ST_) (F_qa3_coder : SC Z h0 qa3) (E_qa1 : Exa Z h0 qa1 SB_) (F_qa1_value : VA Z h0 qa1 qa4) (F_qa3_value : SV Z h0 qa3 qa5) (A_qa5 : Arv Z h0 qa5 qk6 .byte (1 : Int32) [.int 93] (.int 0)) (A_qa4 : PA Z h0 qa4 qk7 .byte (70 : Int32) qc8) (hk5 : ((qi2 <<< ((0 : Int32) &&& 31))).toNatClampNeg = (qc8).length) (hk6 : ¬ (qi2 <<< ((0 : Int32) &&& 31)) < 0) (hk7 : ((0 : Int32)).toNatClampNeg + ((1 : Int32)).toNatClampNeg ≤ ((1 : Int32)).toNatClampNeg) (hk8 : ((qi2 <<< ((0 : Int32) &&& 31))).toNatClampNeg + ((1 : Int32)).toNatClampNeg ≤ ((70 : Int32)).toNatClampNeg) (hk9 : (K4_).length ≤ ((1 : Int32)).toNatClampNeg) (g_qa4 : n0 ≤ qa4) :
    MF l Z Y15_ jdk_68_method_73_code 3 none (Rm 2 0 0 33) #[.ref qa1, .int qi2, .ref qa3] h0 (Q63 Z qa4 qk7 qc8 h0 n0) := by
 refine own_sF pn3 rfl (fun m => ef13 m qa1 qi2 qa3) ?_
 intro p e s m below meth c s₁ Bd hZ hh hx hby hml hown hnm X0 e0 pre0
 have N0 := Fr.nil n0
 obtain ⟨_, T1, L1, X1, hQ1, st1⟩ := own_cP 0 0 [] 2 #[rv qa1, iv qi2, rv qa3] X0 hx hZ hown E_qa1 (w146_ hw) (w147_ hw) (w149_ hw) (w148_ hw) (w77_ hw) (w150_ hw) (rm14 l Z a0 hw G1 qa1 qa3 h0 n0 X00 O2 P5 F_qa1_coder E_qa3 F_qa3_coder) pd12 hml.symm (hb hby d15_2) e0 rfl rfl rfl rfl (by decide)
 obtain ⟨rfl, N1q, e1q⟩ := hQ1
 have N1 := Fr.app N0 N1q
 obtain ⟨T2, X2, e2, st2⟩ := own_gF 7 #[rv qa1, iv qi2, rv qa3] [.ref qa3] X1 hx hZ hown (w81_ hw) Via.refl e1q F_qa1_value (hb hby d15_7)
 obtain ⟨T3, X3, e3, st3⟩ := own_gF 12 #[rv qa1, iv qi2, rv qa3] [.int qi2, .ref qa4, .ref qa3] X2 hx hZ hown (w83_ hw) Via.refl e2 F_qa1_coder (hb hby d15_12)
 obtain ⟨_, T4, L4, X4, hQ4, st4⟩ := own_cV 0 0 [] 15 #[rv qa1, iv qi2, rv qa3] X3 hx hZ hown E_qa3 (w152_ hw) (w153_ hw) (notFace_of_selects (args := #[]) (mvT hZ (w155_ hw))) (w155_ hw) (w154_ hw) (w22_ hw) (w156_ hw) (rm62 l Z a0 hw G1 qa3 qa4 qi2 qa5 qk6 qk7 qc8 h0 n0 X00 O2 P5 E_qa3 F_qa3_coder F_qa3_value A_qa5 A_qa4 hk5 hk6 hk7 hk8 hk9 g_qa4) pd13 hml.symm (hb hby d15_15) e3 rfl rfl rfl rfl (by decide)
 obtain ⟨rfl, N4q, K4q, w10⟩ := hQ4
 have N4 := Fr.app N1 N4q
 have K11 := (Keep.refl h0 [qa4]).trans K4q (allS (Or.inl (mI 0 rfl)) all0)
 refine own_lvN X4 Bd rfl ⟨rfl, N4, K11, w10⟩ rfl (fun fs hr => pre0 _ (by
  show Sx p e below s₁ m 0 #[rv qa1, iv qi2, rv qa3] [] _
  refine zb X0 Bd d15_0 rfl rfl ?_
  refine zb X0 Bd d15_1 rfl rfl ?_
  refine st1 _ ?_
  refine zb X1 Bd d15_5 rfl rfl ?_
  refine zb X1 Bd d15_6 rfl rfl ?_
  refine st2 _ ?_
  refine zj X2 Bd d15_10 rfl ?_
  refine zb X2 Bd d15_11 rfl rfl ?_
  refine st3 _ ?_
  refine st4 _ ?_
  exact X4.returnOut hx Bd.returns (hb hby d15_18) hr))
-- java/lang/AbstractStringBuilder.append(Ljava/lang/String;)Ljava/lang/AbstractStringBuilder;
def Q64 (Z : State) (qa1 : Addr) (qi5 : Int32) (qa6 : Addr) (qk7 : ClassId) (qc8 : List Int32) (h0 : Heap) (n0 : Nat) : QT := fun v h L => v = some (.ref qa1) ∧ Fr n0 L ∧ Keep h0 h [qa6, qa1] ∧ Fld Z h qa1 AB_ "count" "I" (.int (qi5 + (1 : Int32))) ∧ VA Z h qa1 qa6 ∧ VC Z h qa1 ∧ Exa Z h qa1 SB_ ∧ PA Z h qa6 qk7 .byte (70 : Int32) (qc8 ++ K4_)
theorem rm64 (hw : HW a0 Z) (G1 : Int32) (qa1 : Addr) (qa2 : Addr) (qa3 : Addr) (qk4 : ClassId) (qi5 : Int32) (qa6 : Addr) (qk7 : ClassId) (qc8 : List Int32) (h0 : Heap) (n0 : Nat) (X00 : Old Z n0 h0) (O2 : CO Z G1) (P5 : NZ G1) (E_qa2 : Exa Z h0 qa2 ST_) (F_qa2_coder : SC Z h0 qa2) (F_qa2_value : SV Z h0 qa2 qa3) (hp_qa2 : ∀ c ∈ K4_, ¬ c < 0 ∧ ¬ (255 : Int32) < c) (A_qa3 : Arv Z h0 qa3 qk4 .byte (1 : Int32) [.int 93] (.int 0)) (F_qa1_count : VN Z h0 qa1 qi5) (F_qa1_value : VA Z h0 qa1 qa6) (A_qa6 : PA Z h0 qa6 qk7 .byte (70 : Int32) qc8) (F_qa1_coder : VC Z h0 qa1) (hc5 : ¬ ((0 : Int32) < ((qi5 + (1 : Int32)) - (70 : Int32)))) (E_qa1 : Exa Z h0 qa1 SB_) (hk8 : ((qi5 <<< ((0 : Int32) &&& 31))).toNatClampNeg = (qc8).length) (hk9 : ¬ (qi5 <<< ((0 : Int32) &&& 31)) < 0) (hk10 : ((0 : Int32)).toNatClampNeg + ((1 : Int32)).toNatClampNeg ≤ ((1 : Int32)).toNatClampNeg) (hk11 : ((qi5 <<< ((0 : Int32) &&& 31))).toNatClampNeg + ((1 : Int32)).toNatClampNeg ≤ ((70 : Int32)).toNatClampNeg) (hk12 : (K4_).length ≤ ((1 : Int32)).toNatClampNeg) (g_qa6 : n0 ≤ qa6) (ne_qa1_qa6 : qa1 ≠ qa6) (g_qa1 : n0 ≤ qa1) :
    MF l Z Y16_ jdk_68_method_22_code 3 (some (.object AB_)) (Rm 3 0 0 47) #[.ref qa1, .ref qa2] h0 (Q64 Z qa1 qi5 qa6 qk7 qc8 h0 n0) := by
 refine own_sF pn3 rfl (fun m => ef8 m qa1 qa2) ?_
 intro p e s m below meth c s₁ Bd hZ hh hx hby hml hown hnm X0 e0 pre0
 have N0 := Fr.nil n0
 have hcd2 : StrChars.Road.CodA K4_ 0 (1 : Int32) [.int 93] := StrChars.Road.codOf (n := 1) rfl (fun x hx => (hp_qa2 x hx).2)
 have hbd2 : ∀ x ∈ K4_, ¬ x < 0 ∧ ¬ (65535 : Int32) < x := own_up _ hp_qa2
 obtain ⟨cq1, kq1, q1a, q1b, q1c⟩ := isOf hZ e0 E_qa2
 obtain ⟨_, T1, L1, X1, hQ1, st1⟩ := own_cb0 0 0 0 0 0 0 (X0.virtualBack hx (y := Y17_) (z := Y17_) hown (mvT hZ (w98_ hw)) (mvT hZ (w99_ hw)) (notFace_of_selects (args := #[]) (mvT hZ (w101_ hw))) (mvT hZ (w101_ hw)) (mvT hZ (w100_ hw)) (by decide) (StrChars.Road.lenW (W := 0) hZ (own_wl hw) (kI := 4) (w21_ hw) E_qa2 F_qa2_value F_qa2_coder A_qa3 hcd2 hbd2 (O2.ext X00.2) P5 (lE rfl) (lE rfl) (lE rfl)) q1a q1c (g := (mkF m 10 #[rv qa1, rv qa2, .unset] [.ref qa2])) rfl hml.symm (Steps.refl _) (argsL := []) (rest := []) (lenOf pd7 rfl) rfl (own_hw rfl) (hb hby d8_10) (fun _ _ => ⟨rfl, e0, (lE rfl : 0 + 0 ≤ _), (lE rfl : 0 + 0 ≤ _)⟩)) rfl rfl
 dsimp only [Pt.U, Pt.locs, Pt.cells, Pt.slots] at hQ1
 obtain ⟨rfl, rfl, e1q⟩ := hQ1
 have N1 := Fr.app N0 (Fr.nil n0)
 obtain ⟨T3, X3, e3, st3⟩ := own_gF 16 #[rv qa1, rv qa2, iv 1] [.ref qa1] X1 hx hZ hown (w108_ hw) Via.refl e1q F_qa1_count (hb hby d8_16)
 obtain ⟨_, T4, L4, X4, hQ4, st4⟩ := own_cP 0 0 [] 21 #[rv qa1, rv qa2, iv 1] X3 hx hZ hown E_qa1 (w110_ hw) (w111_ hw) (w113_ hw) (w112_ hw) (w77_ hw) (w114_ hw) (rm35 l Z a0 hw  qa1 (qi5 + (1 : Int32)) qa6 qk7 qc8 h0 n0 X00 F_qa1_value A_qa6 F_qa1_coder hc5) pd5 hml.symm (hb hby d8_21) e3 rfl rfl rfl rfl (by decide)
 obtain ⟨rfl, N4q, e4q⟩ := hQ4
 have N4 := Fr.app N1 N4q
 obtain ⟨T6, X6, e6, st6⟩ := own_gF 26 #[rv qa1, rv qa2, iv 1] [.ref qa1] X4 hx hZ hown (w108_ hw) Via.refl e4q F_qa1_count (hb hby d8_26)
 obtain ⟨_, T7, L7, X7, hQ7, st7⟩ := own_cP 0 0 [] 30 #[rv qa1, rv qa2, iv 1] X6 hx hZ hown E_qa1 (w141_ hw) (w142_ hw) (w144_ hw) (w143_ hw) (w77_ hw) (w145_ hw) (rm63 l Z a0 hw G1 qa1 qi5 qa2 qa6 qa3 qk4 qk7 qc8 h0 n0 X00 O2 P5 F_qa1_coder E_qa2 F_qa2_coder E_qa1 F_qa1_value F_qa2_value A_qa3 A_qa6 hk8 hk9 hk10 hk11 hk12 g_qa6) pd14 hml.symm (hb hby d8_30) e6 rfl rfl rfl rfl (by decide)
 obtain ⟨rfl, N7q, K7q, w13⟩ := hQ7
 have N7 := Fr.app N4 N7q
 have K14 := (Keep.refl h0 [qa6, qa1]).trans K7q (allS (Or.inl (mI 0 rfl)) all0)
 have F16_ := F_qa1_count.keep K7q (ninS ne_qa1_qa6 nin0)
 obtain ⟨T15, X15, e15, st15⟩ := own_gF 35 #[rv qa1, rv qa2, iv 1] [.ref qa1] X7 hx hZ hown (w108_ hw) Via.refl rfl F16_ (hb hby d8_35)
 have E17_ := E_qa1.keep K7q
 obtain ⟨T18, h18, X18, e18, W18, st18⟩ := putF X15 hx hZ hown (host := "") (Or.inl (w108_ hw)) Via.refl e15 F16_ E17_ (Or.inl (w109_ hw)) (w68_ hw) (ty := .int) (by decide) rfl rfl (g := (mkF m 40 #[rv qa1, rv qa2, iv 1] [(.int (qi5 + (1 : Int32))), .ref qa1])) rfl rfl (hb hby d8_40)
 have N18 := Fr.snoc X18 N7 g_qa1
 have K19 := K14.wr W18 (Or.inl (mI 1 rfl))
 have F20_ : Fld Z h18 qa1 AB_ "count" "I" (.int (qi5 + (1 : Int32))) := F16_.same W18
 have F21_ := F_qa1_value.keep K7q (ninS ne_qa1_qa6 nin0)
 have F22_ := F21_.other W18 (Or.inr (slot_ne (Or.inl (w82_ hw)) (Or.inl (w109_ hw)) (by decide) (t := (.array .byte)) (t' := .int) (by decide) (by decide)))
 have F23_ := F_qa1_coder.keep K7q (ninS ne_qa1_qa6 nin0)
 have F24_ := F23_.other W18 (Or.inr (slot_ne (Or.inl (w84_ hw)) (Or.inl (w109_ hw)) (by decide) (t := .byte) (t' := .int) (by decide) (by decide)))
 have E25_ := E17_.wr W18
 have A26_ := w13.other W18 (Ne.symm ne_qa1_qa6)
 refine own_lvF X18 Bd (.ref qa1) e18 ⟨rfl, N18, K19, F20_, F22_, F24_, E25_, A26_⟩ rfl (fun fs hr => pre0 _ (by
  show Sx p e below s₁ m 0 #[rv qa1, rv qa2, .unset] [] _
  refine zb X0 Bd d8_0 rfl rfl ?_
  refine XS.ifnonnullYes X0.here hx rfl (pc0 := 1) (pc' := 9) rfl (hb hby d8_1) rfl (by decide) (by decide) ?_
  refine zb X0 Bd d8_9 rfl rfl ?_
  refine st1.trans ?_
  refine zt X1 Bd d8_13 (l' := #[rv qa1, rv qa2, iv 1]) rfl ?_
  refine zb X1 Bd d8_14 rfl rfl ?_
  refine zb X1 Bd d8_15 rfl rfl ?_
  refine st3 _ ?_
  refine zj X3 Bd d8_19 rfl ?_
  refine XS.iadd X3.here hx rfl (hb hby d8_20) rfl ?_
  refine st4 _ ?_
  refine zb X4 Bd d8_24 rfl rfl ?_
  refine zb X4 Bd d8_25 rfl rfl ?_
  refine st6 _ ?_
  refine zb X6 Bd d8_29 rfl rfl ?_
  refine st7 _ ?_
  refine zb X7 Bd d8_33 rfl rfl ?_
  refine XS.dup X7.here hx rfl (hb hby d8_34) rfl rfl ?_
  refine st15 _ ?_
  refine zj X15 Bd d8_38 rfl ?_
  refine XS.iadd X15.here hx rfl (hb hby d8_39) rfl ?_
  refine st18 _ ?_
  refine zb X18 Bd d8_43 rfl rfl ?_
  exact retOut X18 hx Bd.returns rfl (Or.inr (Or.inr (Or.inr (Or.inr ⟨rfl, rfl, rfl⟩)))) (hb hby d8_44) hr))
-- java/lang/StringBuilder.append(Ljava/lang/String;)Ljava/lang/StringBuilder;
def Q65 (Z : State) (qa1 : Addr) (qi5 : Int32) (qa6 : Addr) (qk7 : ClassId) (qc8 : List Int32) (h0 : Heap) (n0 : Nat) : QT := fun v h L => v = some (.ref qa1) ∧ Fr n0 L ∧ Keep h0 h [qa1, qa6] ∧ Exa Z h qa1 SB_ ∧ Fld Z h qa1 AB_ "count" "I" (.int (qi5 + (1 : Int32))) ∧ VA Z h qa1 qa6 ∧ VC Z h qa1 ∧ PA Z h qa6 qk7 .byte (70 : Int32) (qc8 ++ K4_)
theorem rm65 (hw : HW a0 Z) (G1 : Int32) (qa1 : Addr) (qa2 : Addr) (qa3 : Addr) (qk4 : ClassId) (qi5 : Int32) (qa6 : Addr) (qk7 : ClassId) (qc8 : List Int32) (h0 : Heap) (n0 : Nat) (X00 : Old Z n0 h0) (O2 : CO Z G1) (P5 : NZ G1) (E_qa2 : Exa Z h0 qa2 ST_) (F_qa2_coder : SC Z h0 qa2) (F_qa2_value : SV Z h0 qa2 qa3) (hp_qa2 : ∀ c ∈ K4_, ¬ c < 0 ∧ ¬ (255 : Int32) < c) (A_qa3 : Arv Z h0 qa3 qk4 .byte (1 : Int32) [.int 93] (.int 0)) (F_qa1_count : VN Z h0 qa1 qi5) (F_qa1_value : VA Z h0 qa1 qa6) (A_qa6 : PA Z h0 qa6 qk7 .byte (70 : Int32) qc8) (F_qa1_coder : VC Z h0 qa1) (hc2 : ¬ ((0 : Int32) < ((qi5 + (1 : Int32)) - (70 : Int32)))) (E_qa1 : Exa Z h0 qa1 SB_) (hk3 : ((qi5 <<< ((0 : Int32) &&& 31))).toNatClampNeg = (qc8).length) (hk4 : ¬ (qi5 <<< ((0 : Int32) &&& 31)) < 0) (hk5 : ((0 : Int32)).toNatClampNeg + ((1 : Int32)).toNatClampNeg ≤ ((1 : Int32)).toNatClampNeg) (hk6 : ((qi5 <<< ((0 : Int32) &&& 31))).toNatClampNeg + ((1 : Int32)).toNatClampNeg ≤ ((70 : Int32)).toNatClampNeg) (hk7 : (K4_).length ≤ ((1 : Int32)).toNatClampNeg) (g_qa6 : n0 ≤ qa6) (ne_qa1_qa6 : qa1 ≠ qa6) (g_qa1 : n0 ≤ qa1) :
    MF l Z Y18_ jdk_67_method_7_code 2 (some (.object SB_)) (Rm 4 0 0 61) #[.ref qa1, .ref qa2] h0 (Q65 Z qa1 qi5 qa6 qk7 qc8 h0 n0) := by
 refine own_sF pn2 rfl (fun m => ef7 m qa1 qa2) ?_
 intro p e s m below meth c s₁ Bd hZ hh hx hby hml hown hnm X0 e0 pre0
 have N0 := Fr.nil n0
 obtain ⟨_, T1, L1, X1, hQ1, st1⟩ := own_cU 0 0 [] 2 #[rv qa1, rv qa2] X0 hx hZ hown E_qa1 (w93_ hw) (own_same (w94_ hw) (w113_ hw) rfl (by decide)) (w94_ hw) (w95_ hw) (w77_ hw) (w97_ hw) (rm64 l Z a0 hw G1 qa1 qa2 qa3 qk4 qi5 qa6 qk7 qc8 h0 n0 X00 O2 P5 E_qa2 F_qa2_coder F_qa2_value hp_qa2 A_qa3 F_qa1_count F_qa1_value A_qa6 F_qa1_coder hc2 E_qa1 hk3 hk4 hk5 hk6 hk7 g_qa6 ne_qa1_qa6 g_qa1) pd15 hml.symm (hb hby d7_2) e0 rfl rfl rfl rfl (by decide)
 obtain ⟨rfl, N1q, K1q, w8, w9, w10, w11, w12⟩ := hQ1
 have N1 := Fr.app N0 N1q
 have K13 := (Keep.refl h0 [qa1, qa6]).trans K1q (allS (Or.inl (mI 1 rfl)) (allS (Or.inl (mI 0 rfl)) all0))
 have E14_ := E_qa1.keep K1q
 refine own_lvF X1 Bd (.ref qa1) rfl ⟨rfl, N1, K13, E14_, w8, w9, w10, w12⟩ rfl (fun fs hr => pre0 _ (by
  show Sx p e below s₁ m 0 #[rv qa1, rv qa2] [] _
  refine zb X0 Bd d7_0 rfl rfl ?_
  refine zb X0 Bd d7_1 rfl rfl ?_
  refine st1 _ ?_
  refine XS.pop X1.here hx rfl (hb hby d7_5) rfl rfl ?_
  refine zb X1 Bd d7_6 rfl rfl ?_
  exact retOut X1 hx Bd.returns rfl (Or.inr (Or.inr (Or.inr (Or.inr ⟨rfl, rfl, rfl⟩)))) (hb hby d7_7) hr))
theorem d30_17 : D C31_ 17 (.aload_n 0) 1 := by decide +kernel
theorem d30_18 : D C31_ 18 (.invokevirtual 310) 3 := by decide +kernel
theorem d30_21 : D C31_ 21 (.checkcast 311) 3 := by decide +kernel
theorem d30_24 : D C31_ 24 .areturn 1 := by decide +kernel
-- java/util/Arrays.copyOfRange([BII)[B
def Q66 (Z : State) (qk3 : ClassId) (qc4 : List Int32) (h0 : Heap) (n0 : Nat) : QT := fun v h L => ∃ b3 : Addr, v = some (.ref b3) ∧ Fr n0 L ∧ Keep h0 h [] ∧ h0.size ≤ b3 ∧ Exa Z h b3 "[B" ∧ PA Z h b3 qk3 .byte (70 : Int32) qc4
theorem rm66 (hw : HW a0 Z) (qa1 : Addr) (qi2 : Int32) (qk3 : ClassId) (qc4 : List Int32) (h0 : Heap) (n0 : Nat) (X00 : Old Z n0 h0) (A_qa1 : PA Z h0 qa1 qk3 .byte (70 : Int32) qc4) (hc2 : qi2 = (70 : Int32)) (E_qa1 : Exa Z h0 qa1 "[B") :
    MF l Z Y29_ jdk_65_method_132_code 3 (some (.array .byte)) (Rm 1 1 70 14) #[.ref qa1, .int 0, .int qi2] h0 (Q66 Z qk3 qc4 h0 n0) := by
 refine own_sF pn5 rfl (fun m => ef19 m qa1 (0 : Int32) qi2) ?_
 intro p e s m below meth c s₁ Bd hZ hh hx hby hml hown hnm X0 e0 pre0
 have N0 := Fr.nil n0
 have av1 := A_qa1
 obtain ⟨cl1, Ar1, q1, S1, N1, H1, Gf1⟩ := av1
 obtain ⟨T3, h3, X3, e3, E3, A3, Ex3, st3⟩ := cloneH X0 hx hZ hown (w229_ hw) (w230_ hw) (w234_ hw) (w232_ hw) (w233_ hw) (w235_ hw) e0 (Arv.arh A_qa1) E_qa1 (g := (mkF m 18 #[rv qa1, iv 0, iv qi2] [.ref qa1])) rfl hml.symm rfl (hb hby d30_18) (by decide) (W := 0) (cap := 70) (own_hw rfl) (by decide) (by decide) (by decide) (by decide)
 obtain ⟨b3, g3⟩ : ∃ z, z = h0.size := ⟨_, rfl⟩
 rw [← g3] at A3 Ex3 st3
 replace X3 : Stand p l e (Rm 1 1 70 14) s m #[.ref qa1, .int 0, .int qi2] below meth c T3 _ 1 70 := X3
 have K4 := (Keep.refl h0 []).ext E3
 have A5_ : PA Z h3 b3 qk3 .byte (70 : Int32) qc4 := A3
 obtain ⟨T6, X6, e6, st6⟩ := castY X3 hx hZ hown (w236_ hw) e3 (Ins.self Ex3) (g := (mkF m 21 #[rv qa1, iv 0, iv qi2] [.ref b3])) rfl rfl (hb hby d30_21)
 have sz_b3 : h0.size ≤ b3 := (Nat.le_of_eq g3.symm)
 refine own_lvF X6 Bd (.ref b3) e6 ⟨b3, rfl, N0, K4, sz_b3, Ex3, A5_⟩ rfl (fun fs hr => pre0 _ (by
  show Sx p e below s₁ m 0 #[rv qa1, iv 0, iv qi2] [] _
  refine zj X0 Bd d30_0 rfl ?_
  refine zo X0 Bd d30_1 (XT.i0_ne_f ((by decide) : (0 : Int32) = (0 : Int32))) ?_
  refine zj X0 Bd d30_4 rfl ?_
  refine zb X0 Bd d30_5 rfl rfl ?_
  refine X0.arraylength hx (by rw [e0]; exact Ar1.1) (State.isArrayOf_alike hZ.alike Ar1.2.1) (g := (mkF m 6 #[rv qa1, iv 0, iv qi2] [.ref qa1, .int qi2])) rfl rfl (hb hby d30_6) _ ?_
  rw [len_of S1 N1]
  refine zy (pc' := 17) X0 Bd d30_7 (XT.ii_eq_t (hc2 : qi2 = (70 : Int32))) rfl ?_
  refine zb X0 Bd d30_17 rfl rfl ?_
  refine st3 _ ?_
  refine st6 _ ?_
  exact retOut X6 hx Bd.returns rfl (Or.inr (Or.inr (Or.inr (Or.inr ⟨rfl, rfl, rfl⟩)))) (hb hby d30_24) hr))
-- java/lang/String.<init>(Ljava/lang/AbstractStringBuilder;Ljava/lang/Void;)V
def Q67 (Z : State) (qa1 : Addr) (qk5 : ClassId) (qc6 : List Int32) (h0 : Heap) (n0 : Nat) : QT := fun v h L => ∃ b13 : Addr, v = none ∧ Fr n0 L ∧ Keep h0 h [qa1] ∧ h0.size ≤ b13 ∧ Exa Z h qa1 ST_ ∧ SC Z h qa1 ∧ SV Z h qa1 b13 ∧ Exa Z h b13 "[B" ∧ PA Z h b13 qk5 .byte (70 : Int32) qc6
theorem rm67 (hw : HW a0 Z) (G1 : Int32) (qa1 : Addr) (qa2 : Addr) (qa3 : Addr) (qi4 : Int32) (qk5 : ClassId) (qc6 : List Int32) (h0 : Heap) (n0 : Nat) (X00 : Old Z n0 h0) (O2 : CO Z G1) (P5 : NZ G1) (E_qa2 : Exa Z h0 qa2 SB_) (F_qa2_value : VA Z h0 qa2 qa3) (F_qa2_count : VN Z h0 qa2 qi4) (F_qa2_coder : VC Z h0 qa2) (E_qa1 : Exa Z h0 qa1 ST_) (F_qa1_coder : SC Z h0 qa1) (g_qa1 : n0 ≤ qa1) (A_qa3 : PA Z h0 qa3 qk5 .byte (70 : Int32) qc6) (ne_qa3_qa1 : qa3 ≠ qa1) (hc10 : qi4 = (70 : Int32)) (E_qa3 : Exa Z h0 qa3 "[B") (F_qa1_value : Fld Z h0 qa1 ST_ "value" "[B" .null) :
    MF l Z Y30_ jdk_42_method_150_code 5 none (Rm 2 1 70 29) #[.ref qa1, .ref qa2, .null] h0 (Q67 Z qa1 qk5 qc6 h0 n0) := by
 refine own_sF pn6 rfl (fun m => ef18 m qa1 qa2) ?_
 intro p e s m below meth c s₁ Bd hZ hh hx hby hml hown hnm X0 e0 pre0
 have N0 := Fr.nil n0
 obtain ⟨T1, X1, e1, st1⟩ := initO X0 hx hZ hown (w30_ hw) (w31_ hw) (w32_ hw) e0 (g := (mkF m 1 #[rv qa1, rv qa2, .val .null, .unset, .unset] [.ref qa1])) rfl hml.symm rfl (hb hby d26_1) (by decide) (W := 0) (own_hw rfl) (lE rfl)
 obtain ⟨_, T2, L2, X2, hQ2, st2⟩ := own_cV 0 0 [] 5 #[rv qa1, rv qa2, .val .null, .unset, .unset] X1 hx hZ hown E_qa2 (w195_ hw) (w196_ hw) (notFace_of_selects (args := #[]) (mvT hZ (w198_ hw))) (w198_ hw) (w197_ hw) (w77_ hw) (w199_ hw) (rm52 l Z a0 hw  qa2 qa3 h0 n0 X00 F_qa2_value) pd21 hml.symm (hb hby d26_5) e1 rfl rfl rfl rfl (by decide)
 obtain ⟨rfl, N2q, e2q⟩ := hQ2
 have N2 := Fr.app N0 N2q
 obtain ⟨_, T3, L3, X3, hQ3, st3⟩ := own_cV 0 0 [] 10 #[rv qa1, rv qa2, .val .null, rv qa3, .unset] X2 hx hZ hown E_qa2 (w200_ hw) (w201_ hw) (own_nf (mvT (args := #[]) hZ (w113_ hw)) rfl) (w203_ hw) (w204_ hw) (w69_ hw) (w205_ hw) (rm54 l Z a0 hw  qa2 qi4 h0 n0 X00 F_qa2_count E_qa2) pd7 hml.symm (hb hby d26_10) e2q rfl rfl rfl rfl (by decide)
 obtain ⟨rfl, N3q, e3q⟩ := hQ3
 have N3 := Fr.app N2 N3q
 obtain ⟨_, T4, L4, X4, hQ4, st4⟩ := own_cV 0 0 [] 16 #[rv qa1, rv qa2, .val .null, rv qa3, iv qi4] X3 hx hZ hown E_qa2 (w208_ hw) (w172_ hw) (notFace_of_selects (args := #[]) (mvT hZ (w174_ hw))) (w174_ hw) (w173_ hw) (w77_ hw) (w175_ hw) (rm21 l Z a0 hw G1 qa2 h0 n0 X00 O2 P5 F_qa2_coder) pd17 hml.symm (hb hby d26_16) e3q rfl rfl rfl rfl (by decide)
 obtain ⟨rfl, N4q, e4q⟩ := hQ4
 have N4 := Fr.app N3 N4q
 obtain ⟨T5, h5, X5, e5, W5, st5⟩ := putF X4 hx hZ hown (host := "") (Or.inl (w45_ hw)) Via.refl e4q F_qa1_coder E_qa1 (Or.inr ⟨(w46_ hw), rfl, hnm⟩) (w21_ hw) (ty := .byte) (by decide) rfl rfl (g := (mkF m 24 #[rv qa1, rv qa2, .val .null, rv qa3, iv qi4] [.int 0, .ref qa1])) rfl rfl (hb hby d26_24)
 have N5 := Fr.snoc X5 N4 g_qa1
 have K6 := (Keep.refl h0 [qa1]).wr W5 (Or.inl (mI 0 rfl))
 have F7_ : SC Z h5 qa1 := F_qa1_coder.same W5
 have A9_ := A_qa3.other W5 ne_qa3_qa1
 have E11_ := E_qa3.wr W5
 have O12 := X00.wr W5 g_qa1
 obtain ⟨_, T8, L8, X8, hQ8, st8⟩ := own_cS 1 70 [.ref qa1] 32 #[rv qa1, rv qa2, .val .null, rv qa3, iv qi4] X5 hx hZ hown (w209_ hw) (w210_ hw) (w132_ hw) (w211_ hw) (rm66 l Z a0 hw  qa3 qi4 qk5 qc6 h5 n0 O12 A9_ hc10 E11_) pd23 hml.symm (hb hby d26_32) e5 rfl rfl rfl rfl (by decide)
 obtain ⟨b13, rfl, N8q, K8q, w14, w15, w16⟩ := hQ8
 have N8 := Fr.app N5 N8q
 have K17 := K6.trans K8q (fun x q => nomatch q)
 have F18_ := F_qa1_value.other W5 (Or.inr (slot_ne (Or.inr (w48_ hw)) (Or.inr (w46_ hw)) (by decide) (t := (.array .byte)) (t' := .byte) (by decide) (by decide)))
 have F19_ := F18_.keep K8q nin0
 have E20_ := E_qa1.wr W5
 have E21_ := E20_.keep K8q
 obtain ⟨T22, h22, X22, e22, W22, st22⟩ := putF X8 hx hZ hown (host := "") (Or.inl (w47_ hw)) Via.refl rfl F19_ E21_ (Or.inr ⟨(w48_ hw), rfl, hnm⟩) (w21_ hw) (ty := (.array .byte)) (by decide) rfl rfl (g := (mkF m 35 #[rv qa1, rv qa2, .val .null, rv qa3, iv qi4] [.ref b13, .ref qa1])) rfl rfl (hb hby d26_35)
 have N22 := Fr.snoc X22 N8 g_qa1
 have K23 := K17.wr W22 (Or.inl (mI 0 rfl))
 have F24_ : SV Z h22 qa1 b13 := F19_.same W22
 have sz_b13 : h0.size ≤ b13 := Nat.le_trans K6.1 w14
 have E25_ := E21_.wr W22
 have F26_ := F7_.keep K8q nin0
 have F27_ := F26_.other W22 (Or.inr (slot_ne (Or.inr (w46_ hw)) (Or.inr (w48_ hw)) (by decide) (t := .byte) (t' := (.array .byte)) (by decide) (by decide)))
 have E28_ := w15.wr W22
 have nx29 : qa1 ≠ b13 := (Nat.ne_of_lt (Nat.lt_of_lt_of_le (Nat.lt_of_lt_of_le E_qa1.lt (Nat.le_of_eq W5.size.symm)) w14))
 have A30_ := w16.other W22 (Ne.symm nx29)
 refine own_lvN X22 Bd e22 ⟨b13, rfl, N22, K23, sz_b13, E25_, F27_, F24_, E28_, A30_⟩ rfl (fun fs hr => pre0 _ (by
  show Sx p e below s₁ m 0 #[rv qa1, rv qa2, .val .null, .unset, .unset] [] _
  refine zb X0 Bd d26_0 rfl rfl ?_
  refine st1 _ ?_
  refine zb X1 Bd d26_4 rfl rfl ?_
  refine st2 _ ?_
  refine XS.astoreN X2.here hx rfl (hb hby d26_8) rfl rfl (l' := #[rv qa1, rv qa2, .val .null, rv qa3, .unset]) rfl ?_
  refine zb X2 Bd d26_9 rfl rfl ?_
  refine st3 _ ?_
  refine zs X3 Bd d26_13 (l' := #[rv qa1, rv qa2, .val .null, rv qa3, iv qi4]) rfl ?_
  refine zb X3 Bd d26_15 rfl rfl ?_
  refine st4 _ ?_
  refine zo X4 Bd d26_19 (XT.i0_eq_f ((by decide) : ¬ ((1 : Int32) = (0 : Int32)))) ?_
  refine zb X4 Bd d26_22 rfl rfl ?_
  refine zc X4 Bd d26_23 ?_
  refine st5 _ ?_
  refine zb X5 Bd d26_27 rfl rfl ?_
  refine zb X5 Bd d26_28 rfl rfl ?_
  refine zc X5 Bd d26_29 ?_
  refine zi X5 Bd d26_30 rfl ?_
  refine st8 _ ?_
  refine st22 _ ?_
  refine zg (pc' := 97) X22 Bd d26_38 rfl ?_
  exact X22.returnOut hx Bd.returns (hb hby d26_97) hr))
-- java/lang/String.<init>(Ljava/lang/StringBuilder;)V
def Q68 (Z : State) (qa1 : Addr) (qk5 : ClassId) (qc6 : List Int32) (h0 : Heap) (n0 : Nat) : QT := fun v h L => ∃ b3 : Addr, v = none ∧ Fr n0 L ∧ Keep h0 h [qa1] ∧ h0.size ≤ b3 ∧ Exa Z h qa1 ST_ ∧ SC Z h qa1 ∧ SV Z h qa1 b3 ∧ Exa Z h b3 "[B" ∧ PA Z h b3 qk5 .byte (70 : Int32) qc6
theorem rm68 (hw : HW a0 Z) (G1 : Int32) (qa1 : Addr) (qa2 : Addr) (qa3 : Addr) (qi4 : Int32) (qk5 : ClassId) (qc6 : List Int32) (h0 : Heap) (n0 : Nat) (X00 : Old Z n0 h0) (O2 : CO Z G1) (P5 : NZ G1) (E_qa2 : Exa Z h0 qa2 SB_) (F_qa2_value : VA Z h0 qa2 qa3) (F_qa2_count : VN Z h0 qa2 qi4) (F_qa2_coder : VC Z h0 qa2) (E_qa1 : Exa Z h0 qa1 ST_) (F_qa1_coder : SC Z h0 qa1) (g_qa1 : n0 ≤ qa1) (A_qa3 : PA Z h0 qa3 qk5 .byte (70 : Int32) qc6) (ne_qa3_qa1 : qa3 ≠ qa1) (hc2 : qi4 = (70 : Int32)) (E_qa3 : Exa Z h0 qa3 "[B") (F_qa1_value : Fld Z h0 qa1 ST_ "value" "[B" .null) :
    MF l Z Y31_ jdk_42_method_53_code 2 none (Rm 3 1 70 45) #[.ref qa1, .ref qa2] h0 (Q68 Z qa1 qk5 qc6 h0 n0) := by
 refine own_sF pn6 rfl (fun m => ef7 m qa1 qa2) ?_
 intro p e s m below meth c s₁ Bd hZ hh hx hby hml hown hnm X0 e0 pre0
 have N0 := Fr.nil n0
 obtain ⟨_, T1, L1, X1, hQ1, st1⟩ := own_cI 1 70 [] 3 #[rv qa1, rv qa2] X0 hx hZ hown (w192_ hw) (w193_ hw) (w22_ hw) (w194_ hw) (rm67 l Z a0 hw G1 qa1 qa2 qa3 qi4 qk5 qc6 h0 n0 X00 O2 P5 E_qa2 F_qa2_value F_qa2_count F_qa2_coder E_qa1 F_qa1_coder g_qa1 A_qa3 ne_qa3_qa1 hc2 E_qa3 F_qa1_value) pd24 hml.symm (hb hby d25_3) e0 rfl rfl rfl rfl rfl (by decide)
 obtain ⟨b3, rfl, N1q, K1q, w4, w5, w6, w7, w8, w9⟩ := hQ1
 have N1 := Fr.app N0 N1q
 have K10 := (Keep.refl h0 [qa1]).trans K1q (allS (Or.inl (mI 0 rfl)) all0)
 have sz_b3 : h0.size ≤ b3 := w4
 have E11_ := E_qa1.keep K1q
 refine own_lvN X1 Bd rfl ⟨b3, rfl, N1, K10, sz_b3, E11_, w6, w7, w8, w9⟩ rfl (fun fs hr => pre0 _ (by
  show Sx p e below s₁ m 0 #[rv qa1, rv qa2] [] _
  refine zb X0 Bd d25_0 rfl rfl ?_
  refine zb X0 Bd d25_1 rfl rfl ?_
  refine XS.aconstNull X0.here hx rfl (hb hby d25_2) ?_
  refine st1 _ ?_
  exact X1.returnOut hx Bd.returns (hb hby d25_6) hr))
-- java/lang/StringBuilder.toString()Ljava/lang/String;
def Q69 (Z : State) (qk4 : ClassId) (qc5 : List Int32) (h0 : Heap) (n0 : Nat) : QT := fun v h L => ∃ b1 : Addr, ∃ b15 : Addr, v = some (.ref b1) ∧ Fr n0 L ∧ Keep h0 h [] ∧ h0.size ≤ b1 ∧ h0.size ≤ b15 ∧ b1 ≠ b15 ∧ Exa Z h b1 ST_ ∧ SC Z h b1 ∧ SV Z h b1 b15 ∧ Exa Z h b15 "[B" ∧ PA Z h b15 qk4 .byte (70 : Int32) qc5
theorem rm69 (hw : HW a0 Z) (G1 : Int32) (qa1 : Addr) (qa2 : Addr) (qi3 : Int32) (qk4 : ClassId) (qc5 : List Int32) (h0 : Heap) (n0 : Nat) (X00 : Old Z n0 h0) (O2 : CO Z G1) (P5 : NZ G1) (E_qa1 : Exa Z h0 qa1 SB_) (F_qa1_value : VA Z h0 qa1 qa2) (F_qa1_count : VN Z h0 qa1 qi3) (F_qa1_coder : VC Z h0 qa1) (A_qa2 : PA Z h0 qa2 qk4 .byte (70 : Int32) qc5) (hc12 : qi3 = (70 : Int32)) (E_qa2 : Exa Z h0 qa2 "[B") :
    MF l Z Y32_ jdk_67_method_42_code 1 (some (.object ST_)) (Rm 4 2 74 59) #[.ref qa1] h0 (Q69 Z qk4 qc5 h0 n0) := by
 refine own_sF pn2 rfl (fun m => ef5 m qa1) ?_
 intro p e s m below meth c s₁ Bd hZ hh hx hby hml hown hnm X0 e0 pre0
 have N0 := Fr.nil n0
 obtain ⟨T1, h1, X1, e1, E1, A1, D1, -, st1⟩ := newO X0 hx hZ hown (w188_ hw) (w21_ hw) (w22_ hw) e0 (g := (mkF m 0 #[rv qa1] [])) rfl (hb hby d24_0) (lE rfl) (lE rfl)
 obtain ⟨b1, g1⟩ : ∃ z, z = h0.size := ⟨_, rfl⟩
 rw [← g1] at A1 D1 st1
 replace X1 : Stand p l e (Rm 4 2 74 59) s m #[.ref qa1] below meth c T1 _ 1 4 := X1
 have K2 := (Keep.refl h0 []).ext E1
 have F3_ : SC Z h1 b1 := D1 (Or.inr (w46_ hw)) (ty := .byte) (by decide)
 have F4_ : Fld Z h1 b1 ST_ "value" "[B" .null := D1 (Or.inr (w48_ hw)) (ty := (.array .byte)) (by decide)
 have E6_ := E_qa1.ext E1
 have F7_ := F_qa1_value.ext E1
 have F8_ := F_qa1_count.ext E1
 have F9_ := F_qa1_coder.ext E1
 have g_b1 : n0 ≤ b1 := Nat.le_trans (Nat.le_trans (Nat.le_of_eq X00.1.symm) X00.2.1) (Nat.le_of_eq g1.symm)
 have A10_ := A_qa2.ext E1
 have nx11 : qa2 ≠ b1 := (Nat.ne_of_lt (Nat.lt_of_lt_of_le A_qa2.lt (Nat.le_of_eq g1.symm)))
 have E13_ := E_qa2.ext E1
 have O14 := X00.ext E1
 obtain ⟨_, T5, L5, X5, hQ5, st5⟩ := own_cI 2 74 [.ref b1] 5 #[rv qa1] X1 hx hZ hown (w189_ hw) (w190_ hw) (w22_ hw) (w191_ hw) (rm68 l Z a0 hw G1 b1 qa1 qa2 qi3 qk4 qc5 h1 n0 O14 O2 P5 E6_ F7_ F8_ F9_ A1 F3_ g_b1 A10_ nx11 hc12 E13_ F4_) pd25 hml.symm (hb hby d24_5) e1 rfl rfl rfl rfl rfl (by decide)
 obtain ⟨b15, rfl, N5q, K5q, w16, w17, w18, w19, w20, w21⟩ := hQ5
 have N5 := Fr.app N0 N5q
 have sz_b1 : h0.size ≤ b1 := (Nat.le_of_eq g1.symm)
 have K22 := K2.trans K5q (allS (Or.inr sz_b1) all0)
 have sz_b15 : h0.size ≤ b15 := Nat.le_trans K2.1 w16
 have nx23 : b1 ≠ b15 := (Nat.ne_of_lt (Nat.lt_of_lt_of_le A1.lt w16))
 have E24_ := A1.keep K5q
 refine own_lvF X5 Bd (.ref b1) rfl ⟨b1, b15, rfl, N5, K22, sz_b1, sz_b15, nx23, E24_, w18, w19, w20, w21⟩ rfl (fun fs hr => pre0 _ (by
  show Sx p e below s₁ m 0 #[rv qa1] [] _
  refine st1 _ ?_
  refine XS.dup X1.here hx rfl (hb hby d24_3) rfl rfl ?_
  refine zb X1 Bd d24_4 rfl rfl ?_
  refine st5 _ ?_
  exact retOut X5 hx Bd.returns rfl (Or.inr (Or.inr (Or.inr (Or.inr ⟨rfl, rfl, rfl⟩)))) (hb hby d24_8) hr))
-- java/lang/Math.min(II)I
def Q70 (Z : State) (qi1 : Int32) (h0 : Heap) (n0 : Nat) : QT := fun v h L => v = some (.int qi1) ∧ Fr n0 L ∧ h = h0
theorem rm70 (hw : HW a0 Z) (qi1 : Int32) (h0 : Heap) (n0 : Nat) (X00 : Old Z n0 h0) (hc1 : qi1 < (70 : Int32)) :
    MF l Z Y9_ jdk_29_method_69_code 2 (some .int) (Rm 0 0 0 0) #[.int 70, .int qi1] h0 (Q70 Z qi1 h0 n0) := by
 refine own_sFm (K := "java/lang/Math") (by decide +kernel) rfl (fun m => ef12 m (70 : Int32) qi1) ?_
 intro p e s m below meth c s₁ Bd hZ hh hx hby hml hown hnm X0 e0 pre0
 have N0 := Fr.nil n0
 refine own_lvF X0 Bd (.int qi1) e0 ⟨rfl, N0, rfl⟩ rfl (fun fs hr => pre0 _ (by
  show Sx p e below s₁ m 0 #[iv 70, iv qi1] [] _
  refine zj X0 Bd d14_0 rfl ?_
  refine zj X0 Bd d14_1 rfl ?_
  refine zy (pc' := 9) X0 Bd d14_2 (XT.ii_gt_t (hc1 : qi1 < (70 : Int32))) rfl ?_
  refine zj X0 Bd d14_9 rfl ?_
  exact retI X0 hx Bd.returns (hb hby d14_10) hr))
-- java/util/Arrays.copyOfRangeByte([BII)[B
def Q71 (Z : State) (qi2 : Int32) (qc4 : List Int32) (h0 : Heap) (n0 : Nat) : QT := fun v h L => ∃ b3 : Addr, ∃ c3 : ClassId, v = some (.ref b3) ∧ Fr n0 L ∧ Keep h0 h [] ∧ h0.size ≤ b3 ∧ Exa Z h b3 "[B" ∧ PA Z h b3 c3 .byte (qi2 - (0 : Int32)) qc4
theorem rm71 (hw : HW a0 Z) (qa1 : Addr) (qi2 : Int32) (qk3 : ClassId) (qc4 : List Int32) (h0 : Heap) (n0 : Nat) (X00 : Old Z n0 h0) (hc2 : ¬ (qi2 < (0 : Int32))) (hk4 : ¬ (qi2 - (0 : Int32)) < 0) (hk5 : ((qi2 - (0 : Int32))).toNatClampNeg ≤ 71) (A_qa1 : PA Z h0 qa1 qk3 .byte (70 : Int32) qc4) (hc11 : (qi2 - (0 : Int32)) < (70 : Int32)) (hk14 : ((0 : Int32)).toNatClampNeg = (([] : List Int32)).length) (hk15 : ((0 : Int32)).toNatClampNeg + ((qi2 - (0 : Int32))).toNatClampNeg ≤ ((70 : Int32)).toNatClampNeg) (hk16 : ((0 : Int32)).toNatClampNeg + ((qi2 - (0 : Int32))).toNatClampNeg ≤ ((qi2 - (0 : Int32))).toNatClampNeg) (hk17 : (qc4).length ≤ ((qi2 - (0 : Int32))).toNatClampNeg) :
    MF l Z Y28_ jdk_65_method_133_code 5 (some (.array .byte)) (Rm 1 1 71 18) #[.ref qa1, .int 0, .int qi2] h0 (Q71 Z qi2 qc4 h0 n0) := by
 refine own_sF pn5 rfl (fun m => ef20 m qa1 (0 : Int32) qi2) ?_
 intro p e s m below meth c s₁ Bd hZ hh hx hby hml hown hnm X0 e0 pre0
 have N0 := Fr.nil n0
 obtain ⟨_, T1, L1, X1, hQ1, st1⟩ := own_cS 0 0 [] 2 #[rv qa1, iv 0, iv qi2, .unset, .unset] X0 hx hZ hown (w215_ hw) (w216_ hw) (w132_ hw) (w217_ hw) (rm55 l Z a0 hw  qi2 h0 n0 X00 hc2) pd22 hml.symm (hb hby d31_2) e0 rfl rfl rfl rfl (by decide)
 obtain ⟨rfl, N1q, e1q⟩ := hQ1
 have N1 := Fr.app N0 N1q
 obtain ⟨T3, h3, c3, X3, e3, E3, A3, Ex3, st3⟩ := own_newPE X1 hx hZ (w38_ hw) e1q (g := (mkF m 10 #[rv qa1, iv 0, iv qi2, iv (qi2 - (0 : Int32)), .unset] [(.int (qi2 - (0 : Int32)))])) rfl (hb hby d31_10) rfl hk4 (cap := 71) hk5 (lE rfl) (lE rfl) (lE rfl)
 obtain ⟨b3, g3⟩ : ∃ z, z = h0.size := ⟨_, rfl⟩
 rw [← g3] at A3 st3 Ex3
 replace X3 : Stand p l e (Rm 1 1 71 18) s m #[.ref qa1, .int 0, .int qi2] below meth c T3 _ 1 71 := X3
 have K6 := (Keep.refl h0 []).ext E3
 have A7_ : PA Z h3 b3 c3 .byte (qi2 - (0 : Int32)) ([] : List Int32) := Arv.new A3 hk4
 have A9_ := A_qa1.ext E3
 have av8 := A9_
 obtain ⟨cl8, Ar8, q8, S8, N8, H8, Gf8⟩ := av8
 have O12 := X00.ext E3
 obtain ⟨_, T10, L10, X10, hQ10, st10⟩ := own_cS 1 71 [.int 0, .ref b3, .int 0, .ref qa1] 24 #[rv qa1, iv 0, iv qi2, iv (qi2 - (0 : Int32)), rv b3] X3 hx hZ hown (w134_ hw) (w135_ hw) (w126_ hw) (w136_ hw) (rm70 l Z a0 hw  (qi2 - (0 : Int32)) h3 n0 O12 hc11) pd8 hml.symm (hb hby d31_24) e3 rfl rfl rfl rfl (by decide)
 obtain ⟨rfl, N10q, e10q⟩ := hQ10
 have N10 := Fr.app N1 N10q
 have Ad13 := (A7_).pad (own_repl ((qi2 - (0 : Int32))).toNatClampNeg ([] : List Int32))
 have g_b3 : n0 ≤ b3 := Nat.le_trans (Nat.le_trans (Nat.le_of_eq X00.1.symm) X00.2.1) (Nat.le_of_eq g3.symm)
 obtain ⟨T13, h13, L13, X13, e13, N13, K13q, A13, st13⟩ := cpA X10 hx hZ hown (w137_ hw) (w140_ hw) (w138_ hw) (w139_ hw) e10q (vs := qc4.map Value.int) (vd := (([] : List Int32) ++ List.replicate ((qi2 - (0 : Int32))).toNatClampNeg 0).map Value.int) A9_ Ad13 (Or.inl ⟨rfl, rfl⟩) (by decide) (by decide) hk4 hk15 hk16 rfl (by rw [List.length_map, List.length_append, List.length_replicate, hk14]; exact Nat.le_refl _) N10 g_b3 (g := (mkF m 27 #[rv qa1, iv 0, iv qi2, iv (qi2 - (0 : Int32)), rv b3] [(.int (qi2 - (0 : Int32))), .int 0, .ref b3, .int 0, .ref qa1])) rfl hml.symm rfl (hb hby d31_27) (by decide) (W := 0) (own_hw rfl) (by decide)
 have sz_b3 : h0.size ≤ b3 := (Nat.le_of_eq g3.symm)
 have K18 := K6.trans K13q (allS (Or.inr sz_b3) all0)
 have A19_ : PA Z h13 b3 c3 .byte (qi2 - (0 : Int32)) qc4 := A13.pad (own_cpl (S := qc4) (D := ([] : List Int32)) hk14 hk17)
 have E20_ := Ex3.keep K13q
 refine own_lvF X13 Bd (.ref b3) e13 ⟨b3, c3, rfl, N13, K18, sz_b3, E20_, A19_⟩ rfl (fun fs hr => pre0 _ (by
  show Sx p e below s₁ m 0 #[rv qa1, iv 0, iv qi2, .unset, .unset] [] _
  refine zj X0 Bd d31_0 rfl ?_
  refine zj X0 Bd d31_1 rfl ?_
  refine st1 _ ?_
  refine zj X1 Bd d31_5 rfl ?_
  refine zj X1 Bd d31_6 rfl ?_
  refine XS.isub X1.here hx rfl (hb hby d31_7) rfl ?_
  refine zt X1 Bd d31_8 (l' := #[rv qa1, iv 0, iv qi2, iv (qi2 - (0 : Int32)), .unset]) rfl ?_
  refine zj X1 Bd d31_9 rfl ?_
  refine st3 _ ?_
  refine XS.astore X3.here hx rfl (hb hby d31_12) rfl rfl (l' := #[rv qa1, iv 0, iv qi2, iv (qi2 - (0 : Int32)), rv b3]) rfl ?_
  refine zb X3 Bd d31_14 rfl rfl ?_
  refine zj X3 Bd d31_15 rfl ?_
  refine za X3 Bd d31_16 rfl rfl ?_
  refine zc X3 Bd d31_18 ?_
  refine zb X3 Bd d31_19 rfl rfl ?_
  refine X3.arraylength hx (by rw [e3]; exact Ar8.1) (State.isArrayOf_alike hZ.alike Ar8.2.1) (g := (mkF m 20 #[rv qa1, iv 0, iv qi2, iv (qi2 - (0 : Int32)), rv b3] [.ref qa1, .int 0, .ref b3, .int 0, .ref qa1])) rfl rfl (hb hby d31_20) _ ?_
  rw [len_of S8 N8]
  refine zj X3 Bd d31_21 rfl ?_
  refine XS.isub X3.here hx rfl (hb hby d31_22) rfl ?_
  refine zj X3 Bd d31_23 rfl ?_
  refine st10 _ ?_
  refine st13 _ ?_
  refine za X13 Bd d31_30 rfl rfl ?_
  exact retOut X13 hx Bd.returns rfl (Or.inr (Or.inr (Or.inr (Or.inr ⟨rfl, rfl, rfl⟩)))) (hb hby d31_32) hr))
-- java/util/Arrays.copyOfRange([BII)[B
def Q72 (Z : State) (qi2 : Int32) (qc4 : List Int32) (h0 : Heap) (n0 : Nat) : QT := fun v h L => ∃ b12 : Addr, ∃ c13_ : ClassId, v = some (.ref b12) ∧ Fr n0 L ∧ Keep h0 h [] ∧ h0.size ≤ b12 ∧ Exa Z h b12 "[B" ∧ PA Z h b12 c13_ .byte (qi2 - (0 : Int32)) qc4
theorem rm72 (hw : HW a0 Z) (qa1 : Addr) (qi2 : Int32) (qk3 : ClassId) (qc4 : List Int32) (h0 : Heap) (n0 : Nat) (X00 : Old Z n0 h0) (A_qa1 : PA Z h0 qa1 qk3 .byte (70 : Int32) qc4) (hc2 : ¬ (qi2 = (70 : Int32))) (hc4 : ¬ (qi2 < (0 : Int32))) (hk5 : ¬ (qi2 - (0 : Int32)) < 0) (hk6 : ((qi2 - (0 : Int32))).toNatClampNeg ≤ 71) (hc7 : (qi2 - (0 : Int32)) < (70 : Int32)) (hk8 : ((0 : Int32)).toNatClampNeg = (([] : List Int32)).length) (hk9 : ((0 : Int32)).toNatClampNeg + ((qi2 - (0 : Int32))).toNatClampNeg ≤ ((70 : Int32)).toNatClampNeg) (hk10 : ((0 : Int32)).toNatClampNeg + ((qi2 - (0 : Int32))).toNatClampNeg ≤ ((qi2 - (0 : Int32))).toNatClampNeg) (hk11 : (qc4).length ≤ ((qi2 - (0 : Int32))).toNatClampNeg) :
    MF l Z Y29_ jdk_65_method_132_code 3 (some (.array .byte)) (Rm 2 1 71 34) #[.ref qa1, .int 0, .int qi2] h0 (Q72 Z qi2 qc4 h0 n0) := by
 refine own_sF pn5 rfl (fun m => ef19 m qa1 (0 : Int32) qi2) ?_
 intro p e s m below meth c s₁ Bd hZ hh hx hby hml hown hnm X0 e0 pre0
 have N0 := Fr.nil n0
 have av1 := A_qa1
 obtain ⟨cl1, Ar1, q1, S1, N1, H1, Gf1⟩ := av1
 obtain ⟨_, T3, L3, X3, hQ3, st3⟩ := own_cS 1 71 [] 13 #[rv qa1, iv 0, iv qi2] X0 hx hZ hown (w212_ hw) (w213_ hw) (w132_ hw) (w214_ hw) (rm71 l Z a0 hw  qa1 qi2 qk3 qc4 h0 n0 X00 hc4 hk5 hk6 A_qa1 hc7 hk8 hk9 hk10 hk11) pd23 hml.symm (hb hby d30_13) e0 rfl rfl rfl rfl (by decide)
 obtain ⟨b12, c13_, rfl, N3q, K3q, w14, w15, w16⟩ := hQ3
 have N3 := Fr.app N0 N3q
 have K17 := (Keep.refl h0 []).trans K3q (fun x q => nomatch q)
 have sz_b12 : h0.size ≤ b12 := w14
 refine own_lvF X3 Bd (.ref b12) rfl ⟨b12, c13_, rfl, N3, K17, sz_b12, w15, w16⟩ rfl (fun fs hr => pre0 _ (by
  show Sx p e below s₁ m 0 #[rv qa1, iv 0, iv qi2] [] _
  refine zj X0 Bd d30_0 rfl ?_
  refine zo X0 Bd d30_1 (XT.i0_ne_f ((by decide) : (0 : Int32) = (0 : Int32))) ?_
  refine zj X0 Bd d30_4 rfl ?_
  refine zb X0 Bd d30_5 rfl rfl ?_
  refine X0.arraylength hx (by rw [e0]; exact Ar1.1) (State.isArrayOf_alike hZ.alike Ar1.2.1) (g := (mkF m 6 #[rv qa1, iv 0, iv qi2] [.ref qa1, .int qi2])) rfl rfl (hb hby d30_6) _ ?_
  rw [len_of S1 N1]
  refine zn X0 Bd d30_7 (XT.ii_eq_f (hc2 : ¬ (qi2 = (70 : Int32)))) ?_
  refine zb X0 Bd d30_10 rfl rfl ?_
  refine zj X0 Bd d30_11 rfl ?_
  refine zj X0 Bd d30_12 rfl ?_
  refine st3 _ ?_
  exact retOut X3 hx Bd.returns rfl (Or.inr (Or.inr (Or.inr (Or.inr ⟨rfl, rfl, rfl⟩)))) (hb hby d30_16) hr))
-- java/lang/String.<init>(Ljava/lang/AbstractStringBuilder;Ljava/lang/Void;)V
def Q73 (Z : State) (qa1 : Addr) (qi4 : Int32) (qc6 : List Int32) (h0 : Heap) (n0 : Nat) : QT := fun v h L => ∃ b20 : Addr, ∃ c21_ : ClassId, v = none ∧ Fr n0 L ∧ Keep h0 h [qa1] ∧ h0.size ≤ b20 ∧ Exa Z h qa1 ST_ ∧ SC Z h qa1 ∧ SV Z h qa1 b20 ∧ Exa Z h b20 "[B" ∧ PA Z h b20 c21_ .byte (qi4 - (0 : Int32)) qc6
theorem rm73 (hw : HW a0 Z) (G1 : Int32) (qa1 : Addr) (qa2 : Addr) (qa3 : Addr) (qi4 : Int32) (qk5 : ClassId) (qc6 : List Int32) (h0 : Heap) (n0 : Nat) (X00 : Old Z n0 h0) (O2 : CO Z G1) (P5 : NZ G1) (E_qa2 : Exa Z h0 qa2 SB_) (F_qa2_value : VA Z h0 qa2 qa3) (F_qa2_count : VN Z h0 qa2 qi4) (F_qa2_coder : VC Z h0 qa2) (E_qa1 : Exa Z h0 qa1 ST_) (F_qa1_coder : SC Z h0 qa1) (g_qa1 : n0 ≤ qa1) (A_qa3 : PA Z h0 qa3 qk5 .byte (70 : Int32) qc6) (ne_qa3_qa1 : qa3 ≠ qa1) (hc10 : ¬ (qi4 = (70 : Int32))) (hc11 : ¬ (qi4 < (0 : Int32))) (hk12 : ¬ (qi4 - (0 : Int32)) < 0) (hk13 : ((qi4 - (0 : Int32))).toNatClampNeg ≤ 71) (hc14 : (qi4 - (0 : Int32)) < (70 : Int32)) (hk15 : ((0 : Int32)).toNatClampNeg = (([] : List Int32)).length) (hk16 : ((0 : Int32)).toNatClampNeg + ((qi4 - (0 : Int32))).toNatClampNeg ≤ ((70 : Int32)).toNatClampNeg) (hk17 : ((0 : Int32)).toNatClampNeg + ((qi4 - (0 : Int32))).toNatClampNeg ≤ ((qi4 - (0 : Int32))).toNatClampNeg) (hk18 : (qc6).length ≤ ((qi4 - (0 : Int32))).toNatClampNeg) (F_qa1_value : Fld Z h0 qa1 ST_ "value" "[B" .null) :
    MF l Z Y30_ jdk_42_method_150_code 5 none (Rm 3 1 71 49) #[.ref qa1, .ref qa2, .null] h0 (Q73 Z qa1 qi4 qc6 h0 n0) := by
 refine own_sF pn6 rfl (fun m => ef18 m qa1 qa2) ?_
 intro p e s m below meth c s₁ Bd hZ hh hx hby hml hown hnm X0 e0 pre0
 have N0 := Fr.nil n0
 obtain ⟨T1, X1, e1, st1⟩ := initO X0 hx hZ hown (w30_ hw) (w31_ hw) (w32_ hw) e0 (g := (mkF m 1 #[rv qa1, rv qa2, .val .null, .unset, .unset] [.ref qa1])) rfl hml.symm rfl (hb hby d26_1) (by decide) (W := 0) (own_hw rfl) (lE rfl)
 obtain ⟨_, T2, L2, X2, hQ2, st2⟩ := own_cV 0 0 [] 5 #[rv qa1, rv qa2, .val .null, .unset, .unset] X1 hx hZ hown E_qa2 (w195_ hw) (w196_ hw) (notFace_of_selects (args := #[]) (mvT hZ (w198_ hw))) (w198_ hw) (w197_ hw) (w77_ hw) (w199_ hw) (rm52 l Z a0 hw  qa2 qa3 h0 n0 X00 F_qa2_value) pd21 hml.symm (hb hby d26_5) e1 rfl rfl rfl rfl (by decide)
 obtain ⟨rfl, N2q, e2q⟩ := hQ2
 have N2 := Fr.app N0 N2q
 obtain ⟨_, T3, L3, X3, hQ3, st3⟩ := own_cV 0 0 [] 10 #[rv qa1, rv qa2, .val .null, rv qa3, .unset] X2 hx hZ hown E_qa2 (w200_ hw) (w201_ hw) (own_nf (mvT (args := #[]) hZ (w113_ hw)) rfl) (w203_ hw) (w204_ hw) (w69_ hw) (w205_ hw) (rm54 l Z a0 hw  qa2 qi4 h0 n0 X00 F_qa2_count E_qa2) pd7 hml.symm (hb hby d26_10) e2q rfl rfl rfl rfl (by decide)
 obtain ⟨rfl, N3q, e3q⟩ := hQ3
 have N3 := Fr.app N2 N3q
 obtain ⟨_, T4, L4, X4, hQ4, st4⟩ := own_cV 0 0 [] 16 #[rv qa1, rv qa2, .val .null, rv qa3, iv qi4] X3 hx hZ hown E_qa2 (w208_ hw) (w172_ hw) (notFace_of_selects (args := #[]) (mvT hZ (w174_ hw))) (w174_ hw) (w173_ hw) (w77_ hw) (w175_ hw) (rm21 l Z a0 hw G1 qa2 h0 n0 X00 O2 P5 F_qa2_coder) pd17 hml.symm (hb hby d26_16) e3q rfl rfl rfl rfl (by decide)
 obtain ⟨rfl, N4q, e4q⟩ := hQ4
 have N4 := Fr.app N3 N4q
 obtain ⟨T5, h5, X5, e5, W5, st5⟩ := putF X4 hx hZ hown (host := "") (Or.inl (w45_ hw)) Via.refl e4q F_qa1_coder E_qa1 (Or.inr ⟨(w46_ hw), rfl, hnm⟩) (w21_ hw) (ty := .byte) (by decide) rfl rfl (g := (mkF m 24 #[rv qa1, rv qa2, .val .null, rv qa3, iv qi4] [.int 0, .ref qa1])) rfl rfl (hb hby d26_24)
 have N5 := Fr.snoc X5 N4 g_qa1
 have K6 := (Keep.refl h0 [qa1]).wr W5 (Or.inl (mI 0 rfl))
 have F7_ : SC Z h5 qa1 := F_qa1_coder.same W5
 have A9_ := A_qa3.other W5 ne_qa3_qa1
 have O19 := X00.wr W5 g_qa1
 obtain ⟨_, T8, L8, X8, hQ8, st8⟩ := own_cS 1 71 [.ref qa1] 32 #[rv qa1, rv qa2, .val .null, rv qa3, iv qi4] X5 hx hZ hown (w209_ hw) (w210_ hw) (w132_ hw) (w211_ hw) (rm72 l Z a0 hw  qa3 qi4 qk5 qc6 h5 n0 O19 A9_ hc10 hc11 hk12 hk13 hc14 hk15 hk16 hk17 hk18) pd23 hml.symm (hb hby d26_32) e5 rfl rfl rfl rfl (by decide)
 obtain ⟨b20, c21_, rfl, N8q, K8q, w22, w23, w24⟩ := hQ8
 have N8 := Fr.app N5 N8q
 have K25 := K6.trans K8q (fun x q => nomatch q)
 have F26_ := F_qa1_value.other W5 (Or.inr (slot_ne (Or.inr (w48_ hw)) (Or.inr (w46_ hw)) (by decide) (t := (.array .byte)) (t' := .byte) (by decide) (by decide)))
 have F27_ := F26_.keep K8q nin0
 have E28_ := E_qa1.wr W5
 have E29_ := E28_.keep K8q
 obtain ⟨T30, h30, X30, e30, W30, st30⟩ := putF X8 hx hZ hown (host := "") (Or.inl (w47_ hw)) Via.refl rfl F27_ E29_ (Or.inr ⟨(w48_ hw), rfl, hnm⟩) (w21_ hw) (ty := (.array .byte)) (by decide) rfl rfl (g := (mkF m 35 #[rv qa1, rv qa2, .val .null, rv qa3, iv qi4] [.ref b20, .ref qa1])) rfl rfl (hb hby d26_35)
 have N30 := Fr.snoc X30 N8 g_qa1
 have K31 := K25.wr W30 (Or.inl (mI 0 rfl))
 have F32_ : SV Z h30 qa1 b20 := F27_.same W30
 have sz_b20 : h0.size ≤ b20 := Nat.le_trans K6.1 w22
 have E33_ := E29_.wr W30
 have F34_ := F7_.keep K8q nin0
 have F35_ := F34_.other W30 (Or.inr (slot_ne (Or.inr (w46_ hw)) (Or.inr (w48_ hw)) (by decide) (t := .byte) (t' := (.array .byte)) (by decide) (by decide)))
 have E36_ := w23.wr W30
 have nx37 : qa1 ≠ b20 := (Nat.ne_of_lt (Nat.lt_of_lt_of_le (Nat.lt_of_lt_of_le E_qa1.lt (Nat.le_of_eq W5.size.symm)) w22))
 have A38_ := w24.other W30 (Ne.symm nx37)
 refine own_lvN X30 Bd e30 ⟨b20, c21_, rfl, N30, K31, sz_b20, E33_, F35_, F32_, E36_, A38_⟩ rfl (fun fs hr => pre0 _ (by
  show Sx p e below s₁ m 0 #[rv qa1, rv qa2, .val .null, .unset, .unset] [] _
  refine zb X0 Bd d26_0 rfl rfl ?_
  refine st1 _ ?_
  refine zb X1 Bd d26_4 rfl rfl ?_
  refine st2 _ ?_
  refine XS.astoreN X2.here hx rfl (hb hby d26_8) rfl rfl (l' := #[rv qa1, rv qa2, .val .null, rv qa3, .unset]) rfl ?_
  refine zb X2 Bd d26_9 rfl rfl ?_
  refine st3 _ ?_
  refine zs X3 Bd d26_13 (l' := #[rv qa1, rv qa2, .val .null, rv qa3, iv qi4]) rfl ?_
  refine zb X3 Bd d26_15 rfl rfl ?_
  refine st4 _ ?_
  refine zo X4 Bd d26_19 (XT.i0_eq_f ((by decide) : ¬ ((1 : Int32) = (0 : Int32)))) ?_
  refine zb X4 Bd d26_22 rfl rfl ?_
  refine zc X4 Bd d26_23 ?_
  refine st5 _ ?_
  refine zb X5 Bd d26_27 rfl rfl ?_
  refine zb X5 Bd d26_28 rfl rfl ?_
  refine zc X5 Bd d26_29 ?_
  refine zi X5 Bd d26_30 rfl ?_
  refine st8 _ ?_
  refine st30 _ ?_
  refine zg (pc' := 97) X30 Bd d26_38 rfl ?_
  exact X30.returnOut hx Bd.returns (hb hby d26_97) hr))
-- java/lang/String.<init>(Ljava/lang/StringBuilder;)V
def Q74 (Z : State) (qa1 : Addr) (qi4 : Int32) (qc6 : List Int32) (h0 : Heap) (n0 : Nat) : QT := fun v h L => ∃ b11 : Addr, ∃ c12_ : ClassId, v = none ∧ Fr n0 L ∧ Keep h0 h [qa1] ∧ h0.size ≤ b11 ∧ Exa Z h qa1 ST_ ∧ SC Z h qa1 ∧ SV Z h qa1 b11 ∧ Exa Z h b11 "[B" ∧ PA Z h b11 c12_ .byte (qi4 - (0 : Int32)) qc6
theorem rm74 (hw : HW a0 Z) (G1 : Int32) (qa1 : Addr) (qa2 : Addr) (qa3 : Addr) (qi4 : Int32) (qk5 : ClassId) (qc6 : List Int32) (h0 : Heap) (n0 : Nat) (X00 : Old Z n0 h0) (O2 : CO Z G1) (P5 : NZ G1) (E_qa2 : Exa Z h0 qa2 SB_) (F_qa2_value : VA Z h0 qa2 qa3) (F_qa2_count : VN Z h0 qa2 qi4) (F_qa2_coder : VC Z h0 qa2) (E_qa1 : Exa Z h0 qa1 ST_) (F_qa1_coder : SC Z h0 qa1) (g_qa1 : n0 ≤ qa1) (A_qa3 : PA Z h0 qa3 qk5 .byte (70 : Int32) qc6) (ne_qa3_qa1 : qa3 ≠ qa1) (hc2 : ¬ (qi4 = (70 : Int32))) (hc3 : ¬ (qi4 < (0 : Int32))) (hk4 : ¬ (qi4 - (0 : Int32)) < 0) (hk5 : ((qi4 - (0 : Int32))).toNatClampNeg ≤ 71) (hc6 : (qi4 - (0 : Int32)) < (70 : Int32)) (hk7 : ((0 : Int32)).toNatClampNeg = (([] : List Int32)).length) (hk8 : ((0 : Int32)).toNatClampNeg + ((qi4 - (0 : Int32))).toNatClampNeg ≤ ((70 : Int32)).toNatClampNeg) (hk9 : ((0 : Int32)).toNatClampNeg + ((qi4 - (0 : Int32))).toNatClampNeg ≤ ((qi4 - (0 : Int32))).toNatClampNeg) (hk10 : (qc6).length ≤ ((qi4 - (0 : Int32))).toNatClampNeg) (F_qa1_value : Fld Z h0 qa1 ST_ "value" "[B" .null) :
    MF l Z Y31_ jdk_42_method_53_code 2 none (Rm 4 1 71 65) #[.ref qa1, .ref qa2] h0 (Q74 Z qa1 qi4 qc6 h0 n0) := by
 refine own_sF pn6 rfl (fun m => ef7 m qa1 qa2) ?_
 intro p e s m below meth c s₁ Bd hZ hh hx hby hml hown hnm X0 e0 pre0
 have N0 := Fr.nil n0
 obtain ⟨_, T1, L1, X1, hQ1, st1⟩ := own_cI 1 71 [] 3 #[rv qa1, rv qa2] X0 hx hZ hown (w192_ hw) (w193_ hw) (w22_ hw) (w194_ hw) (rm73 l Z a0 hw G1 qa1 qa2 qa3 qi4 qk5 qc6 h0 n0 X00 O2 P5 E_qa2 F_qa2_value F_qa2_count F_qa2_coder E_qa1 F_qa1_coder g_qa1 A_qa3 ne_qa3_qa1 hc2 hc3 hk4 hk5 hc6 hk7 hk8 hk9 hk10 F_qa1_value) pd24 hml.symm (hb hby d25_3) e0 rfl rfl rfl rfl rfl (by decide)
 obtain ⟨b11, c12_, rfl, N1q, K1q, w13, w14, w15, w16, w17, w18⟩ := hQ1
 have N1 := Fr.app N0 N1q
 have K19 := (Keep.refl h0 [qa1]).trans K1q (allS (Or.inl (mI 0 rfl)) all0)
 have sz_b11 : h0.size ≤ b11 := w13
 have E20_ := E_qa1.keep K1q
 refine own_lvN X1 Bd rfl ⟨b11, c12_, rfl, N1, K19, sz_b11, E20_, w15, w16, w17, w18⟩ rfl (fun fs hr => pre0 _ (by
  show Sx p e below s₁ m 0 #[rv qa1, rv qa2] [] _
  refine zb X0 Bd d25_0 rfl rfl ?_
  refine zb X0 Bd d25_1 rfl rfl ?_
  refine XS.aconstNull X0.here hx rfl (hb hby d25_2) ?_
  refine st1 _ ?_
  exact X1.returnOut hx Bd.returns (hb hby d25_6) hr))
-- java/lang/StringBuilder.toString()Ljava/lang/String;
def Q75 (Z : State) (qi3 : Int32) (qc5 : List Int32) (h0 : Heap) (n0 : Nat) : QT := fun v h L => ∃ b1 : Addr, ∃ b22 : Addr, ∃ c23_ : ClassId, v = some (.ref b1) ∧ Fr n0 L ∧ Keep h0 h [] ∧ h0.size ≤ b1 ∧ h0.size ≤ b22 ∧ b1 ≠ b22 ∧ Exa Z h b1 ST_ ∧ SC Z h b1 ∧ SV Z h b1 b22 ∧ Exa Z h b22 "[B" ∧ PA Z h b22 c23_ .byte (qi3 - (0 : Int32)) qc5
theorem rm75 (hw : HW a0 Z) (G1 : Int32) (qa1 : Addr) (qa2 : Addr) (qi3 : Int32) (qk4 : ClassId) (qc5 : List Int32) (h0 : Heap) (n0 : Nat) (X00 : Old Z n0 h0) (O2 : CO Z G1) (P5 : NZ G1) (E_qa1 : Exa Z h0 qa1 SB_) (F_qa1_value : VA Z h0 qa1 qa2) (F_qa1_count : VN Z h0 qa1 qi3) (F_qa1_coder : VC Z h0 qa1) (A_qa2 : PA Z h0 qa2 qk4 .byte (70 : Int32) qc5) (hc12 : ¬ (qi3 = (70 : Int32))) (hc13 : ¬ (qi3 < (0 : Int32))) (hk14 : ¬ (qi3 - (0 : Int32)) < 0) (hk15 : ((qi3 - (0 : Int32))).toNatClampNeg ≤ 71) (hc16 : (qi3 - (0 : Int32)) < (70 : Int32)) (hk17 : ((0 : Int32)).toNatClampNeg = (([] : List Int32)).length) (hk18 : ((0 : Int32)).toNatClampNeg + ((qi3 - (0 : Int32))).toNatClampNeg ≤ ((70 : Int32)).toNatClampNeg) (hk19 : ((0 : Int32)).toNatClampNeg + ((qi3 - (0 : Int32))).toNatClampNeg ≤ ((qi3 - (0 : Int32))).toNatClampNeg) (hk20 : (qc5).length ≤ ((qi3 - (0 : Int32))).toNatClampNeg) :
    MF l Z Y32_ jdk_67_method_42_code 1 (some (.object ST_)) (Rm 5 2 75 79) #[.ref qa1] h0 (Q75 Z qi3 qc5 h0 n0) := by
 refine own_sF pn2 rfl (fun m => ef5 m qa1) ?_
 intro p e s m below meth c s₁ Bd hZ hh hx hby hml hown hnm X0 e0 pre0
 have N0 := Fr.nil n0
 obtain ⟨T1, h1, X1, e1, E1, A1, D1, -, st1⟩ := newO X0 hx hZ hown (w188_ hw) (w21_ hw) (w22_ hw) e0 (g := (mkF m 0 #[rv qa1] [])) rfl (hb hby d24_0) (lE rfl) (lE rfl)
 obtain ⟨b1, g1⟩ : ∃ z, z = h0.size := ⟨_, rfl⟩
 rw [← g1] at A1 D1 st1
 replace X1 : Stand p l e (Rm 5 2 75 79) s m #[.ref qa1] below meth c T1 _ 1 4 := X1
 have K2 := (Keep.refl h0 []).ext E1
 have F3_ : SC Z h1 b1 := D1 (Or.inr (w46_ hw)) (ty := .byte) (by decide)
 have F4_ : Fld Z h1 b1 ST_ "value" "[B" .null := D1 (Or.inr (w48_ hw)) (ty := (.array .byte)) (by decide)
 have E6_ := E_qa1.ext E1
 have F7_ := F_qa1_value.ext E1
 have F8_ := F_qa1_count.ext E1
 have F9_ := F_qa1_coder.ext E1
 have g_b1 : n0 ≤ b1 := Nat.le_trans (Nat.le_trans (Nat.le_of_eq X00.1.symm) X00.2.1) (Nat.le_of_eq g1.symm)
 have A10_ := A_qa2.ext E1
 have nx11 : qa2 ≠ b1 := (Nat.ne_of_lt (Nat.lt_of_lt_of_le A_qa2.lt (Nat.le_of_eq g1.symm)))
 have O21 := X00.ext E1
 obtain ⟨_, T5, L5, X5, hQ5, st5⟩ := own_cI 2 75 [.ref b1] 5 #[rv qa1] X1 hx hZ hown (w189_ hw) (w190_ hw) (w22_ hw) (w191_ hw) (rm74 l Z a0 hw G1 b1 qa1 qa2 qi3 qk4 qc5 h1 n0 O21 O2 P5 E6_ F7_ F8_ F9_ A1 F3_ g_b1 A10_ nx11 hc12 hc13 hk14 hk15 hc16 hk17 hk18 hk19 hk20 F4_) pd25 hml.symm (hb hby d24_5) e1 rfl rfl rfl rfl rfl (by decide)
 obtain ⟨b22, c23_, rfl, N5q, K5q, w24, w25, w26, w27, w28, w29⟩ := hQ5
 have N5 := Fr.app N0 N5q
 have sz_b1 : h0.size ≤ b1 := (Nat.le_of_eq g1.symm)
 have K30 := K2.trans K5q (allS (Or.inr sz_b1) all0)
 have sz_b22 : h0.size ≤ b22 := Nat.le_trans K2.1 w24
 have nx31 : b1 ≠ b22 := (Nat.ne_of_lt (Nat.lt_of_lt_of_le A1.lt w24))
 have E32_ := A1.keep K5q
 refine own_lvF X5 Bd (.ref b1) rfl ⟨b1, b22, c23_, rfl, N5, K30, sz_b1, sz_b22, nx31, E32_, w26, w27, w28, w29⟩ rfl (fun fs hr => pre0 _ (by
  show Sx p e below s₁ m 0 #[rv qa1] [] _
  refine st1 _ ?_
  refine XS.dup X1.here hx rfl (hb hby d24_3) rfl rfl ?_
  refine zb X1 Bd d24_4 rfl rfl ?_
  refine st5 _ ?_
  exact retOut X5 hx Bd.returns rfl (Or.inr (Or.inr (Or.inr (Or.inr ⟨rfl, rfl, rfl⟩)))) (hb hby d24_8) hr))
-- java/lang/String.getBytes([BIB)V
def Q76 (Z : State) (qa2 : Addr) (qk6 : ClassId) (qc7 : List Int32) (h0 : Heap) (n0 : Nat) : QT := fun v h L => v = none ∧ Fr n0 L ∧ Keep h0 h [qa2] ∧ PA Z h qa2 qk6 .byte (34 : Int32) (qc7 ++ K2_)
theorem rm76 (hw : HW a0 Z) (G1 : Int32) (qa1 : Addr) (qa2 : Addr) (qi3 : Int32) (qa4 : Addr) (qk5 : ClassId) (qk6 : ClassId) (qc7 : List Int32) (h0 : Heap) (n0 : Nat) (X00 : Old Z n0 h0) (O2 : CO Z G1) (P5 : NZ G1) (E_qa1 : Exa Z h0 qa1 ST_) (F_qa1_coder : SC Z h0 qa1) (F_qa1_value : SV Z h0 qa1 qa4) (A_qa4 : Arv Z h0 qa4 qk5 .byte (10 : Int32) [.int 44, .int 32, .int 110, .int 101, .int 116, .int 119, .int 111, .int 114, .int 107, .int 61] (.int 0)) (A_qa2 : PA Z h0 qa2 qk6 .byte (34 : Int32) qc7) (hk7 : ((qi3 <<< ((0 : Int32) &&& 31))).toNatClampNeg = (qc7).length) (hk8 : ¬ (qi3 <<< ((0 : Int32) &&& 31)) < 0) (hk9 : ((0 : Int32)).toNatClampNeg + ((10 : Int32)).toNatClampNeg ≤ ((10 : Int32)).toNatClampNeg) (hk10 : ((qi3 <<< ((0 : Int32) &&& 31))).toNatClampNeg + ((10 : Int32)).toNatClampNeg ≤ ((34 : Int32)).toNatClampNeg) (hk11 : (K2_).length ≤ ((10 : Int32)).toNatClampNeg) (g_qa2 : n0 ≤ qa2) :
    MF l Z Y14_ jdk_42_method_147_code 4 none (Rm 1 0 0 18) #[.ref qa1, .ref qa2, .int qi3, .int 0] h0 (Q76 Z qa2 qk6 qc7 h0 n0) := by
 refine own_sF pn6 rfl (fun m => ef14 m qa1 qa2 qi3 (0 : Int32)) ?_
 intro p e s m below meth c s₁ Bd hZ hh hx hby hml hown hnm X0 e0 pre0
 have N0 := Fr.nil n0
 obtain ⟨_, T1, L1, X1, hQ1, st1⟩ := own_cV 0 0 [] 1 #[rv qa1, rv qa2, iv qi3, iv 0] X0 hx hZ hown E_qa1 (w103_ hw) (w104_ hw) (notFace_of_selects (args := #[]) (mvT hZ (w106_ hw))) (w106_ hw) (w105_ hw) (w22_ hw) (w107_ hw) (rm13 l Z a0 hw G1 qa1 h0 n0 X00 O2 P5 F_qa1_coder) pd11 hml.symm (hb hby d18_1) e0 rfl rfl rfl rfl (by decide)
 obtain ⟨rfl, N1q, e1q⟩ := hQ1
 have N1 := Fr.app N0 N1q
 obtain ⟨T2, X2, e2, st2⟩ := own_gF 9 #[rv qa1, rv qa2, iv qi3, iv 0] [] X1 hx hZ hown (w47_ hw) Via.refl e1q F_qa1_value (hb hby d18_9)
 obtain ⟨T3, X3, e3, st3⟩ := own_gF 18 #[rv qa1, rv qa2, iv qi3, iv 0] [(.int (qi3 <<< ((0 : Int32) &&& 31))), .ref qa2, .int 0, .ref qa4] X2 hx hZ hown (w47_ hw) Via.refl e2 F_qa1_value (hb hby d18_18)
 have av4 := A_qa4
 obtain ⟨cl4, Ar4, q4, S4, N4, H4, Gf4⟩ := av4
 have A5_ : PA Z h0 qa4 qk5 .byte (10 : Int32) K2_ := A_qa4
 have Ad6 := (A_qa2).pad (own_repl ((10 : Int32)).toNatClampNeg qc7)
 obtain ⟨T6, h6, L6, X6, e6, N6, K6q, A6, st6⟩ := cpA X3 hx hZ hown (w157_ hw) (w140_ hw) (w138_ hw) (w139_ hw) e3 (vs := K2_.map Value.int) (vd := (qc7 ++ List.replicate ((10 : Int32)).toNatClampNeg 0).map Value.int) A5_ Ad6 (Or.inl ⟨rfl, rfl⟩) (by decide) hk8 (by decide) hk9 hk10 rfl (by rw [List.length_map, List.length_append, List.length_replicate, hk7]; exact Nat.le_refl _) N1 g_qa2 (g := (mkF m 22 #[rv qa1, rv qa2, iv qi3, iv 0] [.int 10, (.int (qi3 <<< ((0 : Int32) &&& 31))), .ref qa2, .int 0, .ref qa4])) rfl hml.symm rfl (hb hby d18_22) (by decide) (W := 0) (own_hw rfl) (by decide)
 have K12 := (Keep.refl h0 [qa2]).trans K6q (allS (Or.inl (mI 0 rfl)) all0)
 have A13_ : PA Z h6 qa2 qk6 .byte (34 : Int32) (qc7 ++ K2_) := A6.pad (own_cpl (S := K2_) (D := qc7) hk7 hk11)
 refine own_lvN X6 Bd e6 ⟨rfl, N6, K12, A13_⟩ rfl (fun fs hr => pre0 _ (by
  show Sx p e below s₁ m 0 #[rv qa1, rv qa2, iv qi3, iv 0] [] _
  refine zb X0 Bd d18_0 rfl rfl ?_
  refine st1 _ ?_
  refine zj X1 Bd d18_4 rfl ?_
  refine zn X1 Bd d18_5 (XT.ii_ne_f ((by decide) : (0 : Int32) = (0 : Int32))) ?_
  refine zb X1 Bd d18_8 rfl rfl ?_
  refine st2 _ ?_
  refine zc X2 Bd d18_12 ?_
  refine zb X2 Bd d18_13 rfl rfl ?_
  refine zj X2 Bd d18_14 rfl ?_
  refine zj X2 Bd d18_15 rfl ?_
  refine XS.ishl X2.here hx rfl (hb hby d18_16) rfl ?_
  refine zb X2 Bd d18_17 rfl rfl ?_
  refine st3 _ ?_
  refine X3.arraylength hx (by rw [e3]; exact Ar4.1) (State.isArrayOf_alike hZ.alike Ar4.2.1) (g := (mkF m 21 #[rv qa1, rv qa2, iv qi3, iv 0] [.ref qa4, (.int (qi3 <<< ((0 : Int32) &&& 31))), .ref qa2, .int 0, .ref qa4])) rfl rfl (hb hby d18_21) _ ?_
  rw [len_of S4 N4]
  refine st6 _ ?_
  refine zg (pc' := 43) X6 Bd d18_25 rfl ?_
  exact X6.returnOut hx Bd.returns (hb hby d18_43) hr))
-- java/lang/AbstractStringBuilder.putStringAt(ILjava/lang/String;)V
def Q77 (Z : State) (qa4 : Addr) (qk7 : ClassId) (qc8 : List Int32) (h0 : Heap) (n0 : Nat) : QT := fun v h L => v = none ∧ Fr n0 L ∧ Keep h0 h [qa4] ∧ PA Z h qa4 qk7 .byte (34 : Int32) (qc8 ++ K2_)
theorem rm77 (hw : HW a0 Z) (G1 : Int32) (qa1 : Addr) (qi2 : Int32) (qa3 : Addr) (qa4 : Addr) (qa5 : Addr) (qk6 : ClassId) (qk7 : ClassId) (qc8 : List Int32) (h0 : Heap) (n0 : Nat) (X00 : Old Z n0 h0) (O2 : CO Z G1) (P5 : NZ G1) (F_qa1_coder : VC Z h0 qa1) (E_qa3 : Exa Z h0 qa3 ST_) (F_qa3_coder : SC Z h0 qa3) (E_qa1 : Exa Z h0 qa1 SB_) (F_qa1_value : VA Z h0 qa1 qa4) (F_qa3_value : SV Z h0 qa3 qa5) (A_qa5 : Arv Z h0 qa5 qk6 .byte (10 : Int32) [.int 44, .int 32, .int 110, .int 101, .int 116, .int 119, .int 111, .int 114, .int 107, .int 61] (.int 0)) (A_qa4 : PA Z h0 qa4 qk7 .byte (34 : Int32) qc8) (hk5 : ((qi2 <<< ((0 : Int32) &&& 31))).toNatClampNeg = (qc8).length) (hk6 : ¬ (qi2 <<< ((0 : Int32) &&& 31)) < 0) (hk7 : ((0 : Int32)).toNatClampNeg + ((10 : Int32)).toNatClampNeg ≤ ((10 : Int32)).toNatClampNeg) (hk8 : ((qi2 <<< ((0 : Int32) &&& 31))).toNatClampNeg + ((10 : Int32)).toNatClampNeg ≤ ((34 : Int32)).toNatClampNeg) (hk9 : (K2_).length ≤ ((10 : Int32)).toNatClampNeg) (g_qa4 : n0 ≤ qa4) :
    MF l Z Y15_ jdk_68_method_73_code 3 none (Rm 2 0 0 33) #[.ref qa1, .int qi2, .ref qa3] h0 (Q77 Z qa4 qk7 qc8 h0 n0) := by
 refine own_sF pn3 rfl (fun m => ef13 m qa1 qi2 qa3) ?_
 intro p e s m below meth c s₁ Bd hZ hh hx hby hml hown hnm X0 e0 pre0
 have N0 := Fr.nil n0
 obtain ⟨_, T1, L1, X1, hQ1, st1⟩ := own_cP 0 0 [] 2 #[rv qa1, iv qi2, rv qa3] X0 hx hZ hown E_qa1 (w146_ hw) (w147_ hw) (w149_ hw) (w148_ hw) (w77_ hw) (w150_ hw) (rm14 l Z a0 hw G1 qa1 qa3 h0 n0 X00 O2 P5 F_qa1_coder E_qa3 F_qa3_coder) pd12 hml.symm (hb hby d15_2) e0 rfl rfl rfl rfl (by decide)
 obtain ⟨rfl, N1q, e1q⟩ := hQ1
 have N1 := Fr.app N0 N1q
 obtain ⟨T2, X2, e2, st2⟩ := own_gF 7 #[rv qa1, iv qi2, rv qa3] [.ref qa3] X1 hx hZ hown (w81_ hw) Via.refl e1q F_qa1_value (hb hby d15_7)
 obtain ⟨T3, X3, e3, st3⟩ := own_gF 12 #[rv qa1, iv qi2, rv qa3] [.int qi2, .ref qa4, .ref qa3] X2 hx hZ hown (w83_ hw) Via.refl e2 F_qa1_coder (hb hby d15_12)
 obtain ⟨_, T4, L4, X4, hQ4, st4⟩ := own_cV 0 0 [] 15 #[rv qa1, iv qi2, rv qa3] X3 hx hZ hown E_qa3 (w152_ hw) (w153_ hw) (notFace_of_selects (args := #[]) (mvT hZ (w155_ hw))) (w155_ hw) (w154_ hw) (w22_ hw) (w156_ hw) (rm76 l Z a0 hw G1 qa3 qa4 qi2 qa5 qk6 qk7 qc8 h0 n0 X00 O2 P5 E_qa3 F_qa3_coder F_qa3_value A_qa5 A_qa4 hk5 hk6 hk7 hk8 hk9 g_qa4) pd13 hml.symm (hb hby d15_15) e3 rfl rfl rfl rfl (by decide)
 obtain ⟨rfl, N4q, K4q, w10⟩ := hQ4
 have N4 := Fr.app N1 N4q
 have K11 := (Keep.refl h0 [qa4]).trans K4q (allS (Or.inl (mI 0 rfl)) all0)
 refine own_lvN X4 Bd rfl ⟨rfl, N4, K11, w10⟩ rfl (fun fs hr => pre0 _ (by
  show Sx p e below s₁ m 0 #[rv qa1, iv qi2, rv qa3] [] _
  refine zb X0 Bd d15_0 rfl rfl ?_
  refine zb X0 Bd d15_1 rfl rfl ?_
  refine st1 _ ?_
  refine zb X1 Bd d15_5 rfl rfl ?_
  refine zb X1 Bd d15_6 rfl rfl ?_
  refine st2 _ ?_
  refine zj X2 Bd d15_10 rfl ?_
  refine zb X2 Bd d15_11 rfl rfl ?_
  refine st3 _ ?_
  refine st4 _ ?_
  exact X4.returnOut hx Bd.returns (hb hby d15_18) hr))
-- java/lang/AbstractStringBuilder.append(Ljava/lang/String;)Ljava/lang/AbstractStringBuilder;
def Q78 (Z : State) (qa1 : Addr) (qi5 : Int32) (qa6 : Addr) (qk7 : ClassId) (qc8 : List Int32) (h0 : Heap) (n0 : Nat) : QT := fun v h L => v = some (.ref qa1) ∧ Fr n0 L ∧ Keep h0 h [qa6, qa1] ∧ Fld Z h qa1 AB_ "count" "I" (.int (qi5 + (10 : Int32))) ∧ VA Z h qa1 qa6 ∧ VC Z h qa1 ∧ Exa Z h qa1 SB_ ∧ PA Z h qa6 qk7 .byte (34 : Int32) (qc8 ++ K2_)
theorem rm78 (hw : HW a0 Z) (G1 : Int32) (qa1 : Addr) (qa2 : Addr) (qa3 : Addr) (qk4 : ClassId) (qi5 : Int32) (qa6 : Addr) (qk7 : ClassId) (qc8 : List Int32) (h0 : Heap) (n0 : Nat) (X00 : Old Z n0 h0) (O2 : CO Z G1) (P5 : NZ G1) (E_qa2 : Exa Z h0 qa2 ST_) (F_qa2_coder : SC Z h0 qa2) (F_qa2_value : SV Z h0 qa2 qa3) (hp_qa2 : ∀ c ∈ K2_, ¬ c < 0 ∧ ¬ (255 : Int32) < c) (A_qa3 : Arv Z h0 qa3 qk4 .byte (10 : Int32) [.int 44, .int 32, .int 110, .int 101, .int 116, .int 119, .int 111, .int 114, .int 107, .int 61] (.int 0)) (F_qa1_count : VN Z h0 qa1 qi5) (F_qa1_value : VA Z h0 qa1 qa6) (A_qa6 : PA Z h0 qa6 qk7 .byte (34 : Int32) qc8) (F_qa1_coder : VC Z h0 qa1) (hc5 : ¬ ((0 : Int32) < ((qi5 + (10 : Int32)) - (34 : Int32)))) (E_qa1 : Exa Z h0 qa1 SB_) (hk8 : ((qi5 <<< ((0 : Int32) &&& 31))).toNatClampNeg = (qc8).length) (hk9 : ¬ (qi5 <<< ((0 : Int32) &&& 31)) < 0) (hk10 : ((0 : Int32)).toNatClampNeg + ((10 : Int32)).toNatClampNeg ≤ ((10 : Int32)).toNatClampNeg) (hk11 : ((qi5 <<< ((0 : Int32) &&& 31))).toNatClampNeg + ((10 : Int32)).toNatClampNeg ≤ ((34 : Int32)).toNatClampNeg) (hk12 : (K2_).length ≤ ((10 : Int32)).toNatClampNeg) (g_qa6 : n0 ≤ qa6) (ne_qa1_qa6 : qa1 ≠ qa6) (g_qa1 : n0 ≤ qa1) :
    MF l Z Y16_ jdk_68_method_22_code 3 (some (.object AB_)) (Rm 3 0 0 47) #[.ref qa1, .ref qa2] h0 (Q78 Z qa1 qi5 qa6 qk7 qc8 h0 n0) := by
 refine own_sF pn3 rfl (fun m => ef8 m qa1 qa2) ?_
 intro p e s m below meth c s₁ Bd hZ hh hx hby hml hown hnm X0 e0 pre0
 have N0 := Fr.nil n0
 have hcd2 : StrChars.Road.CodA K2_ 0 (10 : Int32) [.int 44, .int 32, .int 110, .int 101, .int 116, .int 119, .int 111, .int 114, .int 107, .int 61] := StrChars.Road.codOf (n := 10) rfl (fun x hx => (hp_qa2 x hx).2)
 have hbd2 : ∀ x ∈ K2_, ¬ x < 0 ∧ ¬ (65535 : Int32) < x := own_up _ hp_qa2
 obtain ⟨cq1, kq1, q1a, q1b, q1c⟩ := isOf hZ e0 E_qa2
 obtain ⟨_, T1, L1, X1, hQ1, st1⟩ := own_cb0 0 0 0 0 0 0 (X0.virtualBack hx (y := Y17_) (z := Y17_) hown (mvT hZ (w98_ hw)) (mvT hZ (w99_ hw)) (notFace_of_selects (args := #[]) (mvT hZ (w101_ hw))) (mvT hZ (w101_ hw)) (mvT hZ (w100_ hw)) (by decide) (StrChars.Road.lenW (W := 0) hZ (own_wl hw) (kI := 4) (w21_ hw) E_qa2 F_qa2_value F_qa2_coder A_qa3 hcd2 hbd2 (O2.ext X00.2) P5 (lE rfl) (lE rfl) (lE rfl)) q1a q1c (g := (mkF m 10 #[rv qa1, rv qa2, .unset] [.ref qa2])) rfl hml.symm (Steps.refl _) (argsL := []) (rest := []) (lenOf pd7 rfl) rfl (own_hw rfl) (hb hby d8_10) (fun _ _ => ⟨rfl, e0, (lE rfl : 0 + 0 ≤ _), (lE rfl : 0 + 0 ≤ _)⟩)) rfl rfl
 dsimp only [Pt.U, Pt.locs, Pt.cells, Pt.slots] at hQ1
 obtain ⟨rfl, rfl, e1q⟩ := hQ1
 have N1 := Fr.app N0 (Fr.nil n0)
 obtain ⟨T3, X3, e3, st3⟩ := own_gF 16 #[rv qa1, rv qa2, iv 10] [.ref qa1] X1 hx hZ hown (w108_ hw) Via.refl e1q F_qa1_count (hb hby d8_16)
 obtain ⟨_, T4, L4, X4, hQ4, st4⟩ := own_cP 0 0 [] 21 #[rv qa1, rv qa2, iv 10] X3 hx hZ hown E_qa1 (w110_ hw) (w111_ hw) (w113_ hw) (w112_ hw) (w77_ hw) (w114_ hw) (rm20 l Z a0 hw  qa1 (qi5 + (10 : Int32)) qa6 qk7 qc8 h0 n0 X00 F_qa1_value A_qa6 F_qa1_coder hc5) pd5 hml.symm (hb hby d8_21) e3 rfl rfl rfl rfl (by decide)
 obtain ⟨rfl, N4q, e4q⟩ := hQ4
 have N4 := Fr.app N1 N4q
 obtain ⟨T6, X6, e6, st6⟩ := own_gF 26 #[rv qa1, rv qa2, iv 10] [.ref qa1] X4 hx hZ hown (w108_ hw) Via.refl e4q F_qa1_count (hb hby d8_26)
 obtain ⟨_, T7, L7, X7, hQ7, st7⟩ := own_cP 0 0 [] 30 #[rv qa1, rv qa2, iv 10] X6 hx hZ hown E_qa1 (w141_ hw) (w142_ hw) (w144_ hw) (w143_ hw) (w77_ hw) (w145_ hw) (rm77 l Z a0 hw G1 qa1 qi5 qa2 qa6 qa3 qk4 qk7 qc8 h0 n0 X00 O2 P5 F_qa1_coder E_qa2 F_qa2_coder E_qa1 F_qa1_value F_qa2_value A_qa3 A_qa6 hk8 hk9 hk10 hk11 hk12 g_qa6) pd14 hml.symm (hb hby d8_30) e6 rfl rfl rfl rfl (by decide)
 obtain ⟨rfl, N7q, K7q, w13⟩ := hQ7
 have N7 := Fr.app N4 N7q
 have K14 := (Keep.refl h0 [qa6, qa1]).trans K7q (allS (Or.inl (mI 0 rfl)) all0)
 have F16_ := F_qa1_count.keep K7q (ninS ne_qa1_qa6 nin0)
 obtain ⟨T15, X15, e15, st15⟩ := own_gF 35 #[rv qa1, rv qa2, iv 10] [.ref qa1] X7 hx hZ hown (w108_ hw) Via.refl rfl F16_ (hb hby d8_35)
 have E17_ := E_qa1.keep K7q
 obtain ⟨T18, h18, X18, e18, W18, st18⟩ := putF X15 hx hZ hown (host := "") (Or.inl (w108_ hw)) Via.refl e15 F16_ E17_ (Or.inl (w109_ hw)) (w68_ hw) (ty := .int) (by decide) rfl rfl (g := (mkF m 40 #[rv qa1, rv qa2, iv 10] [(.int (qi5 + (10 : Int32))), .ref qa1])) rfl rfl (hb hby d8_40)
 have N18 := Fr.snoc X18 N7 g_qa1
 have K19 := K14.wr W18 (Or.inl (mI 1 rfl))
 have F20_ : Fld Z h18 qa1 AB_ "count" "I" (.int (qi5 + (10 : Int32))) := F16_.same W18
 have F21_ := F_qa1_value.keep K7q (ninS ne_qa1_qa6 nin0)
 have F22_ := F21_.other W18 (Or.inr (slot_ne (Or.inl (w82_ hw)) (Or.inl (w109_ hw)) (by decide) (t := (.array .byte)) (t' := .int) (by decide) (by decide)))
 have F23_ := F_qa1_coder.keep K7q (ninS ne_qa1_qa6 nin0)
 have F24_ := F23_.other W18 (Or.inr (slot_ne (Or.inl (w84_ hw)) (Or.inl (w109_ hw)) (by decide) (t := .byte) (t' := .int) (by decide) (by decide)))
 have E25_ := E17_.wr W18
 have A26_ := w13.other W18 (Ne.symm ne_qa1_qa6)
 refine own_lvF X18 Bd (.ref qa1) e18 ⟨rfl, N18, K19, F20_, F22_, F24_, E25_, A26_⟩ rfl (fun fs hr => pre0 _ (by
  show Sx p e below s₁ m 0 #[rv qa1, rv qa2, .unset] [] _
  refine zb X0 Bd d8_0 rfl rfl ?_
  refine XS.ifnonnullYes X0.here hx rfl (pc0 := 1) (pc' := 9) rfl (hb hby d8_1) rfl (by decide) (by decide) ?_
  refine zb X0 Bd d8_9 rfl rfl ?_
  refine st1.trans ?_
  refine zt X1 Bd d8_13 (l' := #[rv qa1, rv qa2, iv 10]) rfl ?_
  refine zb X1 Bd d8_14 rfl rfl ?_
  refine zb X1 Bd d8_15 rfl rfl ?_
  refine st3 _ ?_
  refine zj X3 Bd d8_19 rfl ?_
  refine XS.iadd X3.here hx rfl (hb hby d8_20) rfl ?_
  refine st4 _ ?_
  refine zb X4 Bd d8_24 rfl rfl ?_
  refine zb X4 Bd d8_25 rfl rfl ?_
  refine st6 _ ?_
  refine zb X6 Bd d8_29 rfl rfl ?_
  refine st7 _ ?_
  refine zb X7 Bd d8_33 rfl rfl ?_
  refine XS.dup X7.here hx rfl (hb hby d8_34) rfl rfl ?_
  refine st15 _ ?_
  refine zj X15 Bd d8_38 rfl ?_
  refine XS.iadd X15.here hx rfl (hb hby d8_39) rfl ?_
  refine st18 _ ?_
  refine zb X18 Bd d8_43 rfl rfl ?_
  exact retOut X18 hx Bd.returns rfl (Or.inr (Or.inr (Or.inr (Or.inr ⟨rfl, rfl, rfl⟩)))) (hb hby d8_44) hr))
-- java/lang/StringBuilder.append(Ljava/lang/String;)Ljava/lang/StringBuilder;
def Q79 (Z : State) (qa1 : Addr) (qi5 : Int32) (qa6 : Addr) (qk7 : ClassId) (qc8 : List Int32) (h0 : Heap) (n0 : Nat) : QT := fun v h L => v = some (.ref qa1) ∧ Fr n0 L ∧ Keep h0 h [qa1, qa6] ∧ Exa Z h qa1 SB_ ∧ Fld Z h qa1 AB_ "count" "I" (.int (qi5 + (10 : Int32))) ∧ VA Z h qa1 qa6 ∧ VC Z h qa1 ∧ PA Z h qa6 qk7 .byte (34 : Int32) (qc8 ++ K2_)
theorem rm79 (hw : HW a0 Z) (G1 : Int32) (qa1 : Addr) (qa2 : Addr) (qa3 : Addr) (qk4 : ClassId) (qi5 : Int32) (qa6 : Addr) (qk7 : ClassId) (qc8 : List Int32) (h0 : Heap) (n0 : Nat) (X00 : Old Z n0 h0) (O2 : CO Z G1) (P5 : NZ G1) (E_qa2 : Exa Z h0 qa2 ST_) (F_qa2_coder : SC Z h0 qa2) (F_qa2_value : SV Z h0 qa2 qa3) (hp_qa2 : ∀ c ∈ K2_, ¬ c < 0 ∧ ¬ (255 : Int32) < c) (A_qa3 : Arv Z h0 qa3 qk4 .byte (10 : Int32) [.int 44, .int 32, .int 110, .int 101, .int 116, .int 119, .int 111, .int 114, .int 107, .int 61] (.int 0)) (F_qa1_count : VN Z h0 qa1 qi5) (F_qa1_value : VA Z h0 qa1 qa6) (A_qa6 : PA Z h0 qa6 qk7 .byte (34 : Int32) qc8) (F_qa1_coder : VC Z h0 qa1) (hc2 : ¬ ((0 : Int32) < ((qi5 + (10 : Int32)) - (34 : Int32)))) (E_qa1 : Exa Z h0 qa1 SB_) (hk3 : ((qi5 <<< ((0 : Int32) &&& 31))).toNatClampNeg = (qc8).length) (hk4 : ¬ (qi5 <<< ((0 : Int32) &&& 31)) < 0) (hk5 : ((0 : Int32)).toNatClampNeg + ((10 : Int32)).toNatClampNeg ≤ ((10 : Int32)).toNatClampNeg) (hk6 : ((qi5 <<< ((0 : Int32) &&& 31))).toNatClampNeg + ((10 : Int32)).toNatClampNeg ≤ ((34 : Int32)).toNatClampNeg) (hk7 : (K2_).length ≤ ((10 : Int32)).toNatClampNeg) (g_qa6 : n0 ≤ qa6) (ne_qa1_qa6 : qa1 ≠ qa6) (g_qa1 : n0 ≤ qa1) :
    MF l Z Y18_ jdk_67_method_7_code 2 (some (.object SB_)) (Rm 4 0 0 61) #[.ref qa1, .ref qa2] h0 (Q79 Z qa1 qi5 qa6 qk7 qc8 h0 n0) := by
 refine own_sF pn2 rfl (fun m => ef7 m qa1 qa2) ?_
 intro p e s m below meth c s₁ Bd hZ hh hx hby hml hown hnm X0 e0 pre0
 have N0 := Fr.nil n0
 obtain ⟨_, T1, L1, X1, hQ1, st1⟩ := own_cU 0 0 [] 2 #[rv qa1, rv qa2] X0 hx hZ hown E_qa1 (w93_ hw) (own_same (w94_ hw) (w113_ hw) rfl (by decide)) (w94_ hw) (w95_ hw) (w77_ hw) (w97_ hw) (rm78 l Z a0 hw G1 qa1 qa2 qa3 qk4 qi5 qa6 qk7 qc8 h0 n0 X00 O2 P5 E_qa2 F_qa2_coder F_qa2_value hp_qa2 A_qa3 F_qa1_count F_qa1_value A_qa6 F_qa1_coder hc2 E_qa1 hk3 hk4 hk5 hk6 hk7 g_qa6 ne_qa1_qa6 g_qa1) pd15 hml.symm (hb hby d7_2) e0 rfl rfl rfl rfl (by decide)
 obtain ⟨rfl, N1q, K1q, w8, w9, w10, w11, w12⟩ := hQ1
 have N1 := Fr.app N0 N1q
 have K13 := (Keep.refl h0 [qa1, qa6]).trans K1q (allS (Or.inl (mI 1 rfl)) (allS (Or.inl (mI 0 rfl)) all0))
 have E14_ := E_qa1.keep K1q
 refine own_lvF X1 Bd (.ref qa1) rfl ⟨rfl, N1, K13, E14_, w8, w9, w10, w12⟩ rfl (fun fs hr => pre0 _ (by
  show Sx p e below s₁ m 0 #[rv qa1, rv qa2] [] _
  refine zb X0 Bd d7_0 rfl rfl ?_
  refine zb X0 Bd d7_1 rfl rfl ?_
  refine st1 _ ?_
  refine XS.pop X1.here hx rfl (hb hby d7_5) rfl rfl ?_
  refine zb X1 Bd d7_6 rfl rfl ?_
  exact retOut X1 hx Bd.returns rfl (Or.inr (Or.inr (Or.inr (Or.inr ⟨rfl, rfl, rfl⟩)))) (hb hby d7_7) hr))
-- java/lang/AbstractStringBuilder.append(I)Ljava/lang/AbstractStringBuilder;
def Q80 (Z : State) (qa1 : Addr) (qi2 : Int32) (qi3 : Int32) (qc6 : List Int32) (h0 : Heap) (n0 : Nat) : QT := fun v h L => ∃ b10 : Addr, ∃ c11_ : ClassId, v = some (.ref qa1) ∧ Fr n0 L ∧ Keep h0 h [qa1] ∧ h0.size ≤ b10 ∧ Exa Z h qa1 SB_ ∧ VA Z h qa1 b10 ∧ VC Z h qa1 ∧ Fld Z h qa1 AB_ "count" "I" (.int (qi3 + (own_wd qi2))) ∧ Exa Z h b10 "[B" ∧ PA Z h b10 c11_ .byte (70 : Int32) (qc6 ++ (own_dec qi2))
abbrev l22_ (qa1 : Addr) (qi2 : Int32) (qi3 : Int32) : Array Slot := #[rv qa1, iv qi2, iv qi3, iv (qi3 + (own_wd qi2))]
theorem rm80 (hw : HW a0 Z) (G1 : Int32) (Gg0 : Addr) (Gg1 : Addr) (Kg2 : ClassId) (Kg3 : ClassId) (qa1 : Addr) (qi2 : Int32) (qi3 : Int32) (qa4 : Addr) (qk5 : ClassId) (qc6 : List Int32) (h0 : Heap) (n0 : Nat) (X00 : Old Z n0 h0) (O2 : CO Z G1) (P5 : NZ G1) (hEN : OwnEN Z Gg0 Gg1 Kg2 Kg3) (F_qa1_count : VN Z h0 qa1 qi3) (F_qa1_value : VA Z h0 qa1 qa4) (A_qa4 : PA Z h0 qa4 qk5 .byte (34 : Int32) qc6) (F_qa1_coder : VC Z h0 qa1) (hc4 : (0 : Int32) < ((qi3 + (own_wd qi2)) - (34 : Int32))) (hc5 : (((qi3 + (own_wd qi2)) <<< ((0 : Int32) &&& 31)) - (34 : Int32)) < (36 : Int32)) (E_qa1 : Exa Z h0 qa1 SB_) (hk6 : ((0 : Int32)).toNatClampNeg = (([] : List Int32)).length) (hk7 : ((0 : Int32)).toNatClampNeg + ((34 : Int32)).toNatClampNeg ≤ ((34 : Int32)).toNatClampNeg) (hk8 : ((0 : Int32)).toNatClampNeg + ((34 : Int32)).toNatClampNeg ≤ ((70 : Int32)).toNatClampNeg) (hk9 : (qc6).length ≤ ((34 : Int32)).toNatClampNeg) (g_qa1 : n0 ≤ qa1) (hk25 : ((qi3 + (own_wd qi2))).toInt = (((qc6).length + (own_dec qi2).length : Nat) : Int)) (hk26 : (((qc6).length + (own_dec qi2).length : Nat) : Int) ≤ ((70 : Int32)).toInt) (hk27 : (qc6).length ≤ 900) :
    MF l Z Y22_ jdk_68_method_32_code 4 (some (.object AB_)) (Rm 4 1 70 62) #[.ref qa1, .int qi2] h0 (Q80 Z qa1 qi2 qi3 qc6 h0 n0) := by
 refine own_sF pn3 rfl (fun m => ef15 m qa1 qi2) ?_
 intro p e s m below meth c s₁ Bd hZ hh hx hby hml hown hnm X0 e0 pre0
 have N0 := Fr.nil n0
 obtain ⟨T1, X1, e1, st1⟩ := own_gF 1 #[rv qa1, iv qi2, .unset, .unset] [] X0 hx hZ hown (w108_ hw) Via.refl e0 F_qa1_count (hb hby d20_1)
 obtain ⟨_, T2, L2, X2, hQ2, st2⟩ := own_cS 0 0 [.int qi3] 7 #[rv qa1, iv qi2, iv qi3, .unset] X1 hx hZ hown (w167_ hw) (w168_ hw) (w169_ hw) (w170_ hw) (rm19 l Z a0 hw  qi2 h0 n0 X00 ) pd1 hml.symm (hb hby d20_7) e1 rfl rfl rfl rfl (by decide)
 obtain ⟨rfl, N2q, e2q⟩ := hQ2
 have N2 := Fr.app N0 N2q
 obtain ⟨_, T3, L3, X3, hQ3, st3⟩ := own_cP 1 70 [] 14 (l22_ qa1 qi2 qi3) X2 hx hZ hown E_qa1 (w110_ hw) (w111_ hw) (w113_ hw) (w112_ hw) (w77_ hw) (w114_ hw) (rm30 l Z a0 hw  qa1 (qi3 + (own_wd qi2)) qa4 qk5 qc6 qi3 h0 n0 X00 F_qa1_value A_qa4 F_qa1_coder hc4 hc5 E_qa1 hk6 hk7 hk8 hk9 g_qa1 F_qa1_count) pd5 hml.symm (hb hby d20_14) e2q rfl rfl rfl rfl (by decide)
 obtain ⟨b10, c11_, rfl, N3q, K3q, w12, w13, w14, w15, w16, w17, w18⟩ := hQ3
 have N3 := Fr.app N2 N3q
 have K19 := (Keep.refl h0 [qa1]).trans K3q (allS (Or.inl (mI 0 rfl)) all0)
 have O21 := X00.keep K3q (allS g_qa1 all0)
 have E22_ := E_qa1.keep K3q
 obtain ⟨_, T20, L20, X20, hQ20, st20⟩ := own_cV 1 70 [] 18 (l22_ qa1 qi2 qi3) X3 hx hZ hown E22_ (w171_ hw) (w172_ hw) (notFace_of_selects (args := #[]) (mvT hZ (w174_ hw))) (w174_ hw) (w173_ hw) (w77_ hw) (w175_ hw) (rm21 l Z a0 hw G1 qa1 T3.heap n0 O21 O2 P5 w14) pd17 hml.symm (hb hby d20_18) rfl rfl rfl rfl rfl (by decide)
 obtain ⟨rfl, N20q, e20q⟩ := hQ20
 have N20 := Fr.app N3 N20q
 obtain ⟨T23, X23, e23, st23⟩ := own_gF 27 (l22_ qa1 qi2 qi3) [(.int (qi3 + (own_wd qi2))), .int qi2] X20 hx hZ hown (w81_ hw) Via.refl e20q w13 (hb hby d20_27)
 have g_b10 : n0 ≤ b10 := Nat.le_trans (Nat.le_trans (Nat.le_of_eq X00.1.symm) X00.2.1) w12
 obtain ⟨_, T24, L24, X24, hQ24, st24⟩ := own_cS 1 70 [] 30 (l22_ qa1 qi2 qi3) X23 hx hZ hown (w176_ hw) (w177_ hw) (w169_ hw) (w178_ hw) (rm22 l Z a0 hw Gg0 Gg1 Kg2 Kg3 qi2 (qi3 + (own_wd qi2)) b10 c11_ (70 : Int32) qc6 T3.heap n0 O21 hEN w18 hk25 hk26 hk27 g_b10) pd18 hml.symm (hb hby d20_30) e23 rfl rfl rfl rfl (by decide)
 obtain ⟨z28_, rfl, N24q, K24q, w29⟩ := hQ24
 have N24 := Fr.app N20 N24q
 have sz_b10 : h0.size ≤ b10 := w12
 have K30 := K19.trans K24q (allS (Or.inr sz_b10) all0)
 have nx31 : qa1 ≠ b10 := (Nat.ne_of_lt (Nat.lt_of_lt_of_le E_qa1.lt w12))
 have F32_ := w16.keep K24q (ninS nx31 nin0)
 have E33_ := E22_.keep K24q
 obtain ⟨T34, h34, X34, e34, W34, st34⟩ := putF X24 hx hZ hown (host := "") (Or.inl (w108_ hw)) Via.refl rfl F32_ E33_ (Or.inl (w109_ hw)) (w68_ hw) (ty := .int) (by decide) rfl rfl (g := (mkF m 50 (l22_ qa1 qi2 qi3) [(.int (qi3 + (own_wd qi2))), .ref qa1])) rfl rfl (hb hby d20_50)
 have N34 := Fr.snoc X34 N24 g_qa1
 have K35 := K30.wr W34 (Or.inl (mI 0 rfl))
 have F36_ : Fld Z h34 qa1 AB_ "count" "I" (.int (qi3 + (own_wd qi2))) := F32_.same W34
 have E37_ := E33_.wr W34
 have F38_ := w13.keep K24q (ninS nx31 nin0)
 have F39_ := F38_.other W34 (Or.inr (slot_ne (Or.inl (w82_ hw)) (Or.inl (w109_ hw)) (by decide) (t := (.array .byte)) (t' := .int) (by decide) (by decide)))
 have F40_ := w14.keep K24q (ninS nx31 nin0)
 have F41_ := F40_.other W34 (Or.inr (slot_ne (Or.inl (w84_ hw)) (Or.inl (w109_ hw)) (by decide) (t := .byte) (t' := .int) (by decide) (by decide)))
 have E42_ := w17.keep K24q
 have E43_ := E42_.wr W34
 have A44_ := w29.other W34 (Ne.symm nx31)
 refine own_lvF X34 Bd (.ref qa1) e34 ⟨b10, c11_, rfl, N34, K35, sz_b10, E37_, F39_, F41_, F36_, E43_, A44_⟩ rfl (fun fs hr => pre0 _ (by
  show Sx p e below s₁ m 0 #[rv qa1, iv qi2, .unset, .unset] [] _
  refine zb X0 Bd d20_0 rfl rfl ?_
  refine st1 _ ?_
  refine zt X1 Bd d20_4 (l' := #[rv qa1, iv qi2, iv qi3, .unset]) rfl ?_
  refine zj X1 Bd d20_5 rfl ?_
  refine zj X1 Bd d20_6 rfl ?_
  refine st2 _ ?_
  refine XS.iadd X2.here hx rfl (hb hby d20_10) rfl ?_
  refine zt X2 Bd d20_11 (l' := (l22_ qa1 qi2 qi3)) rfl ?_
  refine zb X2 Bd d20_12 rfl rfl ?_
  refine zj X2 Bd d20_13 rfl ?_
  refine st3 _ ?_
  refine zb X3 Bd d20_17 rfl rfl ?_
  refine st20 _ ?_
  refine zo X20 Bd d20_21 (XT.i0_eq_f ((by decide) : ¬ ((1 : Int32) = (0 : Int32)))) ?_
  refine zj X20 Bd d20_24 rfl ?_
  refine zj X20 Bd d20_25 rfl ?_
  refine zb X20 Bd d20_26 rfl rfl ?_
  refine st23 _ ?_
  refine st24 _ ?_
  refine XS.pop X24.here hx rfl (hb hby d20_33) rfl rfl ?_
  refine zg (pc' := 48) X24 Bd d20_34 rfl ?_
  refine zb X24 Bd d20_48 rfl rfl ?_
  refine zj X24 Bd d20_49 rfl ?_
  refine st34 _ ?_
  refine zb X34 Bd d20_53 rfl rfl ?_
  exact retOut X34 hx Bd.returns rfl (Or.inr (Or.inr (Or.inr (Or.inr ⟨rfl, rfl, rfl⟩)))) (hb hby d20_54) hr))
-- java/lang/StringBuilder.append(I)Ljava/lang/StringBuilder;
def Q81 (Z : State) (qa1 : Addr) (qi2 : Int32) (qi3 : Int32) (qc6 : List Int32) (h0 : Heap) (n0 : Nat) : QT := fun v h L => ∃ b11 : Addr, ∃ c12_ : ClassId, v = some (.ref qa1) ∧ Fr n0 L ∧ Keep h0 h [qa1] ∧ h0.size ≤ b11 ∧ Exa Z h qa1 SB_ ∧ VA Z h qa1 b11 ∧ VC Z h qa1 ∧ Fld Z h qa1 AB_ "count" "I" (.int (qi3 + (own_wd qi2))) ∧ Exa Z h b11 "[B" ∧ PA Z h b11 c12_ .byte (70 : Int32) (qc6 ++ (own_dec qi2))
theorem rm81 (hw : HW a0 Z) (G1 : Int32) (Gg0 : Addr) (Gg1 : Addr) (Kg2 : ClassId) (Kg3 : ClassId) (qa1 : Addr) (qi2 : Int32) (qi3 : Int32) (qa4 : Addr) (qk5 : ClassId) (qc6 : List Int32) (h0 : Heap) (n0 : Nat) (X00 : Old Z n0 h0) (O2 : CO Z G1) (P5 : NZ G1) (hEN : OwnEN Z Gg0 Gg1 Kg2 Kg3) (F_qa1_count : VN Z h0 qa1 qi3) (F_qa1_value : VA Z h0 qa1 qa4) (A_qa4 : PA Z h0 qa4 qk5 .byte (34 : Int32) qc6) (F_qa1_coder : VC Z h0 qa1) (hc2 : (0 : Int32) < ((qi3 + (own_wd qi2)) - (34 : Int32))) (hc3 : (((qi3 + (own_wd qi2)) <<< ((0 : Int32) &&& 31)) - (34 : Int32)) < (36 : Int32)) (E_qa1 : Exa Z h0 qa1 SB_) (hk4 : ((0 : Int32)).toNatClampNeg = (([] : List Int32)).length) (hk5 : ((0 : Int32)).toNatClampNeg + ((34 : Int32)).toNatClampNeg ≤ ((34 : Int32)).toNatClampNeg) (hk6 : ((0 : Int32)).toNatClampNeg + ((34 : Int32)).toNatClampNeg ≤ ((70 : Int32)).toNatClampNeg) (hk7 : (qc6).length ≤ ((34 : Int32)).toNatClampNeg) (g_qa1 : n0 ≤ qa1) (hk8 : ((qi3 + (own_wd qi2))).toInt = (((qc6).length + (own_dec qi2).length : Nat) : Int)) (hk9 : (((qc6).length + (own_dec qi2).length : Nat) : Int) ≤ ((70 : Int32)).toInt) (hk10 : (qc6).length ≤ 900) :
    MF l Z Y23_ jdk_67_method_15_code 2 (some (.object SB_)) (Rm 5 1 70 77) #[.ref qa1, .int qi2] h0 (Q81 Z qa1 qi2 qi3 qc6 h0 n0) := by
 refine own_sF pn2 rfl (fun m => ef6 m qa1 qi2) ?_
 intro p e s m below meth c s₁ Bd hZ hh hx hby hml hown hnm X0 e0 pre0
 have N0 := Fr.nil n0
 obtain ⟨_, T1, L1, X1, hQ1, st1⟩ := own_cU 1 70 [] 2 #[rv qa1, iv qi2] X0 hx hZ hown E_qa1 (w163_ hw) (own_same (w164_ hw) (w113_ hw) rfl (by decide)) (w164_ hw) (w95_ hw) (w77_ hw) (w166_ hw) (rm80 l Z a0 hw G1 Gg0 Gg1 Kg2 Kg3 qa1 qi2 qi3 qa4 qk5 qc6 h0 n0 X00 O2 P5 hEN F_qa1_count F_qa1_value A_qa4 F_qa1_coder hc2 hc3 E_qa1 hk4 hk5 hk6 hk7 g_qa1 hk8 hk9 hk10) pd19 hml.symm (hb hby d19_2) e0 rfl rfl rfl rfl (by decide)
 obtain ⟨b11, c12_, rfl, N1q, K1q, w13, w14, w15, w16, w17, w18, w19⟩ := hQ1
 have N1 := Fr.app N0 N1q
 have K20 := (Keep.refl h0 [qa1]).trans K1q (allS (Or.inl (mI 0 rfl)) all0)
 have sz_b11 : h0.size ≤ b11 := w13
 have E21_ := E_qa1.keep K1q
 refine own_lvF X1 Bd (.ref qa1) rfl ⟨b11, c12_, rfl, N1, K20, sz_b11, E21_, w15, w16, w17, w18, w19⟩ rfl (fun fs hr => pre0 _ (by
  show Sx p e below s₁ m 0 #[rv qa1, iv qi2] [] _
  refine zb X0 Bd d19_0 rfl rfl ?_
  refine zj X0 Bd d19_1 rfl ?_
  refine st1 _ ?_
  refine XS.pop X1.here hx rfl (hb hby d19_5) rfl rfl ?_
  refine zb X1 Bd d19_6 rfl rfl ?_
  exact retOut X1 hx Bd.returns rfl (Or.inr (Or.inr (Or.inr (Or.inr ⟨rfl, rfl, rfl⟩)))) (hb hby d19_7) hr))
-- java/lang/AbstractStringBuilder.append(I)Ljava/lang/AbstractStringBuilder;
def Q82 (Z : State) (qa1 : Addr) (qi2 : Int32) (qi3 : Int32) (qa4 : Addr) (qk5 : ClassId) (qc6 : List Int32) (h0 : Heap) (n0 : Nat) : QT := fun v h L => v = some (.ref qa1) ∧ Fr n0 L ∧ Keep h0 h [qa4, qa1] ∧ Fld Z h qa1 AB_ "count" "I" (.int (qi3 + (own_wd qi2))) ∧ VA Z h qa1 qa4 ∧ VC Z h qa1 ∧ Exa Z h qa1 SB_ ∧ PA Z h qa4 qk5 .byte (34 : Int32) (qc6 ++ (own_dec qi2))
abbrev l23_ (qa1 : Addr) (qi2 : Int32) (qi3 : Int32) : Array Slot := #[rv qa1, iv qi2, iv qi3, iv (qi3 + (own_wd qi2))]
theorem rm82 (hw : HW a0 Z) (G1 : Int32) (Gg0 : Addr) (Gg1 : Addr) (Kg2 : ClassId) (Kg3 : ClassId) (qa1 : Addr) (qi2 : Int32) (qi3 : Int32) (qa4 : Addr) (qk5 : ClassId) (qc6 : List Int32) (h0 : Heap) (n0 : Nat) (X00 : Old Z n0 h0) (O2 : CO Z G1) (P5 : NZ G1) (hEN : OwnEN Z Gg0 Gg1 Kg2 Kg3) (F_qa1_count : VN Z h0 qa1 qi3) (F_qa1_value : VA Z h0 qa1 qa4) (A_qa4 : PA Z h0 qa4 qk5 .byte (34 : Int32) qc6) (F_qa1_coder : VC Z h0 qa1) (hc4 : ¬ ((0 : Int32) < ((qi3 + (own_wd qi2)) - (34 : Int32)))) (E_qa1 : Exa Z h0 qa1 SB_) (hk8 : ((qi3 + (own_wd qi2))).toInt = (((qc6).length + (own_dec qi2).length : Nat) : Int)) (hk9 : (((qc6).length + (own_dec qi2).length : Nat) : Int) ≤ ((34 : Int32)).toInt) (hk10 : (qc6).length ≤ 900) (g_qa4 : n0 ≤ qa4) (ne_qa1_qa4 : qa1 ≠ qa4) (g_qa1 : n0 ≤ qa1) :
    MF l Z Y22_ jdk_68_method_32_code 4 (some (.object AB_)) (Rm 1 0 0 18) #[.ref qa1, .int qi2] h0 (Q82 Z qa1 qi2 qi3 qa4 qk5 qc6 h0 n0) := by
 refine own_sF pn3 rfl (fun m => ef15 m qa1 qi2) ?_
 intro p e s m below meth c s₁ Bd hZ hh hx hby hml hown hnm X0 e0 pre0
 have N0 := Fr.nil n0
 obtain ⟨T1, X1, e1, st1⟩ := own_gF 1 #[rv qa1, iv qi2, .unset, .unset] [] X0 hx hZ hown (w108_ hw) Via.refl e0 F_qa1_count (hb hby d20_1)
 obtain ⟨_, T2, L2, X2, hQ2, st2⟩ := own_cS 0 0 [.int qi3] 7 #[rv qa1, iv qi2, iv qi3, .unset] X1 hx hZ hown (w167_ hw) (w168_ hw) (w169_ hw) (w170_ hw) (rm19 l Z a0 hw  qi2 h0 n0 X00 ) pd1 hml.symm (hb hby d20_7) e1 rfl rfl rfl rfl (by decide)
 obtain ⟨rfl, N2q, e2q⟩ := hQ2
 have N2 := Fr.app N0 N2q
 obtain ⟨_, T3, L3, X3, hQ3, st3⟩ := own_cP 0 0 [] 14 (l23_ qa1 qi2 qi3) X2 hx hZ hown E_qa1 (w110_ hw) (w111_ hw) (w113_ hw) (w112_ hw) (w77_ hw) (w114_ hw) (rm20 l Z a0 hw  qa1 (qi3 + (own_wd qi2)) qa4 qk5 qc6 h0 n0 X00 F_qa1_value A_qa4 F_qa1_coder hc4) pd5 hml.symm (hb hby d20_14) e2q rfl rfl rfl rfl (by decide)
 obtain ⟨rfl, N3q, e3q⟩ := hQ3
 have N3 := Fr.app N2 N3q
 obtain ⟨_, T5, L5, X5, hQ5, st5⟩ := own_cV 0 0 [] 18 (l23_ qa1 qi2 qi3) X3 hx hZ hown E_qa1 (w171_ hw) (w172_ hw) (notFace_of_selects (args := #[]) (mvT hZ (w174_ hw))) (w174_ hw) (w173_ hw) (w77_ hw) (w175_ hw) (rm21 l Z a0 hw G1 qa1 h0 n0 X00 O2 P5 F_qa1_coder) pd17 hml.symm (hb hby d20_18) e3q rfl rfl rfl rfl (by decide)
 obtain ⟨rfl, N5q, e5q⟩ := hQ5
 have N5 := Fr.app N3 N5q
 obtain ⟨T6, X6, e6, st6⟩ := own_gF 27 (l23_ qa1 qi2 qi3) [(.int (qi3 + (own_wd qi2))), .int qi2] X5 hx hZ hown (w81_ hw) Via.refl e5q F_qa1_value (hb hby d20_27)
 obtain ⟨_, T7, L7, X7, hQ7, st7⟩ := own_cS 0 0 [] 30 (l23_ qa1 qi2 qi3) X6 hx hZ hown (w176_ hw) (w177_ hw) (w169_ hw) (w178_ hw) (rm22 l Z a0 hw Gg0 Gg1 Kg2 Kg3 qi2 (qi3 + (own_wd qi2)) qa4 qk5 (34 : Int32) qc6 h0 n0 X00 hEN A_qa4 hk8 hk9 hk10 g_qa4) pd18 hml.symm (hb hby d20_30) e6 rfl rfl rfl rfl (by decide)
 obtain ⟨z11_, rfl, N7q, K7q, w12⟩ := hQ7
 have N7 := Fr.app N5 N7q
 have K13 := (Keep.refl h0 [qa4, qa1]).trans K7q (allS (Or.inl (mI 0 rfl)) all0)
 have F14_ := F_qa1_count.keep K7q (ninS ne_qa1_qa4 nin0)
 have E15_ := E_qa1.keep K7q
 obtain ⟨T16, h16, X16, e16, W16, st16⟩ := putF X7 hx hZ hown (host := "") (Or.inl (w108_ hw)) Via.refl rfl F14_ E15_ (Or.inl (w109_ hw)) (w68_ hw) (ty := .int) (by decide) rfl rfl (g := (mkF m 50 (l23_ qa1 qi2 qi3) [(.int (qi3 + (own_wd qi2))), .ref qa1])) rfl rfl (hb hby d20_50)
 have N16 := Fr.snoc X16 N7 g_qa1
 have K17 := K13.wr W16 (Or.inl (mI 1 rfl))
 have F18_ : Fld Z h16 qa1 AB_ "count" "I" (.int (qi3 + (own_wd qi2))) := F14_.same W16
 have F19_ := F_qa1_value.keep K7q (ninS ne_qa1_qa4 nin0)
 have F20_ := F19_.other W16 (Or.inr (slot_ne (Or.inl (w82_ hw)) (Or.inl (w109_ hw)) (by decide) (t := (.array .byte)) (t' := .int) (by decide) (by decide)))
 have F21_ := F_qa1_coder.keep K7q (ninS ne_qa1_qa4 nin0)
 have F22_ := F21_.other W16 (Or.inr (slot_ne (Or.inl (w84_ hw)) (Or.inl (w109_ hw)) (by decide) (t := .byte) (t' := .int) (by decide) (by decide)))
 have E23_ := E15_.wr W16
 have A24_ := w12.other W16 (Ne.symm ne_qa1_qa4)
 refine own_lvF X16 Bd (.ref qa1) e16 ⟨rfl, N16, K17, F18_, F20_, F22_, E23_, A24_⟩ rfl (fun fs hr => pre0 _ (by
  show Sx p e below s₁ m 0 #[rv qa1, iv qi2, .unset, .unset] [] _
  refine zb X0 Bd d20_0 rfl rfl ?_
  refine st1 _ ?_
  refine zt X1 Bd d20_4 (l' := #[rv qa1, iv qi2, iv qi3, .unset]) rfl ?_
  refine zj X1 Bd d20_5 rfl ?_
  refine zj X1 Bd d20_6 rfl ?_
  refine st2 _ ?_
  refine XS.iadd X2.here hx rfl (hb hby d20_10) rfl ?_
  refine zt X2 Bd d20_11 (l' := (l23_ qa1 qi2 qi3)) rfl ?_
  refine zb X2 Bd d20_12 rfl rfl ?_
  refine zj X2 Bd d20_13 rfl ?_
  refine st3 _ ?_
  refine zb X3 Bd d20_17 rfl rfl ?_
  refine st5 _ ?_
  refine zo X5 Bd d20_21 (XT.i0_eq_f ((by decide) : ¬ ((1 : Int32) = (0 : Int32)))) ?_
  refine zj X5 Bd d20_24 rfl ?_
  refine zj X5 Bd d20_25 rfl ?_
  refine zb X5 Bd d20_26 rfl rfl ?_
  refine st6 _ ?_
  refine st7 _ ?_
  refine XS.pop X7.here hx rfl (hb hby d20_33) rfl rfl ?_
  refine zg (pc' := 48) X7 Bd d20_34 rfl ?_
  refine zb X7 Bd d20_48 rfl rfl ?_
  refine zj X7 Bd d20_49 rfl ?_
  refine st16 _ ?_
  refine zb X16 Bd d20_53 rfl rfl ?_
  exact retOut X16 hx Bd.returns rfl (Or.inr (Or.inr (Or.inr (Or.inr ⟨rfl, rfl, rfl⟩)))) (hb hby d20_54) hr))
-- java/lang/StringBuilder.append(I)Ljava/lang/StringBuilder;
def Q83 (Z : State) (qa1 : Addr) (qi2 : Int32) (qi3 : Int32) (qa4 : Addr) (qk5 : ClassId) (qc6 : List Int32) (h0 : Heap) (n0 : Nat) : QT := fun v h L => v = some (.ref qa1) ∧ Fr n0 L ∧ Keep h0 h [qa1, qa4] ∧ Exa Z h qa1 SB_ ∧ Fld Z h qa1 AB_ "count" "I" (.int (qi3 + (own_wd qi2))) ∧ VA Z h qa1 qa4 ∧ VC Z h qa1 ∧ PA Z h qa4 qk5 .byte (34 : Int32) (qc6 ++ (own_dec qi2))
theorem rm83 (hw : HW a0 Z) (G1 : Int32) (Gg0 : Addr) (Gg1 : Addr) (Kg2 : ClassId) (Kg3 : ClassId) (qa1 : Addr) (qi2 : Int32) (qi3 : Int32) (qa4 : Addr) (qk5 : ClassId) (qc6 : List Int32) (h0 : Heap) (n0 : Nat) (X00 : Old Z n0 h0) (O2 : CO Z G1) (P5 : NZ G1) (hEN : OwnEN Z Gg0 Gg1 Kg2 Kg3) (F_qa1_count : VN Z h0 qa1 qi3) (F_qa1_value : VA Z h0 qa1 qa4) (A_qa4 : PA Z h0 qa4 qk5 .byte (34 : Int32) qc6) (F_qa1_coder : VC Z h0 qa1) (hc2 : ¬ ((0 : Int32) < ((qi3 + (own_wd qi2)) - (34 : Int32)))) (E_qa1 : Exa Z h0 qa1 SB_) (hk3 : ((qi3 + (own_wd qi2))).toInt = (((qc6).length + (own_dec qi2).length : Nat) : Int)) (hk4 : (((qc6).length + (own_dec qi2).length : Nat) : Int) ≤ ((34 : Int32)).toInt) (hk5 : (qc6).length ≤ 900) (g_qa4 : n0 ≤ qa4) (ne_qa1_qa4 : qa1 ≠ qa4) (g_qa1 : n0 ≤ qa1) :
    MF l Z Y23_ jdk_67_method_15_code 2 (some (.object SB_)) (Rm 2 0 0 33) #[.ref qa1, .int qi2] h0 (Q83 Z qa1 qi2 qi3 qa4 qk5 qc6 h0 n0) := by
 refine own_sF pn2 rfl (fun m => ef6 m qa1 qi2) ?_
 intro p e s m below meth c s₁ Bd hZ hh hx hby hml hown hnm X0 e0 pre0
 have N0 := Fr.nil n0
 obtain ⟨_, T1, L1, X1, hQ1, st1⟩ := own_cU 0 0 [] 2 #[rv qa1, iv qi2] X0 hx hZ hown E_qa1 (w163_ hw) (own_same (w164_ hw) (w113_ hw) rfl (by decide)) (w164_ hw) (w95_ hw) (w77_ hw) (w166_ hw) (rm82 l Z a0 hw G1 Gg0 Gg1 Kg2 Kg3 qa1 qi2 qi3 qa4 qk5 qc6 h0 n0 X00 O2 P5 hEN F_qa1_count F_qa1_value A_qa4 F_qa1_coder hc2 E_qa1 hk3 hk4 hk5 g_qa4 ne_qa1_qa4 g_qa1) pd19 hml.symm (hb hby d19_2) e0 rfl rfl rfl rfl (by decide)
 obtain ⟨rfl, N1q, K1q, w6, w7, w8, w9, w10⟩ := hQ1
 have N1 := Fr.app N0 N1q
 have K11 := (Keep.refl h0 [qa1, qa4]).trans K1q (allS (Or.inl (mI 1 rfl)) (allS (Or.inl (mI 0 rfl)) all0))
 have E12_ := E_qa1.keep K1q
 refine own_lvF X1 Bd (.ref qa1) rfl ⟨rfl, N1, K11, E12_, w6, w7, w8, w10⟩ rfl (fun fs hr => pre0 _ (by
  show Sx p e below s₁ m 0 #[rv qa1, iv qi2] [] _
  refine zb X0 Bd d19_0 rfl rfl ?_
  refine zj X0 Bd d19_1 rfl ?_
  refine st1 _ ?_
  refine XS.pop X1.here hx rfl (hb hby d19_5) rfl rfl ?_
  refine zb X1 Bd d19_6 rfl rfl ?_
  exact retOut X1 hx Bd.returns rfl (Or.inr (Or.inr (Or.inr (Or.inr ⟨rfl, rfl, rfl⟩)))) (hb hby d19_7) hr))
-- java/lang/AbstractStringBuilder.append(Ljava/lang/String;)Ljava/lang/AbstractStringBuilder;
def Q84 (Z : State) (qa1 : Addr) (qi5 : Int32) (qc8 : List Int32) (h0 : Heap) (n0 : Nat) : QT := fun v h L => ∃ b11 : Addr, ∃ c12_ : ClassId, v = some (.ref qa1) ∧ Fr n0 L ∧ Keep h0 h [qa1] ∧ h0.size ≤ b11 ∧ Exa Z h qa1 SB_ ∧ VA Z h qa1 b11 ∧ VC Z h qa1 ∧ Fld Z h qa1 AB_ "count" "I" (.int (qi5 + (7 : Int32))) ∧ Exa Z h b11 "[B" ∧ PA Z h b11 c12_ .byte (70 : Int32) (qc8 ++ K3_)
theorem rm84 (hw : HW a0 Z) (G1 : Int32) (qa1 : Addr) (qa2 : Addr) (qa3 : Addr) (qk4 : ClassId) (qi5 : Int32) (qa6 : Addr) (qk7 : ClassId) (qc8 : List Int32) (h0 : Heap) (n0 : Nat) (X00 : Old Z n0 h0) (O2 : CO Z G1) (P5 : NZ G1) (E_qa2 : Exa Z h0 qa2 ST_) (F_qa2_coder : SC Z h0 qa2) (F_qa2_value : SV Z h0 qa2 qa3) (hp_qa2 : ∀ c ∈ K3_, ¬ c < 0 ∧ ¬ (255 : Int32) < c) (A_qa3 : Arv Z h0 qa3 qk4 .byte (7 : Int32) [.int 44, .int 32, .int 104, .int 105, .int 116, .int 115, .int 61] (.int 0)) (F_qa1_count : VN Z h0 qa1 qi5) (F_qa1_value : VA Z h0 qa1 qa6) (A_qa6 : PA Z h0 qa6 qk7 .byte (34 : Int32) qc8) (F_qa1_coder : VC Z h0 qa1) (hc5 : (0 : Int32) < ((qi5 + (7 : Int32)) - (34 : Int32))) (hc6 : (((qi5 + (7 : Int32)) <<< ((0 : Int32) &&& 31)) - (34 : Int32)) < (36 : Int32)) (E_qa1 : Exa Z h0 qa1 SB_) (hk7 : ((0 : Int32)).toNatClampNeg = (([] : List Int32)).length) (hk8 : ((0 : Int32)).toNatClampNeg + ((34 : Int32)).toNatClampNeg ≤ ((34 : Int32)).toNatClampNeg) (hk9 : ((0 : Int32)).toNatClampNeg + ((34 : Int32)).toNatClampNeg ≤ ((70 : Int32)).toNatClampNeg) (hk10 : (qc8).length ≤ ((34 : Int32)).toNatClampNeg) (g_qa1 : n0 ≤ qa1) (ne_qa2_qa1 : qa2 ≠ qa1) (ne_qa3_qa1 : qa3 ≠ qa1) (hk28 : ((qi5 <<< ((0 : Int32) &&& 31))).toNatClampNeg = (qc8).length) (hk29 : ¬ (qi5 <<< ((0 : Int32) &&& 31)) < 0) (hk30 : ((0 : Int32)).toNatClampNeg + ((7 : Int32)).toNatClampNeg ≤ ((7 : Int32)).toNatClampNeg) (hk31 : ((qi5 <<< ((0 : Int32) &&& 31))).toNatClampNeg + ((7 : Int32)).toNatClampNeg ≤ ((70 : Int32)).toNatClampNeg) (hk32 : (K3_).length ≤ ((7 : Int32)).toNatClampNeg) :
    MF l Z Y16_ jdk_68_method_22_code 3 (some (.object AB_)) (Rm 4 1 70 62) #[.ref qa1, .ref qa2] h0 (Q84 Z qa1 qi5 qc8 h0 n0) := by
 refine own_sF pn3 rfl (fun m => ef8 m qa1 qa2) ?_
 intro p e s m below meth c s₁ Bd hZ hh hx hby hml hown hnm X0 e0 pre0
 have N0 := Fr.nil n0
 have hcd2 : StrChars.Road.CodA K3_ 0 (7 : Int32) [.int 44, .int 32, .int 104, .int 105, .int 116, .int 115, .int 61] := StrChars.Road.codOf (n := 7) rfl (fun x hx => (hp_qa2 x hx).2)
 have hbd2 : ∀ x ∈ K3_, ¬ x < 0 ∧ ¬ (65535 : Int32) < x := own_up _ hp_qa2
 obtain ⟨cq1, kq1, q1a, q1b, q1c⟩ := isOf hZ e0 E_qa2
 obtain ⟨_, T1, L1, X1, hQ1, st1⟩ := own_cb0 0 0 0 0 0 0 (X0.virtualBack hx (y := Y17_) (z := Y17_) hown (mvT hZ (w98_ hw)) (mvT hZ (w99_ hw)) (notFace_of_selects (args := #[]) (mvT hZ (w101_ hw))) (mvT hZ (w101_ hw)) (mvT hZ (w100_ hw)) (by decide) (StrChars.Road.lenW (W := 0) hZ (own_wl hw) (kI := 4) (w21_ hw) E_qa2 F_qa2_value F_qa2_coder A_qa3 hcd2 hbd2 (O2.ext X00.2) P5 (lE rfl) (lE rfl) (lE rfl)) q1a q1c (g := (mkF m 10 #[rv qa1, rv qa2, .unset] [.ref qa2])) rfl hml.symm (Steps.refl _) (argsL := []) (rest := []) (lenOf pd7 rfl) rfl (own_hw rfl) (hb hby d8_10) (fun _ _ => ⟨rfl, e0, (lE rfl : 0 + 0 ≤ _), (lE rfl : 0 + 0 ≤ _)⟩)) rfl rfl
 dsimp only [Pt.U, Pt.locs, Pt.cells, Pt.slots] at hQ1
 obtain ⟨rfl, rfl, e1q⟩ := hQ1
 have N1 := Fr.app N0 (Fr.nil n0)
 obtain ⟨T3, X3, e3, st3⟩ := own_gF 16 #[rv qa1, rv qa2, iv 7] [.ref qa1] X1 hx hZ hown (w108_ hw) Via.refl e1q F_qa1_count (hb hby d8_16)
 obtain ⟨_, T4, L4, X4, hQ4, st4⟩ := own_cP 1 70 [] 21 #[rv qa1, rv qa2, iv 7] X3 hx hZ hown E_qa1 (w110_ hw) (w111_ hw) (w113_ hw) (w112_ hw) (w77_ hw) (w114_ hw) (rm30 l Z a0 hw  qa1 (qi5 + (7 : Int32)) qa6 qk7 qc8 qi5 h0 n0 X00 F_qa1_value A_qa6 F_qa1_coder hc5 hc6 E_qa1 hk7 hk8 hk9 hk10 g_qa1 F_qa1_count) pd5 hml.symm (hb hby d8_21) e3 rfl rfl rfl rfl (by decide)
 obtain ⟨b11, c12_, rfl, N4q, K4q, w13, w14, w15, w16, w17, w18, w19⟩ := hQ4
 have N4 := Fr.app N1 N4q
 have K20 := (Keep.refl h0 [qa1]).trans K4q (allS (Or.inl (mI 0 rfl)) all0)
 obtain ⟨T21, X21, e21, st21⟩ := own_gF 26 #[rv qa1, rv qa2, iv 7] [.ref qa1] X4 hx hZ hown (w108_ hw) Via.refl rfl w17 (hb hby d8_26)
 have E23_ := E_qa2.keep K4q
 have F24_ := F_qa2_coder.keep K4q (ninS ne_qa2_qa1 nin0)
 have E25_ := E_qa1.keep K4q
 have F26_ := F_qa2_value.keep K4q (ninS ne_qa2_qa1 nin0)
 have A27_ := A_qa3.keep K4q (ninS ne_qa3_qa1 nin0)
 have g_b11 : n0 ≤ b11 := Nat.le_trans (Nat.le_trans (Nat.le_of_eq X00.1.symm) X00.2.1) w13
 have O33 := X00.keep K4q (allS g_qa1 all0)
 obtain ⟨_, T22, L22, X22, hQ22, st22⟩ := own_cP 1 70 [] 30 #[rv qa1, rv qa2, iv 7] X21 hx hZ hown E25_ (w141_ hw) (w142_ hw) (w144_ hw) (w143_ hw) (w77_ hw) (w145_ hw) (rm39 l Z a0 hw G1 qa1 qi5 qa2 b11 qa3 qk4 c12_ qc8 T4.heap n0 O33 O2 P5 w15 E23_ F24_ E25_ w14 F26_ A27_ w19 hk28 hk29 hk30 hk31 hk32 g_b11) pd14 hml.symm (hb hby d8_30) e21 rfl rfl rfl rfl (by decide)
 obtain ⟨rfl, N22q, K22q, w34⟩ := hQ22
 have N22 := Fr.app N4 N22q
 have sz_b11 : h0.size ≤ b11 := w13
 have K35 := K20.trans K22q (allS (Or.inr sz_b11) all0)
 have nx37 : qa1 ≠ b11 := (Nat.ne_of_lt (Nat.lt_of_lt_of_le E_qa1.lt w13))
 have F38_ := w17.keep K22q (ninS nx37 nin0)
 obtain ⟨T36, X36, e36, st36⟩ := own_gF 35 #[rv qa1, rv qa2, iv 7] [.ref qa1] X22 hx hZ hown (w108_ hw) Via.refl rfl F38_ (hb hby d8_35)
 have E39_ := E25_.keep K22q
 obtain ⟨T40, h40, X40, e40, W40, st40⟩ := putF X36 hx hZ hown (host := "") (Or.inl (w108_ hw)) Via.refl e36 F38_ E39_ (Or.inl (w109_ hw)) (w68_ hw) (ty := .int) (by decide) rfl rfl (g := (mkF m 40 #[rv qa1, rv qa2, iv 7] [(.int (qi5 + (7 : Int32))), .ref qa1])) rfl rfl (hb hby d8_40)
 have N40 := Fr.snoc X40 N22 g_qa1
 have K41 := K35.wr W40 (Or.inl (mI 0 rfl))
 have F42_ : Fld Z h40 qa1 AB_ "count" "I" (.int (qi5 + (7 : Int32))) := F38_.same W40
 have E43_ := E39_.wr W40
 have F44_ := w14.keep K22q (ninS nx37 nin0)
 have F45_ := F44_.other W40 (Or.inr (slot_ne (Or.inl (w82_ hw)) (Or.inl (w109_ hw)) (by decide) (t := (.array .byte)) (t' := .int) (by decide) (by decide)))
 have F46_ := w15.keep K22q (ninS nx37 nin0)
 have F47_ := F46_.other W40 (Or.inr (slot_ne (Or.inl (w84_ hw)) (Or.inl (w109_ hw)) (by decide) (t := .byte) (t' := .int) (by decide) (by decide)))
 have E48_ := w18.keep K22q
 have E49_ := E48_.wr W40
 have A50_ := w34.other W40 (Ne.symm nx37)
 refine own_lvF X40 Bd (.ref qa1) e40 ⟨b11, c12_, rfl, N40, K41, sz_b11, E43_, F45_, F47_, F42_, E49_, A50_⟩ rfl (fun fs hr => pre0 _ (by
  show Sx p e below s₁ m 0 #[rv qa1, rv qa2, .unset] [] _
  refine zb X0 Bd d8_0 rfl rfl ?_
  refine XS.ifnonnullYes X0.here hx rfl (pc0 := 1) (pc' := 9) rfl (hb hby d8_1) rfl (by decide) (by decide) ?_
  refine zb X0 Bd d8_9 rfl rfl ?_
  refine st1.trans ?_
  refine zt X1 Bd d8_13 (l' := #[rv qa1, rv qa2, iv 7]) rfl ?_
  refine zb X1 Bd d8_14 rfl rfl ?_
  refine zb X1 Bd d8_15 rfl rfl ?_
  refine st3 _ ?_
  refine zj X3 Bd d8_19 rfl ?_
  refine XS.iadd X3.here hx rfl (hb hby d8_20) rfl ?_
  refine st4 _ ?_
  refine zb X4 Bd d8_24 rfl rfl ?_
  refine zb X4 Bd d8_25 rfl rfl ?_
  refine st21 _ ?_
  refine zb X21 Bd d8_29 rfl rfl ?_
  refine st22 _ ?_
  refine zb X22 Bd d8_33 rfl rfl ?_
  refine XS.dup X22.here hx rfl (hb hby d8_34) rfl rfl ?_
  refine st36 _ ?_
  refine zj X36 Bd d8_38 rfl ?_
  refine XS.iadd X36.here hx rfl (hb hby d8_39) rfl ?_
  refine st40 _ ?_
  refine zb X40 Bd d8_43 rfl rfl ?_
  exact retOut X40 hx Bd.returns rfl (Or.inr (Or.inr (Or.inr (Or.inr ⟨rfl, rfl, rfl⟩)))) (hb hby d8_44) hr))
-- java/lang/StringBuilder.append(Ljava/lang/String;)Ljava/lang/StringBuilder;
def Q85 (Z : State) (qa1 : Addr) (qi5 : Int32) (qc8 : List Int32) (h0 : Heap) (n0 : Nat) : QT := fun v h L => ∃ b13 : Addr, ∃ c14_ : ClassId, v = some (.ref qa1) ∧ Fr n0 L ∧ Keep h0 h [qa1] ∧ h0.size ≤ b13 ∧ Exa Z h qa1 SB_ ∧ VA Z h qa1 b13 ∧ VC Z h qa1 ∧ Fld Z h qa1 AB_ "count" "I" (.int (qi5 + (7 : Int32))) ∧ Exa Z h b13 "[B" ∧ PA Z h b13 c14_ .byte (70 : Int32) (qc8 ++ K3_)
theorem rm85 (hw : HW a0 Z) (G1 : Int32) (qa1 : Addr) (qa2 : Addr) (qa3 : Addr) (qk4 : ClassId) (qi5 : Int32) (qa6 : Addr) (qk7 : ClassId) (qc8 : List Int32) (h0 : Heap) (n0 : Nat) (X00 : Old Z n0 h0) (O2 : CO Z G1) (P5 : NZ G1) (E_qa2 : Exa Z h0 qa2 ST_) (F_qa2_coder : SC Z h0 qa2) (F_qa2_value : SV Z h0 qa2 qa3) (hp_qa2 : ∀ c ∈ K3_, ¬ c < 0 ∧ ¬ (255 : Int32) < c) (A_qa3 : Arv Z h0 qa3 qk4 .byte (7 : Int32) [.int 44, .int 32, .int 104, .int 105, .int 116, .int 115, .int 61] (.int 0)) (F_qa1_count : VN Z h0 qa1 qi5) (F_qa1_value : VA Z h0 qa1 qa6) (A_qa6 : PA Z h0 qa6 qk7 .byte (34 : Int32) qc8) (F_qa1_coder : VC Z h0 qa1) (hc2 : (0 : Int32) < ((qi5 + (7 : Int32)) - (34 : Int32))) (hc3 : (((qi5 + (7 : Int32)) <<< ((0 : Int32) &&& 31)) - (34 : Int32)) < (36 : Int32)) (E_qa1 : Exa Z h0 qa1 SB_) (hk4 : ((0 : Int32)).toNatClampNeg = (([] : List Int32)).length) (hk5 : ((0 : Int32)).toNatClampNeg + ((34 : Int32)).toNatClampNeg ≤ ((34 : Int32)).toNatClampNeg) (hk6 : ((0 : Int32)).toNatClampNeg + ((34 : Int32)).toNatClampNeg ≤ ((70 : Int32)).toNatClampNeg) (hk7 : (qc8).length ≤ ((34 : Int32)).toNatClampNeg) (g_qa1 : n0 ≤ qa1) (ne_qa2_qa1 : qa2 ≠ qa1) (ne_qa3_qa1 : qa3 ≠ qa1) (hk8 : ((qi5 <<< ((0 : Int32) &&& 31))).toNatClampNeg = (qc8).length) (hk9 : ¬ (qi5 <<< ((0 : Int32) &&& 31)) < 0) (hk10 : ((0 : Int32)).toNatClampNeg + ((7 : Int32)).toNatClampNeg ≤ ((7 : Int32)).toNatClampNeg) (hk11 : ((qi5 <<< ((0 : Int32) &&& 31))).toNatClampNeg + ((7 : Int32)).toNatClampNeg ≤ ((70 : Int32)).toNatClampNeg) (hk12 : (K3_).length ≤ ((7 : Int32)).toNatClampNeg) :
    MF l Z Y18_ jdk_67_method_7_code 2 (some (.object SB_)) (Rm 5 1 70 76) #[.ref qa1, .ref qa2] h0 (Q85 Z qa1 qi5 qc8 h0 n0) := by
 refine own_sF pn2 rfl (fun m => ef7 m qa1 qa2) ?_
 intro p e s m below meth c s₁ Bd hZ hh hx hby hml hown hnm X0 e0 pre0
 have N0 := Fr.nil n0
 obtain ⟨_, T1, L1, X1, hQ1, st1⟩ := own_cU 1 70 [] 2 #[rv qa1, rv qa2] X0 hx hZ hown E_qa1 (w93_ hw) (own_same (w94_ hw) (w113_ hw) rfl (by decide)) (w94_ hw) (w95_ hw) (w77_ hw) (w97_ hw) (rm84 l Z a0 hw G1 qa1 qa2 qa3 qk4 qi5 qa6 qk7 qc8 h0 n0 X00 O2 P5 E_qa2 F_qa2_coder F_qa2_value hp_qa2 A_qa3 F_qa1_count F_qa1_value A_qa6 F_qa1_coder hc2 hc3 E_qa1 hk4 hk5 hk6 hk7 g_qa1 ne_qa2_qa1 ne_qa3_qa1 hk8 hk9 hk10 hk11 hk12) pd15 hml.symm (hb hby d7_2) e0 rfl rfl rfl rfl (by decide)
 obtain ⟨b13, c14_, rfl, N1q, K1q, w15, w16, w17, w18, w19, w20, w21⟩ := hQ1
 have N1 := Fr.app N0 N1q
 have K22 := (Keep.refl h0 [qa1]).trans K1q (allS (Or.inl (mI 0 rfl)) all0)
 have sz_b13 : h0.size ≤ b13 := w15
 have E23_ := E_qa1.keep K1q
 refine own_lvF X1 Bd (.ref qa1) rfl ⟨b13, c14_, rfl, N1, K22, sz_b13, E23_, w17, w18, w19, w20, w21⟩ rfl (fun fs hr => pre0 _ (by
  show Sx p e below s₁ m 0 #[rv qa1, rv qa2] [] _
  refine zb X0 Bd d7_0 rfl rfl ?_
  refine zb X0 Bd d7_1 rfl rfl ?_
  refine st1 _ ?_
  refine XS.pop X1.here hx rfl (hb hby d7_5) rfl rfl ?_
  refine zb X1 Bd d7_6 rfl rfl ?_
  exact retOut X1 hx Bd.returns rfl (Or.inr (Or.inr (Or.inr (Or.inr ⟨rfl, rfl, rfl⟩)))) (hb hby d7_7) hr))
-- com/example/foreground_courier/foregroundcourier/CacheStats.toString()Ljava/lang/String;
def Q86 (Z : State) (qi2 : Int32) (qi3 : Int32) (qi4 : Int32) (h0 : Heap) (n0 : Nat) : QT := fun v h L => ∃ bs_ : Addr, ∃ bt_ : Addr, ∃ ck_ : ClassId, v = some (.ref bs_) ∧ Fr n0 L ∧ Keep h0 h [] ∧ h0.size ≤ bs_ ∧ h0.size ≤ bt_ ∧ Exa Z h bs_ ST_ ∧ SV Z h bs_ bt_ ∧ SC Z h bs_ ∧ PA Z h bt_ ck_ .byte (((((((20 : Int32) + (own_wd qi2)) + (10 : Int32)) + (own_wd qi3)) + (7 : Int32)) + (own_wd qi4)) + (1 : Int32)) ((((((K1_ ++ (own_dec qi2)) ++ K2_) ++ (own_dec qi3)) ++ K3_) ++ (own_dec qi4)) ++ K4_)
theorem rm86 (hw : HW a0 Z) (G1 : Int32) (Gg0 : Addr) (Gg1 : Addr) (Kg2 : ClassId) (Kg3 : ClassId) (qa1 : Addr) (qi2 : Int32) (qi3 : Int32) (qi4 : Int32) (h0 : Heap) (n0 : Nat) (X00 : Old Z n0 h0) (O2 : CO Z G1) (P5 : NZ G1) (hEN : OwnEN Z Gg0 Gg1 Kg2 Kg3) (F_qa1_requestCount : Fld Z h0 qa1 CF_ "requestCount" "I" (.int qi2)) (F_qa1_networkCount : Fld Z h0 qa1 CF_ "networkCount" "I" (.int qi3)) (F_qa1_hitCount : Fld Z h0 qa1 CF_ "hitCount" "I" (.int qi4)) :
    MW l Z consts_1 Y33_ prog_1_method_5_code 1 (some (.object ST_)) (Rm 6 15 509 91) #[.ref qa1] h0 (Q86 Z qi2 qi3 qi4 h0 n0) := by
 refine own_sW pn1 rfl (fun m => ef5 m qa1) ?_
 intro p e s m below meth c s₁ Bd hZ hh hx hby hml hown hnm X0 e0 pre0 hC0 hS0 hk0 hR0
 have N0 := Fr.nil n0
 have hEL := own_EW hw
 have hwS := own_wS hw
 have hB0 := own_wB qi2
 have hB1 := own_wB qi3
 have hB2 := own_wB qi4
 obtain ⟨T1, h1, X1, e1, E1, A1, D1, -, st1⟩ := newO X0 hx hZ hown (w67_ hw) (w68_ hw) (w69_ hw) e0 (g := (mkF m 0 #[rv qa1] [])) rfl (hb hby d4_0) (lE rfl) (lE rfl)
 obtain ⟨b1, g1⟩ : ∃ z, z = h0.size := ⟨_, rfl⟩
 rw [← g1] at A1 D1 st1
 replace X1 : Stand p l e (Rm 6 15 509 91) (s.setVm s.vm) m #[.ref qa1] below meth c T1 _ 1 4 := X1
 have K2 := (Keep.refl h0 []).ext E1
 have C3 : CHv Z consts_1 s.vm h1 := CHv.ext E1 hC0
 have R4 : CHr Z consts_1 s.vm h0 s.vm h1 := hR0.trans (CHr.ext E1 hC0)
 have F5_ : Fld Z h1 b1 AB_ "value" "[B" .null := D1 (Or.inl (w82_ hw)) (ty := (.array .byte)) (by decide)
 have F6_ : VC Z h1 b1 := D1 (Or.inl (w84_ hw)) (ty := .byte) (by decide)
 have F7_ : VN Z h1 b1 0 := D1 (Or.inl (w109_ hw)) (ty := .int) (by decide)
 have g_b1 : n0 ≤ b1 := Nat.le_trans (Nat.le_trans (Nat.le_of_eq X00.1.symm) X00.2.1) (Nat.le_of_eq g1.symm)
 have O9 := X00.ext E1
 obtain ⟨_, T8, L8, X8, hQ8, st8⟩ := own_cI 2 20 [.ref b1] 4 #[rv qa1] X1 hx hZ hown (w70_ hw) (w71_ hw) (w69_ hw) (w72_ hw) (rm6 l Z a0 hw G1 b1 h1 n0 O9 O2 P5 A1 F5_ g_b1 F6_ F7_) pd6 hml.symm (hb hby d4_4) e1 rfl rfl rfl rfl rfl (by decide)
 obtain ⟨b10, c11_, rfl, N8q, K8q, w12, w13, w14, w15, w16, w17, w18⟩ := hQ8
 have N8 := Fr.app N0 N8q
 have sz_b1 : h0.size ≤ b1 := (Nat.le_of_eq g1.symm)
 have K19 := K2.trans K8q (allS (Or.inr sz_b1) all0)
 have C20 : CHv Z consts_1 s.vm T8.heap := CHv.keep K8q (sfS (Safe.exa hZ.alike A1 (by decide) (by decide)) sf0) C3
 have R21 : CHr Z consts_1 s.vm h0 s.vm T8.heap := R4.trans (CHr.keep K8q (sfS (Safe.exa hZ.alike A1 (by decide) (by decide)) sf0) C3)
 have hk23' : _ ≤ T8.heap.size := (Nat.le_trans hk0 K19.1)
 obtain ⟨b22, T22, h22, k22, t22, c22, X22, e22, E22, hS22, hk22, hZ22, ho22, Ex22, Fc22, Fv22, Av22, lb22, lt22, CR22, -, sf22, st22⟩ := ldcCH (text := "CacheStats[requests=") (EL := consts_1) X8 hx hZ hown (w85_ hw) hwS rfl hS0 hk23' hEL (by decide) C20 (vs := [.int 67, .int 97, .int 99, .int 104, .int 101, .int 83, .int 116, .int 97, .int 116, .int 115, .int 91, .int 114, .int 101, .int 113, .int 117, .int 101, .int 115, .int 116, .int 115, .int 61]) (z := (20 : Int32)) ⟨by decide, by decide⟩ (by decide) (by decide) (g := (mkF m 7 #[rv qa1] [.ref b1])) rfl (hb hby d4_7) (n := 80) (by decide) (lE rfl) (lE rfl) (lE rfl)
 have K24 := K19.ext E22
 have R26 := R21.trans CR22
 replace X22 : Stand p l e (Rm 6 15 509 91) (s.setVm T22.vm) m #[.ref qa1] below meth c T22 _ 4 104 := X22
 have hp28 : ∀ c ∈ K1_, ¬ c < 0 ∧ ¬ (255 : Int32) < c := (by decide)
 have F29_ := w16.ext E22
 have F30_ := w14.ext E22
 have A31_ := w18.ext E22
 have F32_ := w15.ext E22
 have E33_ := A1.keep K8q
 have E34_ := E33_.ext E22
 have O35 := O9.keep K8q (allS g_b1 all0)
 have O36 := O35.ext E22
 obtain ⟨_, T27, L27, X27, hQ27, st27⟩ := own_cV 5 138 [] 9 #[rv qa1] X22 hx hZ22 ho22 E34_ (w88_ hw) (w89_ hw) (notFace_of_selects (args := #[]) (mvT hZ22 (w91_ hw))) (w91_ hw) (w90_ hw) (w69_ hw) (w92_ hw) (rm18 l Z a0 hw G1 b1 b22 t22 c22 b10 c11_ ([] : List Int32) h22 n0 O36 O2 P5 Ex22 Fc22 Fv22 hp28 Av22 F29_ F30_ A31_ F32_ E34_ (own_natT i0_ (show (([] : List Int32).length : Int) = 0 from rfl)) (own_h5 i0_ i16_ i16_ q77) (own_h5 i0_ i16_ i34_ q78) (own_hnT (show (([] : List Int32).length : Int) = 0 from rfl) i16_ q79) g_b1 (Ne.symm (sf22 b1 (Safe.exa hZ22.alike E34_ (by decide) (by decide))).1) (Ne.symm (sf22 b1 (Safe.exa hZ22.alike E34_ (by decide) (by decide))).2) (own_natT i0_ (show (([] : List Int32).length : Int) = 0 from rfl)) (own_h5 i0_ i20_ i20_ q80) (own_h5 i0_ i20_ i34_ q81) (own_hnT own_kK1_ i20_ q82)) pd16 hml.symm (hb hby d4_9) e22 rfl rfl rfl rfl (by decide)
 obtain ⟨b37, c38_, rfl, N27q, K27q, w39, w40, w41, w42, w43, w44, w45⟩ := hQ27
 have N27 := Fr.app N8 N27q
 have K46 := K24.trans K27q (allS (Or.inr sz_b1) all0)
 have C47 : CHv Z consts_1 T22.vm T27.heap := CHv.keep K27q (sfS (Safe.exa hZ22.alike E34_ (by decide) (by decide)) sf0) CR22.1
 have R48 : CHr Z consts_1 s.vm h0 T22.vm T27.heap := R26.trans (CHr.keep K27q (sfS (Safe.exa hZ22.alike E34_ (by decide) (by decide)) sf0) CR22.1)
 have F50_ := F_qa1_requestCount.ext E1
 have nx51 : qa1 ≠ b1 := (Nat.ne_of_lt (Nat.lt_of_lt_of_le F_qa1_requestCount.lt (Nat.le_of_eq g1.symm)))
 have F52_ := F50_.keep K8q (ninS nx51 nin0)
 have F53_ := F52_.ext E22
 have F54_ := F53_.keep K27q (ninS nx51 nin0)
 obtain ⟨T49, X49, e49, st49⟩ := own_gF 13 #[rv qa1] [.ref b1] X27 hx hZ22 ho22 (w56_ hw) Via.refl rfl F54_ (hb hby d4_13)
 have ti56 := own_tadd i20_ (own_wR qi2) (q27 hB0)
 have ti57 := own_tsub ti56 i34_ (q83 hB0)
 have E58_ := E34_.keep K27q
 have g_b37 : n0 ≤ b37 := Nat.le_trans (Nat.le_trans (Nat.le_of_eq O36.1.symm) O36.2.1) w39
 have nx59 : b1 ≠ b37 := (Nat.ne_of_lt (Nat.lt_of_lt_of_le (Nat.lt_of_lt_of_le A1.lt (Nat.le_trans K8q.1 E22.1)) w39))
 have O60 := O36.keep K27q (allS g_b1 all0)
 obtain ⟨_, T55, L55, X55, hQ55, st55⟩ := own_cV 5 138 [] 16 #[rv qa1] X49 hx hZ22 ho22 E58_ (w158_ hw) (w159_ hw) (notFace_of_selects (args := #[]) (mvT hZ22 (w161_ hw))) (w161_ hw) (w160_ hw) (w69_ hw) (w162_ hw) (rm24 l Z a0 hw G1 Gg0 Gg1 Kg2 Kg3 b1 qi2 b37 c38_ K1_ T27.heap n0 O60 O2 P5 hEN w43 w41 w45 w42 (own_ltF i0_ ti57 (q84 hB0)) E58_ (own_ix ti56 own_kK1_ (own_wL qi2) (q28 hB0)) (own_decL own_kK1_ (own_wL qi2) i34_ (q85 hB0)) (own_l9 own_kK1_ q26) g_b37 nx59 g_b1) pd20 hml.symm (hb hby d4_16) e49 rfl rfl rfl rfl (by decide)
 obtain ⟨rfl, N55q, K55q, w61, w62, w63, w64, w65⟩ := hQ55
 have N55 := Fr.app N27 N55q
 have sz_b37 : h0.size ≤ b37 := Nat.le_trans K24.1 w39
 have K66 := K46.trans K55q (allS (Or.inr sz_b1) (allS (Or.inr sz_b37) all0))
 have f68 : Safe Z consts_1 T22.vm T27.heap b37 := Safe.keep K27q (sfS (Safe.exa hZ22.alike E34_ (by decide) (by decide)) sf0) CR22.1 (Safe.new w39)
 have C67 : CHv Z consts_1 T22.vm T55.heap := CHv.keep K55q (sfS (Safe.exa hZ22.alike E58_ (by decide) (by decide)) (sfS f68 sf0)) C47
 have R69 : CHr Z consts_1 s.vm h0 T22.vm T55.heap := R48.trans (CHr.keep K55q (sfS (Safe.exa hZ22.alike E58_ (by decide) (by decide)) (sfS f68 sf0)) C47)
 have hk71' : _ ≤ T55.heap.size := (Nat.le_trans (Nat.le_trans hk22 K27q.1) K55q.1)
 obtain ⟨b70, T70, h70, k70, t70, c70, X70, e70, E70, hS70, hk70, hZ70, ho70, Ex70, Fc70, Fv70, Av70, lb70, lt70, CR70, -, sf70, st70⟩ := ldcCH (text := ", network=") (EL := consts_1) X55 hx hZ22 ho22 (w180_ hw) hwS rfl hS22 hk71' hEL (by decide) C67 (vs := [.int 44, .int 32, .int 110, .int 101, .int 116, .int 119, .int 111, .int 114, .int 107, .int 61]) (z := (10 : Int32)) ⟨by decide, by decide⟩ (by decide) (by decide) (g := (mkF m 19 #[rv qa1] [.ref b1])) rfl (hb hby d4_19) (n := 40) (by decide) (lE rfl) (lE rfl) (lE rfl)
 have K72 := K66.ext E70
 have R74 := R69.trans CR70
 replace X70 : Stand p l e (Rm 6 15 509 91) (s.setVm T70.vm) m #[.ref qa1] below meth c T70 _ 7 182 := X70
 have hp76 : ∀ c ∈ K2_, ¬ c < 0 ∧ ¬ (255 : Int32) < c := (by decide)
 have F77_ := w62.ext E70
 have F78_ := w63.ext E70
 have A79_ := w65.ext E70
 have F80_ := w64.ext E70
 have pr81 : Pr p e below T70 m 21 #[rv qa1] [.ref b70, .ref b1] s₁ (entryFrame m #[.ref qa1] 1) := fun t k => pre0 t (by
  show Sx p e below s₁ m 0 #[rv qa1] [] _
  refine st1 _ ?_
  refine XS.dup X1.here hx rfl (hb hby d4_3) rfl rfl ?_
  refine st8 _ ?_
  refine st22 _ ?_
  refine st27 _ ?_
  refine zb X27 Bd d4_12 rfl rfl ?_
  refine st49 _ ?_
  refine st55 _ ?_
  refine st70 _ ?_
  exact k)
 by_cases hc82 : (0 : Int32) < ((((20 : Int32) + (own_wd qi2)) + (10 : Int32)) - (34 : Int32))
 ·
  skip
  have ti83 := own_tadd ti56 i10_ (q48 hB0)
  have ti84 := own_tsub ti83 i34_ (q86 hB0)
  have hl85 := own_ltT' i0_ ti84 hc82
  have hp87 : ∀ c ∈ K2_, ¬ c < 0 ∧ ¬ (255 : Int32) < c := (by decide)
  have F88_ := w62.ext E70
  have F89_ := w63.ext E70
  have A90_ := w65.ext E70
  have F91_ := w64.ext E70
  have ti92 := own_tshl ti83
  have ti93 := own_tsub ti92 i34_ (q86 hB0)
  have E94_ := E58_.keep K55q
  have E95_ := E94_.ext E70
  have le96 := own_la own_kK1_ (own_wL qi2) (q28 hB0)
  have ti97 := own_tshl ti56
  have O98 := O60.keep K55q (allS g_b1 (allS g_b37 all0))
  have O99 := O98.ext E70
  obtain ⟨_, T86, L86, X86, hQ86, st86⟩ := own_cV 8 252 [] 21 #[rv qa1] X70 hx hZ70 ho70 E95_ (w88_ hw) (w89_ hw) (notFace_of_selects (args := #[]) (mvT hZ70 (w91_ hw))) (w91_ hw) (w90_ hw) (w69_ hw) (w92_ hw) (rm34 l Z a0 hw G1 b1 b70 t70 c70 ((20 : Int32) + (own_wd qi2)) b37 c38_ (K1_ ++ (own_dec qi2)) h70 n0 O99 O2 P5 Ex70 Fc70 Fv70 hp87 Av70 F88_ F89_ A90_ F91_ hc82 (own_ltT ti93 i36_ (q87 hB0)) E95_ (own_natT i0_ (show (([] : List Int32).length : Int) = 0 from rfl)) (own_h5 i0_ i34_ i34_ q88) (own_h5 i0_ i34_ i70_ q89) (own_hnT le96 i34_ (q90 hB0)) g_b1 (Ne.symm (sf70 b1 (Safe.exa hZ70.alike E95_ (by decide) (by decide))).1) (Ne.symm (sf70 b1 (Safe.exa hZ70.alike E95_ (by decide) (by decide))).2) (own_natT ti97 le96) (own_nnT ti97 (q91 hB0)) (own_h5 i0_ i10_ i10_ q92) (own_h5 ti97 i10_ i70_ (q93 hB0)) (own_hnT own_kK2_ i10_ q94)) pd16 hml.symm (hb hby d4_21) e70 rfl rfl rfl rfl (by decide)
  obtain ⟨b100, c101_, rfl, N86q, K86q, w102, w103, w104, w105, w106, w107, w108⟩ := hQ86
  have N86 := Fr.app N55 N86q
  have K109 := K72.trans K86q (allS (Or.inr sz_b1) all0)
  have C110 : CHv Z consts_1 T70.vm T86.heap := CHv.keep K86q (sfS (Safe.exa hZ70.alike E95_ (by decide) (by decide)) sf0) CR70.1
  have R111 : CHr Z consts_1 s.vm h0 T70.vm T86.heap := R74.trans (CHr.keep K86q (sfS (Safe.exa hZ70.alike E95_ (by decide) (by decide)) sf0) CR70.1)
  have F113_ := F_qa1_networkCount.ext E1
  have F114_ := F113_.keep K8q (ninS nx51 nin0)
  have F115_ := F114_.ext E22
  have F116_ := F115_.keep K27q (ninS nx51 nin0)
  have nx117 : qa1 ≠ b37 := (Nat.ne_of_lt (Nat.lt_of_lt_of_le (Nat.lt_of_lt_of_le F_qa1_requestCount.lt K24.1) w39))
  have F118_ := F116_.keep K55q (ninS nx51 (ninS nx117 nin0))
  have F119_ := F118_.ext E70
  have F120_ := F119_.keep K86q (ninS nx51 nin0)
  obtain ⟨T112, X112, e112, st112⟩ := own_gF 25 #[rv qa1] [.ref b1] X86 hx hZ70 ho70 (w58_ hw) Via.refl rfl F120_ (hb hby d4_25)
  have ti122 := own_tadd ti83 (own_wR qi3) (q51 hB0 hB1)
  have ti123 := own_tsub ti122 i70_ (q95 hB0 hB1)
  have E124_ := E95_.keep K86q
  have le125 := own_la le96 own_kK2_ (q97 hB0)
  have g_b100 : n0 ≤ b100 := Nat.le_trans (Nat.le_trans (Nat.le_of_eq O99.1.symm) O99.2.1) w102
  have nx126 : b1 ≠ b100 := (Nat.ne_of_lt (Nat.lt_of_lt_of_le (Nat.lt_of_lt_of_le A1.lt (Nat.le_trans (Nat.le_trans (Nat.le_trans (Nat.le_trans K8q.1 E22.1) K27q.1) K55q.1) E70.1)) w102))
  have O127 := O99.keep K86q (allS g_b1 all0)
  obtain ⟨_, T121, L121, X121, hQ121, st121⟩ := own_cV 8 252 [] 28 #[rv qa1] X112 hx hZ70 ho70 E124_ (w158_ hw) (w159_ hw) (notFace_of_selects (args := #[]) (mvT hZ70 (w161_ hw))) (w161_ hw) (w160_ hw) (w69_ hw) (w162_ hw) (rm37 l Z a0 hw G1 Gg0 Gg1 Kg2 Kg3 b1 qi3 (((20 : Int32) + (own_wd qi2)) + (10 : Int32)) b100 c101_ ((K1_ ++ (own_dec qi2)) ++ K2_) T86.heap n0 O127 O2 P5 hEN w106 w104 w108 w105 (own_ltF i0_ ti123 (q96 hB0 hB1)) E124_ (own_ix ti122 le125 (own_wL qi3) (q52 hB0 hB1)) (own_decL le125 (own_wL qi3) i70_ (q98 hB0 hB1)) (own_l9 le125 (q50 hB0)) g_b100 nx126 g_b1) pd20 hml.symm (hb hby d4_28) e112 rfl rfl rfl rfl (by decide)
  obtain ⟨rfl, N121q, K121q, w128, w129, w130, w131, w132⟩ := hQ121
  have N121 := Fr.app N86 N121q
  have sz_b100 : h0.size ≤ b100 := Nat.le_trans K72.1 w102
  have K133 := K109.trans K121q (allS (Or.inr sz_b1) (allS (Or.inr sz_b100) all0))
  have f135 : Safe Z consts_1 T70.vm T86.heap b100 := Safe.keep K86q (sfS (Safe.exa hZ70.alike E95_ (by decide) (by decide)) sf0) CR70.1 (Safe.new w102)
  have C134 : CHv Z consts_1 T70.vm T121.heap := CHv.keep K121q (sfS (Safe.exa hZ70.alike E124_ (by decide) (by decide)) (sfS f135 sf0)) C110
  have R136 : CHr Z consts_1 s.vm h0 T70.vm T121.heap := R111.trans (CHr.keep K121q (sfS (Safe.exa hZ70.alike E124_ (by decide) (by decide)) (sfS f135 sf0)) C110)
  have hk138' : _ ≤ T121.heap.size := (Nat.le_trans (Nat.le_trans hk70 K86q.1) K121q.1)
  obtain ⟨b137, T137, h137, k137, t137, c137, X137, e137, E137, hS137, hk137, hZ137, ho137, Ex137, Fc137, Fv137, Av137, lb137, lt137, CR137, -, sf137, st137⟩ := ldcCH (text := ", hits=") (EL := consts_1) X121 hx hZ70 ho70 (w181_ hw) hwS rfl hS70 hk138' hEL (by decide) C134 (vs := [.int 44, .int 32, .int 104, .int 105, .int 116, .int 115, .int 61]) (z := (7 : Int32)) ⟨by decide, by decide⟩ (by decide) (by decide) (g := (mkF m 31 #[rv qa1] [.ref b1])) rfl (hb hby d4_31) (n := 28) (by decide) (lE rfl) (lE rfl) (lE rfl)
  have K139 := K133.ext E137
  have R141 := R136.trans CR137
  replace X137 : Stand p l e (Rm 6 15 509 91) (s.setVm T137.vm) m #[.ref qa1] below meth c T137 _ 10 284 := X137
  have hp143 : ∀ c ∈ K3_, ¬ c < 0 ∧ ¬ (255 : Int32) < c := (by decide)
  have F144_ := w129.ext E137
  have F145_ := w130.ext E137
  have A146_ := w132.ext E137
  have F147_ := w131.ext E137
  have ti148 := own_tadd ti122 i7_ (q66 hB0 hB1)
  have ti149 := own_tsub ti148 i70_ (q99 hB0 hB1)
  have E150_ := E124_.keep K121q
  have E151_ := E150_.ext E137
  have ti152 := own_tshl ti122
  have le153 := own_la le125 (own_wL qi3) (q52 hB0 hB1)
  have O154 := O127.keep K121q (allS g_b1 (allS g_b100 all0))
  have O155 := O154.ext E137
  obtain ⟨_, T142, L142, X142, hQ142, st142⟩ := own_cV 10 284 [] 33 #[rv qa1] X137 hx hZ137 ho137 E151_ (w88_ hw) (w89_ hw) (notFace_of_selects (args := #[]) (mvT hZ137 (w91_ hw))) (w91_ hw) (w90_ hw) (w69_ hw) (w92_ hw) (rm41 l Z a0 hw G1 b1 b137 t137 c137 ((((20 : Int32) + (own_wd qi2)) + (10 : Int32)) + (own_wd qi3)) b100 c101_ (((K1_ ++ (own_dec qi2)) ++ K2_) ++ (own_dec qi3)) h137 n0 O155 O2 P5 Ex137 Fc137 Fv137 hp143 Av137 F144_ F145_ A146_ F147_ (own_ltF i0_ ti149 (q100 hB0 hB1)) E151_ (own_natT ti152 le153) (own_nnT ti152 (q101 hB0 hB1)) (own_h5 i0_ i7_ i7_ q102) (own_h5 ti152 i7_ i70_ (q103 hB0 hB1)) (own_hnT own_kK3_ i7_ q104) g_b100 nx126 g_b1) pd16 hml.symm (hb hby d4_33) e137 rfl rfl rfl rfl (by decide)
  obtain ⟨rfl, N142q, K142q, w156, w157, w158, w159, w160⟩ := hQ142
  have N142 := Fr.app N121 N142q
  have K161 := K139.trans K142q (allS (Or.inr sz_b1) (allS (Or.inr sz_b100) all0))
  have f163 : Safe Z consts_1 T70.vm T121.heap b100 := Safe.keep K121q (sfS (Safe.exa hZ70.alike E124_ (by decide) (by decide)) (sfS f135 sf0)) C110 f135
  have f164 : Safe Z consts_1 T137.vm h137 b100 := CR137.safe (Nat.lt_of_lt_of_le w107.lt K121q.1) f163
  have C162 : CHv Z consts_1 T137.vm T142.heap := CHv.keep K142q (sfS (Safe.exa hZ137.alike E151_ (by decide) (by decide)) (sfS f164 sf0)) CR137.1
  have R165 : CHr Z consts_1 s.vm h0 T137.vm T142.heap := R141.trans (CHr.keep K142q (sfS (Safe.exa hZ137.alike E151_ (by decide) (by decide)) (sfS f164 sf0)) CR137.1)
  have F167_ := F_qa1_hitCount.ext E1
  have F168_ := F167_.keep K8q (ninS nx51 nin0)
  have F169_ := F168_.ext E22
  have F170_ := F169_.keep K27q (ninS nx51 nin0)
  have F171_ := F170_.keep K55q (ninS nx51 (ninS nx117 nin0))
  have F172_ := F171_.ext E70
  have F173_ := F172_.keep K86q (ninS nx51 nin0)
  have nx174 : qa1 ≠ b100 := (Nat.ne_of_lt (Nat.lt_of_lt_of_le (Nat.lt_of_lt_of_le F_qa1_requestCount.lt K72.1) w102))
  have F175_ := F173_.keep K121q (ninS nx51 (ninS nx174 nin0))
  have F176_ := F175_.ext E137
  have F177_ := F176_.keep K142q (ninS nx51 (ninS nx174 nin0))
  obtain ⟨T166, X166, e166, st166⟩ := own_gF 37 #[rv qa1] [.ref b1] X142 hx hZ137 ho137 (w60_ hw) Via.refl rfl F177_ (hb hby d4_37)
  have ti179 := own_tadd ti148 (own_wR qi4) (q69 hB0 hB1 hB2)
  have ti180 := own_tsub ti179 i70_ (q105 hB0 hB1 hB2)
  have E181_ := E151_.keep K142q
  have le182 := own_la le153 own_kK3_ (q107 hB0 hB1)
  have O183 := O155.keep K142q (allS g_b1 (allS g_b100 all0))
  obtain ⟨_, T178, L178, X178, hQ178, st178⟩ := own_cV 10 284 [] 40 #[rv qa1] X166 hx hZ137 ho137 E181_ (w158_ hw) (w159_ hw) (notFace_of_selects (args := #[]) (mvT hZ137 (w161_ hw))) (w161_ hw) (w160_ hw) (w69_ hw) (w162_ hw) (rm37 l Z a0 hw G1 Gg0 Gg1 Kg2 Kg3 b1 qi4 (((((20 : Int32) + (own_wd qi2)) + (10 : Int32)) + (own_wd qi3)) + (7 : Int32)) b100 c101_ ((((K1_ ++ (own_dec qi2)) ++ K2_) ++ (own_dec qi3)) ++ K3_) T142.heap n0 O183 O2 P5 hEN w157 w158 w160 w159 (own_ltF i0_ ti180 (q106 hB0 hB1 hB2)) E181_ (own_ix ti179 le182 (own_wL qi4) (q70 hB0 hB1 hB2)) (own_decL le182 (own_wL qi4) i70_ (q108 hB0 hB1 hB2)) (own_l9 le182 (q68 hB0 hB1)) g_b100 nx126 g_b1) pd20 hml.symm (hb hby d4_40) e166 rfl rfl rfl rfl (by decide)
  obtain ⟨rfl, N178q, K178q, w184, w185, w186, w187, w188⟩ := hQ178
  have N178 := Fr.app N142 N178q
  have K189 := K161.trans K178q (allS (Or.inr sz_b1) (allS (Or.inr sz_b100) all0))
  have f191 : Safe Z consts_1 T137.vm T142.heap b100 := Safe.keep K142q (sfS (Safe.exa hZ137.alike E151_ (by decide) (by decide)) (sfS f164 sf0)) CR137.1 f164
  have C190 : CHv Z consts_1 T137.vm T178.heap := CHv.keep K178q (sfS (Safe.exa hZ137.alike E181_ (by decide) (by decide)) (sfS f191 sf0)) C162
  have R192 : CHr Z consts_1 s.vm h0 T137.vm T178.heap := R165.trans (CHr.keep K178q (sfS (Safe.exa hZ137.alike E181_ (by decide) (by decide)) (sfS f191 sf0)) C162)
  have hk194' : _ ≤ T178.heap.size := (Nat.le_trans (Nat.le_trans hk137 K142q.1) K178q.1)
  obtain ⟨b193, T193, h193, k193, t193, c193, X193, e193, E193, hS193, hk193, hZ193, ho193, Ex193, Fc193, Fv193, Av193, lb193, lt193, CR193, -, sf193, st193⟩ := ldcCH (text := "]") (EL := consts_1) X178 hx hZ137 ho137 (w182_ hw) hwS rfl hS137 hk194' hEL (by decide) C190 (vs := [.int 93]) (z := (1 : Int32)) ⟨by decide, by decide⟩ (by decide) (by decide) (g := (mkF m 43 #[rv qa1] [.ref b1])) rfl (hb hby d4_43) (n := 4) (by decide) (lE rfl) (lE rfl) (lE rfl)
  have K195 := K189.ext E193
  have R197 := R192.trans CR193
  replace X193 : Stand p l e (Rm 6 15 509 91) (s.setVm T193.vm) m #[.ref qa1] below meth c T193 _ 12 292 := X193
  have hp199 : ∀ c ∈ K4_, ¬ c < 0 ∧ ¬ (255 : Int32) < c := (by decide)
  have F200_ := w185.ext E193
  have F201_ := w186.ext E193
  have A202_ := w188.ext E193
  have F203_ := w187.ext E193
  have pr204 : Pr p e below T193 m 45 #[rv qa1] [.ref b193, .ref b1] s₁ (entryFrame m #[.ref qa1] 1) := fun t k => pr81 t (by
   show Sx p e below T70 m 21 #[rv qa1] [.ref b70, .ref b1] _
   refine st86 _ ?_
   refine zb X86 Bd d4_24 rfl rfl ?_
   refine st112 _ ?_
   refine st121 _ ?_
   refine st137 _ ?_
   refine st142 _ ?_
   refine zb X142 Bd d4_36 rfl rfl ?_
   refine st166 _ ?_
   refine st178 _ ?_
   refine st193 _ ?_
   exact k)
  by_cases hc205 : (0 : Int32) < ((((((((20 : Int32) + (own_wd qi2)) + (10 : Int32)) + (own_wd qi3)) + (7 : Int32)) + (own_wd qi4)) + (1 : Int32)) - (70 : Int32))
  ·
   skip
   have ti206 := own_tadd ti179 i1_ (q75 hB0 hB1 hB2)
   have ti207 := own_tsub ti206 i70_ (q109 hB0 hB1 hB2)
   have hl208 := own_ltT' i0_ ti207 hc205
   have hp210 : ∀ c ∈ K4_, ¬ c < 0 ∧ ¬ (255 : Int32) < c := (by decide)
   have F211_ := w185.ext E193
   have F212_ := w186.ext E193
   have A213_ := w188.ext E193
   have F214_ := w187.ext E193
   have ti215 := own_tshl ti206
   have ti216 := own_tsub ti215 i70_ (q109 hB0 hB1 hB2)
   have E217_ := E181_.keep K178q
   have E218_ := E217_.ext E193
   have le219 := own_la le182 (own_wL qi4) (q70 hB0 hB1 hB2)
   have ti220 := own_tshl ti179
   have O221 := O183.keep K178q (allS g_b1 (allS g_b100 all0))
   have O222 := O221.ext E193
   obtain ⟨_, T209, L209, X209, hQ209, st209⟩ := own_cV 13 434 [] 45 #[rv qa1] X193 hx hZ193 ho193 E218_ (w88_ hw) (w89_ hw) (notFace_of_selects (args := #[]) (mvT hZ193 (w91_ hw))) (w91_ hw) (w90_ hw) (w69_ hw) (w92_ hw) (rm51 l Z a0 hw G1 b1 b193 t193 c193 ((((((20 : Int32) + (own_wd qi2)) + (10 : Int32)) + (own_wd qi3)) + (7 : Int32)) + (own_wd qi4)) b100 c101_ (((((K1_ ++ (own_dec qi2)) ++ K2_) ++ (own_dec qi3)) ++ K3_) ++ (own_dec qi4)) h193 n0 O222 O2 P5 Ex193 Fc193 Fv193 hp210 Av193 F211_ F212_ A213_ F214_ hc205 (own_ltT ti216 i72_ (q110 hB0 hB1 hB2)) E218_ (own_natT i0_ (show (([] : List Int32).length : Int) = 0 from rfl)) (own_h5 i0_ i70_ i70_ q111) (own_h5 i0_ i70_ i142_ q112) (own_hnT le219 i70_ (q113 hB0 hB1 hB2)) g_b1 (Ne.symm (sf193 b1 (Safe.exa hZ193.alike E218_ (by decide) (by decide))).1) (Ne.symm (sf193 b1 (Safe.exa hZ193.alike E218_ (by decide) (by decide))).2) (own_natT ti220 le219) (own_nnT ti220 (q114 hB0 hB1 hB2)) (own_h5 i0_ i1_ i1_ q115) (own_h5 ti220 i1_ i142_ (q116 hB0 hB1 hB2)) (own_hnT own_kK4_ i1_ q117)) pd16 hml.symm (hb hby d4_45) e193 rfl rfl rfl rfl (by decide)
   obtain ⟨b223, c224_, rfl, N209q, K209q, w225, w226, w227, w228, w229, w230, w231⟩ := hQ209
   have N209 := Fr.app N178 N209q
   have K232 := K195.trans K209q (allS (Or.inr sz_b1) all0)
   have C233 : CHv Z consts_1 T193.vm T209.heap := CHv.keep K209q (sfS (Safe.exa hZ193.alike E218_ (by decide) (by decide)) sf0) CR193.1
   have R234 : CHr Z consts_1 s.vm h0 T193.vm T209.heap := R197.trans (CHr.keep K209q (sfS (Safe.exa hZ193.alike E218_ (by decide) (by decide)) sf0) CR193.1)
   have E236_ := E218_.keep K209q
   have ti237 := own_tsub ti206 i0_ (q120 hB0 hB1 hB2)
   have le238 := own_la le219 own_kK4_ (q124 hB0 hB1 hB2)
   have O239 := O222.keep K209q (allS g_b1 all0)
   obtain ⟨_, T235, L235, X235, hQ235, st235⟩ := own_cV 15 509 [] 48 #[rv qa1] X209 hx hZ193 ho193 E236_ (w183_ hw) (w184_ hw) (notFace_of_selects (args := #[]) (mvT hZ193 (w186_ hw))) (w186_ hw) (w185_ hw) (w69_ hw) (w187_ hw) (rm61 l Z a0 hw G1 b1 b223 (((((((20 : Int32) + (own_wd qi2)) + (10 : Int32)) + (own_wd qi3)) + (7 : Int32)) + (own_wd qi4)) + (1 : Int32)) c224_ ((((((K1_ ++ (own_dec qi2)) ++ K2_) ++ (own_dec qi3)) ++ K3_) ++ (own_dec qi4)) ++ K4_) T209.heap n0 O239 O2 P5 E236_ w227 w229 w228 w231 (own_eqF ti206 i142_ (q118 hB0 hB1 hB2)) (own_ltF ti206 i0_ (q119 hB0 hB1 hB2)) (own_nnT ti237 (q3 hB0 hB1 hB2)) (own_leT ti237 (q4 hB0 hB1 hB2)) (own_ltT ti237 i142_ (q121 hB0 hB1 hB2)) (own_natT i0_ (show (([] : List Int32).length : Int) = 0 from rfl)) (own_h5 i0_ ti237 i142_ (q122 hB0 hB1 hB2)) (own_h5 i0_ ti237 ti237 (q123 hB0 hB1 hB2)) (own_hnT le238 ti237 (q125 hB0 hB1 hB2))) pd26 hml.symm (hb hby d4_48) rfl rfl rfl rfl rfl (by decide)
   obtain ⟨b240, b241, c242_, rfl, N235q, K235q, w243, w244, w245, w246, w247, w248, w249, w250⟩ := hQ235
   have N235 := Fr.app N209 N235q
   have K251 := K232.trans K235q (fun x q => nomatch q)
   have C252 : CHv Z consts_1 T193.vm T235.heap := CHv.keep K235q sf0 C233
   have R253 : CHr Z consts_1 s.vm h0 T193.vm T235.heap := R234.trans (CHr.keep K235q sf0 C233)
   have sz_b240 : h0.size ≤ b240 := Nat.le_trans K232.1 w243
   have sz_b241 : h0.size ≤ b241 := Nat.le_trans K232.1 w244
   have hk254' : _ ≤ T235.heap.size := (Nat.le_trans (Nat.le_trans hk193 K209q.1) K235q.1)
   refine own_lvW X235 Bd.notSynchronized hS193 hk254' (v := (some (.ref b240))) (fun h => by rw [Bd.returns] at h; cases h) rfl hh ⟨b240, b241, c242_, rfl, N235, K251, sz_b240, sz_b241, w246, w248, w247, (own_nE w250 (own_sub0 _))⟩ (R253.trans (CHv.at X235 hZ193 hEL C252)) (lE rfl) (lE rfl) (fun fs hr => pr204 _ (by
    show Sx p e below T193 m 45 #[rv qa1] [.ref b193, .ref b1] _
    refine st209 _ ?_
    refine st235 _ ?_
    exact retOut X235 hx Bd.returns rfl (Or.inr (Or.inr (Or.inr (Or.inr ⟨rfl, rfl, rfl⟩)))) (hb hby d4_51) hr))
  ·
   skip
   have ti255 := own_tadd ti179 i1_ (q75 hB0 hB1 hB2)
   have ti256 := own_tsub ti255 i70_ (q109 hB0 hB1 hB2)
   have hl257 := own_ltF' i0_ ti256 hc205
   have hp259 : ∀ c ∈ K4_, ¬ c < 0 ∧ ¬ (255 : Int32) < c := (by decide)
   have F260_ := w185.ext E193
   have F261_ := w186.ext E193
   have A262_ := w188.ext E193
   have F263_ := w187.ext E193
   have E264_ := E181_.keep K178q
   have E265_ := E264_.ext E193
   have ti266 := own_tshl ti179
   have le267 := own_la le182 (own_wL qi4) (q70 hB0 hB1 hB2)
   have O268 := O183.keep K178q (allS g_b1 (allS g_b100 all0))
   have O269 := O268.ext E193
   obtain ⟨_, T258, L258, X258, hQ258, st258⟩ := own_cV 12 292 [] 45 #[rv qa1] X193 hx hZ193 ho193 E265_ (w88_ hw) (w89_ hw) (notFace_of_selects (args := #[]) (mvT hZ193 (w91_ hw))) (w91_ hw) (w90_ hw) (w69_ hw) (w92_ hw) (rm65 l Z a0 hw G1 b1 b193 t193 c193 ((((((20 : Int32) + (own_wd qi2)) + (10 : Int32)) + (own_wd qi3)) + (7 : Int32)) + (own_wd qi4)) b100 c101_ (((((K1_ ++ (own_dec qi2)) ++ K2_) ++ (own_dec qi3)) ++ K3_) ++ (own_dec qi4)) h193 n0 O269 O2 P5 Ex193 Fc193 Fv193 hp259 Av193 F260_ F261_ A262_ F263_ hc205 E265_ (own_natT ti266 le267) (own_nnT ti266 (q114 hB0 hB1 hB2)) (own_h5 i0_ i1_ i1_ q115) (own_h5 ti266 i1_ i70_ (q126 hB0 hB1 hB2 hl257)) (own_hnT own_kK4_ i1_ q117) g_b100 nx126 g_b1) pd16 hml.symm (hb hby d4_45) e193 rfl rfl rfl rfl (by decide)
   obtain ⟨rfl, N258q, K258q, w270, w271, w272, w273, w274⟩ := hQ258
   have N258 := Fr.app N178 N258q
   have K275 := K195.trans K258q (allS (Or.inr sz_b1) (allS (Or.inr sz_b100) all0))
   have f277 : Safe Z consts_1 T137.vm T178.heap b100 := Safe.keep K178q (sfS (Safe.exa hZ137.alike E181_ (by decide) (by decide)) (sfS f191 sf0)) C162 f191
   have f278 : Safe Z consts_1 T193.vm h193 b100 := CR193.safe (Nat.lt_of_lt_of_le w107.lt (Nat.le_trans (Nat.le_trans (Nat.le_trans K121q.1 E137.1) K142q.1) K178q.1)) f277
   have C276 : CHv Z consts_1 T193.vm T258.heap := CHv.keep K258q (sfS (Safe.exa hZ193.alike E265_ (by decide) (by decide)) (sfS f278 sf0)) CR193.1
   have R279 : CHr Z consts_1 s.vm h0 T193.vm T258.heap := R197.trans (CHr.keep K258q (sfS (Safe.exa hZ193.alike E265_ (by decide) (by decide)) (sfS f278 sf0)) CR193.1)
   have E281_ := E265_.keep K258q
   have pr282 : Pr p e below T258 m 48 #[rv qa1] [.ref b1] s₁ (entryFrame m #[.ref qa1] 1) := fun t k => pr204 t (by
    show Sx p e below T193 m 45 #[rv qa1] [.ref b193, .ref b1] _
    refine st258 _ ?_
    exact k)
   by_cases hc283 : (((((((20 : Int32) + (own_wd qi2)) + (10 : Int32)) + (own_wd qi3)) + (7 : Int32)) + (own_wd qi4)) + (1 : Int32)) = (70 : Int32)
   ·
    skip
    have hl284 := own_eqT' ti255 i70_ hc283
    have E286_ := E265_.keep K258q
    have E287_ := w107.keep K121q
    have E288_ := E287_.ext E137
    have E289_ := E288_.keep K142q
    have E290_ := E289_.keep K178q
    have E291_ := E290_.ext E193
    have E292_ := E291_.keep K258q
    have O293 := O269.keep K258q (allS g_b1 (allS g_b100 all0))
    obtain ⟨_, T285, L285, X285, hQ285, st285⟩ := own_cV 14 366 [] 48 #[rv qa1] X258 hx hZ193 ho193 E286_ (w183_ hw) (w184_ hw) (notFace_of_selects (args := #[]) (mvT hZ193 (w186_ hw))) (w186_ hw) (w185_ hw) (w69_ hw) (w187_ hw) (rm69 l Z a0 hw G1 b1 b100 (((((((20 : Int32) + (own_wd qi2)) + (10 : Int32)) + (own_wd qi3)) + (7 : Int32)) + (own_wd qi4)) + (1 : Int32)) c101_ ((((((K1_ ++ (own_dec qi2)) ++ K2_) ++ (own_dec qi3)) ++ K3_) ++ (own_dec qi4)) ++ K4_) T258.heap n0 O293 O2 P5 E286_ w272 w271 w273 w274 hc283 E292_) pd26 hml.symm (hb hby d4_48) rfl rfl rfl rfl rfl (by decide)
    obtain ⟨b294, b295, rfl, N285q, K285q, w296, w297, w298, w299, w300, w301, w302, w303⟩ := hQ285
    have N285 := Fr.app N258 N285q
    have K304 := K275.trans K285q (fun x q => nomatch q)
    have C305 : CHv Z consts_1 T193.vm T285.heap := CHv.keep K285q sf0 C276
    have R306 : CHr Z consts_1 s.vm h0 T193.vm T285.heap := R279.trans (CHr.keep K285q sf0 C276)
    have sz_b294 : h0.size ≤ b294 := Nat.le_trans K275.1 w296
    have sz_b295 : h0.size ≤ b295 := Nat.le_trans K275.1 w297
    have hk307' : _ ≤ T285.heap.size := (Nat.le_trans (Nat.le_trans hk193 K258q.1) K285q.1)
    refine own_lvW X285 Bd.notSynchronized hS193 hk307' (v := (some (.ref b294))) (fun h => by rw [Bd.returns] at h; cases h) rfl hh ⟨b294, b295, c101_, rfl, N285, K304, sz_b294, sz_b295, w299, w301, w300, (own_nE w303 hc283.symm)⟩ (R306.trans (CHv.at X285 hZ193 hEL C305)) (lE rfl) (lE rfl) (fun fs hr => pr282 _ (by
     show Sx p e below T258 m 48 #[rv qa1] [.ref b1] _
     refine st285 _ ?_
     exact retOut X285 hx Bd.returns rfl (Or.inr (Or.inr (Or.inr (Or.inr ⟨rfl, rfl, rfl⟩)))) (hb hby d4_51) hr))
   ·
    skip
    have hl308 := own_eqF' ti255 i70_ hc283
    have E310_ := E265_.keep K258q
    have ti311 := own_tsub ti255 i0_ (q120 hB0 hB1 hB2)
    have le312 := own_la le267 own_kK4_ (q124 hB0 hB1 hB2)
    have O313 := O269.keep K258q (allS g_b1 (allS g_b100 all0))
    obtain ⟨_, T309, L309, X309, hQ309, st309⟩ := own_cV 14 367 [] 48 #[rv qa1] X258 hx hZ193 ho193 E310_ (w183_ hw) (w184_ hw) (notFace_of_selects (args := #[]) (mvT hZ193 (w186_ hw))) (w186_ hw) (w185_ hw) (w69_ hw) (w187_ hw) (rm75 l Z a0 hw G1 b1 b100 (((((((20 : Int32) + (own_wd qi2)) + (10 : Int32)) + (own_wd qi3)) + (7 : Int32)) + (own_wd qi4)) + (1 : Int32)) c101_ ((((((K1_ ++ (own_dec qi2)) ++ K2_) ++ (own_dec qi3)) ++ K3_) ++ (own_dec qi4)) ++ K4_) T258.heap n0 O313 O2 P5 E310_ w272 w271 w273 w274 hc283 (own_ltF ti255 i0_ (q119 hB0 hB1 hB2)) (own_nnT ti311 (q3 hB0 hB1 hB2)) (own_leT ti311 (q4 hB0 hB1 hB2)) (own_ltT ti311 i70_ (q127 hB0 hB1 hB2 hl257 hl308)) (own_natT i0_ (show (([] : List Int32).length : Int) = 0 from rfl)) (own_h5 i0_ ti311 i70_ (q128 hB0 hB1 hB2 hl257)) (own_h5 i0_ ti311 ti311 (q123 hB0 hB1 hB2)) (own_hnT le312 ti311 (q125 hB0 hB1 hB2))) pd26 hml.symm (hb hby d4_48) rfl rfl rfl rfl rfl (by decide)
    obtain ⟨b314, b315, c316_, rfl, N309q, K309q, w317, w318, w319, w320, w321, w322, w323, w324⟩ := hQ309
    have N309 := Fr.app N258 N309q
    have K325 := K275.trans K309q (fun x q => nomatch q)
    have C326 : CHv Z consts_1 T193.vm T309.heap := CHv.keep K309q sf0 C276
    have R327 : CHr Z consts_1 s.vm h0 T193.vm T309.heap := R279.trans (CHr.keep K309q sf0 C276)
    have sz_b314 : h0.size ≤ b314 := Nat.le_trans K275.1 w317
    have sz_b315 : h0.size ≤ b315 := Nat.le_trans K275.1 w318
    have hk328' : _ ≤ T309.heap.size := (Nat.le_trans (Nat.le_trans hk193 K258q.1) K309q.1)
    refine own_lvW X309 Bd.notSynchronized hS193 hk328' (v := (some (.ref b314))) (fun h => by rw [Bd.returns] at h; cases h) rfl hh ⟨b314, b315, c316_, rfl, N309, K325, sz_b314, sz_b315, w320, w322, w321, (own_nE w324 (own_sub0 _))⟩ (R327.trans (CHv.at X309 hZ193 hEL C326)) (lE rfl) (lE rfl) (fun fs hr => pr282 _ (by
     show Sx p e below T258 m 48 #[rv qa1] [.ref b1] _
     refine st309 _ ?_
     exact retOut X309 hx Bd.returns rfl (Or.inr (Or.inr (Or.inr (Or.inr ⟨rfl, rfl, rfl⟩)))) (hb hby d4_51) hr))
 ·
  skip
  have ti329 := own_tadd ti56 i10_ (q48 hB0)
  have ti330 := own_tsub ti329 i34_ (q86 hB0)
  have hl331 := own_ltF' i0_ ti330 hc82
  have hp333 : ∀ c ∈ K2_, ¬ c < 0 ∧ ¬ (255 : Int32) < c := (by decide)
  have F334_ := w62.ext E70
  have F335_ := w63.ext E70
  have A336_ := w65.ext E70
  have F337_ := w64.ext E70
  have E338_ := E58_.keep K55q
  have E339_ := E338_.ext E70
  have ti340 := own_tshl ti56
  have le341 := own_la own_kK1_ (own_wL qi2) (q28 hB0)
  have O342 := O60.keep K55q (allS g_b1 (allS g_b37 all0))
  have O343 := O342.ext E70
  obtain ⟨_, T332, L332, X332, hQ332, st332⟩ := own_cV 7 182 [] 21 #[rv qa1] X70 hx hZ70 ho70 E339_ (w88_ hw) (w89_ hw) (notFace_of_selects (args := #[]) (mvT hZ70 (w91_ hw))) (w91_ hw) (w90_ hw) (w69_ hw) (w92_ hw) (rm79 l Z a0 hw G1 b1 b70 t70 c70 ((20 : Int32) + (own_wd qi2)) b37 c38_ (K1_ ++ (own_dec qi2)) h70 n0 O343 O2 P5 Ex70 Fc70 Fv70 hp333 Av70 F334_ F335_ A336_ F337_ hc82 E339_ (own_natT ti340 le341) (own_nnT ti340 (q91 hB0)) (own_h5 i0_ i10_ i10_ q92) (own_h5 ti340 i10_ i34_ (q129 hB0 hl331)) (own_hnT own_kK2_ i10_ q94) g_b37 nx59 g_b1) pd16 hml.symm (hb hby d4_21) e70 rfl rfl rfl rfl (by decide)
  obtain ⟨rfl, N332q, K332q, w344, w345, w346, w347, w348⟩ := hQ332
  have N332 := Fr.app N55 N332q
  have K349 := K72.trans K332q (allS (Or.inr sz_b1) (allS (Or.inr sz_b37) all0))
  have f351 : Safe Z consts_1 T22.vm T55.heap b37 := Safe.keep K55q (sfS (Safe.exa hZ22.alike E58_ (by decide) (by decide)) (sfS f68 sf0)) C47 f68
  have f352 : Safe Z consts_1 T70.vm h70 b37 := CR70.safe (Nat.lt_of_lt_of_le w44.lt K55q.1) f351
  have C350 : CHv Z consts_1 T70.vm T332.heap := CHv.keep K332q (sfS (Safe.exa hZ70.alike E339_ (by decide) (by decide)) (sfS f352 sf0)) CR70.1
  have R353 : CHr Z consts_1 s.vm h0 T70.vm T332.heap := R74.trans (CHr.keep K332q (sfS (Safe.exa hZ70.alike E339_ (by decide) (by decide)) (sfS f352 sf0)) CR70.1)
  have F355_ := F_qa1_networkCount.ext E1
  have F356_ := F355_.keep K8q (ninS nx51 nin0)
  have F357_ := F356_.ext E22
  have F358_ := F357_.keep K27q (ninS nx51 nin0)
  have nx359 : qa1 ≠ b37 := (Nat.ne_of_lt (Nat.lt_of_lt_of_le (Nat.lt_of_lt_of_le F_qa1_requestCount.lt K24.1) w39))
  have F360_ := F358_.keep K55q (ninS nx51 (ninS nx359 nin0))
  have F361_ := F360_.ext E70
  have F362_ := F361_.keep K332q (ninS nx51 (ninS nx359 nin0))
  obtain ⟨T354, X354, e354, st354⟩ := own_gF 25 #[rv qa1] [.ref b1] X332 hx hZ70 ho70 (w58_ hw) Via.refl rfl F362_ (hb hby d4_25)
  have pr364 : Pr p e below T354 m 28 #[rv qa1] [.int qi3, .ref b1] s₁ (entryFrame m #[.ref qa1] 1) := fun t k => pr81 t (by
   show Sx p e below T70 m 21 #[rv qa1] [.ref b70, .ref b1] _
   refine st332 _ ?_
   refine zb X332 Bd d4_24 rfl rfl ?_
   refine st354 _ ?_
   exact k)
  by_cases hc365 : (0 : Int32) < (((((20 : Int32) + (own_wd qi2)) + (10 : Int32)) + (own_wd qi3)) - (34 : Int32))
  ·
   skip
   have ti366 := own_tadd ti329 (own_wR qi3) (q51 hB0 hB1)
   have ti367 := own_tsub ti366 i34_ (q130 hB0 hB1)
   have hl368 := own_ltT' i0_ ti367 hc365
   have ti370 := own_tshl ti366
   have ti371 := own_tsub ti370 i34_ (q130 hB0 hB1)
   have E372_ := E339_.keep K332q
   have le373 := own_la le341 own_kK2_ (q97 hB0)
   have O374 := O343.keep K332q (allS g_b1 (allS g_b37 all0))
   obtain ⟨_, T369, L369, X369, hQ369, st369⟩ := own_cV 8 252 [] 28 #[rv qa1] X354 hx hZ70 ho70 E372_ (w158_ hw) (w159_ hw) (notFace_of_selects (args := #[]) (mvT hZ70 (w161_ hw))) (w161_ hw) (w160_ hw) (w69_ hw) (w162_ hw) (rm81 l Z a0 hw G1 Gg0 Gg1 Kg2 Kg3 b1 qi3 (((20 : Int32) + (own_wd qi2)) + (10 : Int32)) b37 c38_ ((K1_ ++ (own_dec qi2)) ++ K2_) T332.heap n0 O374 O2 P5 hEN w345 w346 w348 w347 hc365 (own_ltT ti371 i36_ (q131 hB0 hB1)) E372_ (own_natT i0_ (show (([] : List Int32).length : Int) = 0 from rfl)) (own_h5 i0_ i34_ i34_ q88) (own_h5 i0_ i34_ i70_ q89) (own_hnT le373 i34_ (q132 hB0 hl331)) g_b1 (own_ix ti366 le373 (own_wL qi3) (q52 hB0 hB1)) (own_decL le373 (own_wL qi3) i70_ (q98 hB0 hB1)) (own_l9 le373 (q50 hB0))) pd20 hml.symm (hb hby d4_28) e354 rfl rfl rfl rfl (by decide)
   obtain ⟨b375, c376_, rfl, N369q, K369q, w377, w378, w379, w380, w381, w382, w383⟩ := hQ369
   have N369 := Fr.app N332 N369q
   have K384 := K349.trans K369q (allS (Or.inr sz_b1) all0)
   have C385 : CHv Z consts_1 T70.vm T369.heap := CHv.keep K369q (sfS (Safe.exa hZ70.alike E372_ (by decide) (by decide)) sf0) C350
   have R386 : CHr Z consts_1 s.vm h0 T70.vm T369.heap := R353.trans (CHr.keep K369q (sfS (Safe.exa hZ70.alike E372_ (by decide) (by decide)) sf0) C350)
   have hk388' : _ ≤ T369.heap.size := (Nat.le_trans (Nat.le_trans hk70 K332q.1) K369q.1)
   obtain ⟨b387, T387, h387, k387, t387, c387, X387, e387, E387, hS387, hk387, hZ387, ho387, Ex387, Fc387, Fv387, Av387, lb387, lt387, CR387, -, sf387, st387⟩ := ldcCH (text := ", hits=") (EL := consts_1) X369 hx hZ70 ho70 (w181_ hw) hwS rfl hS70 hk388' hEL (by decide) C385 (vs := [.int 44, .int 32, .int 104, .int 105, .int 116, .int 115, .int 61]) (z := (7 : Int32)) ⟨by decide, by decide⟩ (by decide) (by decide) (g := (mkF m 31 #[rv qa1] [.ref b1])) rfl (hb hby d4_31) (n := 28) (by decide) (lE rfl) (lE rfl) (lE rfl)
   have K389 := K384.ext E387
   have R391 := R386.trans CR387
   replace X387 : Stand p l e (Rm 6 15 509 91) (s.setVm T387.vm) m #[.ref qa1] below meth c T387 _ 10 284 := X387
   have hp393 : ∀ c ∈ K3_, ¬ c < 0 ∧ ¬ (255 : Int32) < c := (by decide)
   have F394_ := w381.ext E387
   have F395_ := w379.ext E387
   have A396_ := w383.ext E387
   have F397_ := w380.ext E387
   have ti398 := own_tadd ti366 i7_ (q66 hB0 hB1)
   have ti399 := own_tsub ti398 i70_ (q99 hB0 hB1)
   have E400_ := E372_.keep K369q
   have E401_ := E400_.ext E387
   have le402 := own_la le373 (own_wL qi3) (q52 hB0 hB1)
   have g_b375 : n0 ≤ b375 := Nat.le_trans (Nat.le_trans (Nat.le_of_eq O374.1.symm) O374.2.1) w377
   have nx403 : b1 ≠ b375 := (Nat.ne_of_lt (Nat.lt_of_lt_of_le (Nat.lt_of_lt_of_le A1.lt (Nat.le_trans (Nat.le_trans (Nat.le_trans (Nat.le_trans (Nat.le_trans K8q.1 E22.1) K27q.1) K55q.1) E70.1) K332q.1)) w377))
   have O404 := O374.keep K369q (allS g_b1 all0)
   have O405 := O404.ext E387
   obtain ⟨_, T392, L392, X392, hQ392, st392⟩ := own_cV 10 284 [] 33 #[rv qa1] X387 hx hZ387 ho387 E401_ (w88_ hw) (w89_ hw) (notFace_of_selects (args := #[]) (mvT hZ387 (w91_ hw))) (w91_ hw) (w90_ hw) (w69_ hw) (w92_ hw) (rm41 l Z a0 hw G1 b1 b387 t387 c387 ((((20 : Int32) + (own_wd qi2)) + (10 : Int32)) + (own_wd qi3)) b375 c376_ (((K1_ ++ (own_dec qi2)) ++ K2_) ++ (own_dec qi3)) h387 n0 O405 O2 P5 Ex387 Fc387 Fv387 hp393 Av387 F394_ F395_ A396_ F397_ (own_ltF i0_ ti399 (q100 hB0 hB1)) E401_ (own_natT ti370 le402) (own_nnT ti370 (q101 hB0 hB1)) (own_h5 i0_ i7_ i7_ q102) (own_h5 ti370 i7_ i70_ (q103 hB0 hB1)) (own_hnT own_kK3_ i7_ q104) g_b375 nx403 g_b1) pd16 hml.symm (hb hby d4_33) e387 rfl rfl rfl rfl (by decide)
   obtain ⟨rfl, N392q, K392q, w406, w407, w408, w409, w410⟩ := hQ392
   have N392 := Fr.app N369 N392q
   have sz_b375 : h0.size ≤ b375 := Nat.le_trans K349.1 w377
   have K411 := K389.trans K392q (allS (Or.inr sz_b1) (allS (Or.inr sz_b375) all0))
   have f413 : Safe Z consts_1 T70.vm T369.heap b375 := Safe.keep K369q (sfS (Safe.exa hZ70.alike E372_ (by decide) (by decide)) sf0) C350 (Safe.new w377)
   have f414 : Safe Z consts_1 T387.vm h387 b375 := CR387.safe w382.lt f413
   have C412 : CHv Z consts_1 T387.vm T392.heap := CHv.keep K392q (sfS (Safe.exa hZ387.alike E401_ (by decide) (by decide)) (sfS f414 sf0)) CR387.1
   have R415 : CHr Z consts_1 s.vm h0 T387.vm T392.heap := R391.trans (CHr.keep K392q (sfS (Safe.exa hZ387.alike E401_ (by decide) (by decide)) (sfS f414 sf0)) CR387.1)
   have F417_ := F_qa1_hitCount.ext E1
   have F418_ := F417_.keep K8q (ninS nx51 nin0)
   have F419_ := F418_.ext E22
   have F420_ := F419_.keep K27q (ninS nx51 nin0)
   have F421_ := F420_.keep K55q (ninS nx51 (ninS nx359 nin0))
   have F422_ := F421_.ext E70
   have F423_ := F422_.keep K332q (ninS nx51 (ninS nx359 nin0))
   have F424_ := F423_.keep K369q (ninS nx51 nin0)
   have F425_ := F424_.ext E387
   have nx426 : qa1 ≠ b375 := (Nat.ne_of_lt (Nat.lt_of_lt_of_le (Nat.lt_of_lt_of_le F_qa1_requestCount.lt K349.1) w377))
   have F427_ := F425_.keep K392q (ninS nx51 (ninS nx426 nin0))
   obtain ⟨T416, X416, e416, st416⟩ := own_gF 37 #[rv qa1] [.ref b1] X392 hx hZ387 ho387 (w60_ hw) Via.refl rfl F427_ (hb hby d4_37)
   have ti429 := own_tadd ti398 (own_wR qi4) (q69 hB0 hB1 hB2)
   have ti430 := own_tsub ti429 i70_ (q105 hB0 hB1 hB2)
   have E431_ := E401_.keep K392q
   have le432 := own_la le402 own_kK3_ (q107 hB0 hB1)
   have O433 := O405.keep K392q (allS g_b1 (allS g_b375 all0))
   obtain ⟨_, T428, L428, X428, hQ428, st428⟩ := own_cV 10 284 [] 40 #[rv qa1] X416 hx hZ387 ho387 E431_ (w158_ hw) (w159_ hw) (notFace_of_selects (args := #[]) (mvT hZ387 (w161_ hw))) (w161_ hw) (w160_ hw) (w69_ hw) (w162_ hw) (rm37 l Z a0 hw G1 Gg0 Gg1 Kg2 Kg3 b1 qi4 (((((20 : Int32) + (own_wd qi2)) + (10 : Int32)) + (own_wd qi3)) + (7 : Int32)) b375 c376_ ((((K1_ ++ (own_dec qi2)) ++ K2_) ++ (own_dec qi3)) ++ K3_) T392.heap n0 O433 O2 P5 hEN w407 w408 w410 w409 (own_ltF i0_ ti430 (q106 hB0 hB1 hB2)) E431_ (own_ix ti429 le432 (own_wL qi4) (q70 hB0 hB1 hB2)) (own_decL le432 (own_wL qi4) i70_ (q108 hB0 hB1 hB2)) (own_l9 le432 (q68 hB0 hB1)) g_b375 nx403 g_b1) pd20 hml.symm (hb hby d4_40) e416 rfl rfl rfl rfl (by decide)
   obtain ⟨rfl, N428q, K428q, w434, w435, w436, w437, w438⟩ := hQ428
   have N428 := Fr.app N392 N428q
   have K439 := K411.trans K428q (allS (Or.inr sz_b1) (allS (Or.inr sz_b375) all0))
   have f441 : Safe Z consts_1 T387.vm T392.heap b375 := Safe.keep K392q (sfS (Safe.exa hZ387.alike E401_ (by decide) (by decide)) (sfS f414 sf0)) CR387.1 f414
   have C440 : CHv Z consts_1 T387.vm T428.heap := CHv.keep K428q (sfS (Safe.exa hZ387.alike E431_ (by decide) (by decide)) (sfS f441 sf0)) C412
   have R442 : CHr Z consts_1 s.vm h0 T387.vm T428.heap := R415.trans (CHr.keep K428q (sfS (Safe.exa hZ387.alike E431_ (by decide) (by decide)) (sfS f441 sf0)) C412)
   have hk444' : _ ≤ T428.heap.size := (Nat.le_trans (Nat.le_trans hk387 K392q.1) K428q.1)
   obtain ⟨b443, T443, h443, k443, t443, c443, X443, e443, E443, hS443, hk443, hZ443, ho443, Ex443, Fc443, Fv443, Av443, lb443, lt443, CR443, -, sf443, st443⟩ := ldcCH (text := "]") (EL := consts_1) X428 hx hZ387 ho387 (w182_ hw) hwS rfl hS387 hk444' hEL (by decide) C440 (vs := [.int 93]) (z := (1 : Int32)) ⟨by decide, by decide⟩ (by decide) (by decide) (g := (mkF m 43 #[rv qa1] [.ref b1])) rfl (hb hby d4_43) (n := 4) (by decide) (lE rfl) (lE rfl) (lE rfl)
   have K445 := K439.ext E443
   have R447 := R442.trans CR443
   replace X443 : Stand p l e (Rm 6 15 509 91) (s.setVm T443.vm) m #[.ref qa1] below meth c T443 _ 12 292 := X443
   have hp449 : ∀ c ∈ K4_, ¬ c < 0 ∧ ¬ (255 : Int32) < c := (by decide)
   have F450_ := w435.ext E443
   have F451_ := w436.ext E443
   have A452_ := w438.ext E443
   have F453_ := w437.ext E443
   have ti454 := own_tadd ti429 i1_ (q75 hB0 hB1 hB2)
   have ti455 := own_tsub ti454 i70_ (q109 hB0 hB1 hB2)
   have E456_ := E431_.keep K428q
   have E457_ := E456_.ext E443
   have ti458 := own_tshl ti429
   have le459 := own_la le432 (own_wL qi4) (q70 hB0 hB1 hB2)
   have O460 := O433.keep K428q (allS g_b1 (allS g_b375 all0))
   have O461 := O460.ext E443
   obtain ⟨_, T448, L448, X448, hQ448, st448⟩ := own_cV 12 292 [] 45 #[rv qa1] X443 hx hZ443 ho443 E457_ (w88_ hw) (w89_ hw) (notFace_of_selects (args := #[]) (mvT hZ443 (w91_ hw))) (w91_ hw) (w90_ hw) (w69_ hw) (w92_ hw) (rm65 l Z a0 hw G1 b1 b443 t443 c443 ((((((20 : Int32) + (own_wd qi2)) + (10 : Int32)) + (own_wd qi3)) + (7 : Int32)) + (own_wd qi4)) b375 c376_ (((((K1_ ++ (own_dec qi2)) ++ K2_) ++ (own_dec qi3)) ++ K3_) ++ (own_dec qi4)) h443 n0 O461 O2 P5 Ex443 Fc443 Fv443 hp449 Av443 F450_ F451_ A452_ F453_ (own_ltF i0_ ti455 (q133 hB0 hB1 hB2 hl331)) E457_ (own_natT ti458 le459) (own_nnT ti458 (q114 hB0 hB1 hB2)) (own_h5 i0_ i1_ i1_ q115) (own_h5 ti458 i1_ i70_ (q134 hB0 hB1 hB2 hl331)) (own_hnT own_kK4_ i1_ q117) g_b375 nx403 g_b1) pd16 hml.symm (hb hby d4_45) e443 rfl rfl rfl rfl (by decide)
   obtain ⟨rfl, N448q, K448q, w462, w463, w464, w465, w466⟩ := hQ448
   have N448 := Fr.app N428 N448q
   have K467 := K445.trans K448q (allS (Or.inr sz_b1) (allS (Or.inr sz_b375) all0))
   have f469 : Safe Z consts_1 T387.vm T428.heap b375 := Safe.keep K428q (sfS (Safe.exa hZ387.alike E431_ (by decide) (by decide)) (sfS f441 sf0)) C412 f441
   have f470 : Safe Z consts_1 T443.vm h443 b375 := CR443.safe (Nat.lt_of_lt_of_le w382.lt (Nat.le_trans (Nat.le_trans E387.1 K392q.1) K428q.1)) f469
   have C468 : CHv Z consts_1 T443.vm T448.heap := CHv.keep K448q (sfS (Safe.exa hZ443.alike E457_ (by decide) (by decide)) (sfS f470 sf0)) CR443.1
   have R471 : CHr Z consts_1 s.vm h0 T443.vm T448.heap := R447.trans (CHr.keep K448q (sfS (Safe.exa hZ443.alike E457_ (by decide) (by decide)) (sfS f470 sf0)) CR443.1)
   have E473_ := E457_.keep K448q
   have ti474 := own_tsub ti454 i0_ (q120 hB0 hB1 hB2)
   have le475 := own_la le459 own_kK4_ (q124 hB0 hB1 hB2)
   have O476 := O461.keep K448q (allS g_b1 (allS g_b375 all0))
   obtain ⟨_, T472, L472, X472, hQ472, st472⟩ := own_cV 14 367 [] 48 #[rv qa1] X448 hx hZ443 ho443 E473_ (w183_ hw) (w184_ hw) (notFace_of_selects (args := #[]) (mvT hZ443 (w186_ hw))) (w186_ hw) (w185_ hw) (w69_ hw) (w187_ hw) (rm75 l Z a0 hw G1 b1 b375 (((((((20 : Int32) + (own_wd qi2)) + (10 : Int32)) + (own_wd qi3)) + (7 : Int32)) + (own_wd qi4)) + (1 : Int32)) c376_ ((((((K1_ ++ (own_dec qi2)) ++ K2_) ++ (own_dec qi3)) ++ K3_) ++ (own_dec qi4)) ++ K4_) T448.heap n0 O476 O2 P5 E473_ w464 w463 w465 w466 (own_eqF ti454 i70_ (q135 hB0 hB1 hB2 hl331)) (own_ltF ti454 i0_ (q119 hB0 hB1 hB2)) (own_nnT ti474 (q3 hB0 hB1 hB2)) (own_leT ti474 (q4 hB0 hB1 hB2)) (own_ltT ti474 i70_ (q136 hB0 hB1 hB2 hl331)) (own_natT i0_ (show (([] : List Int32).length : Int) = 0 from rfl)) (own_h5 i0_ ti474 i70_ (q137 hB0 hB1 hB2 hl331)) (own_h5 i0_ ti474 ti474 (q123 hB0 hB1 hB2)) (own_hnT le475 ti474 (q125 hB0 hB1 hB2))) pd26 hml.symm (hb hby d4_48) rfl rfl rfl rfl rfl (by decide)
   obtain ⟨b477, b478, c479_, rfl, N472q, K472q, w480, w481, w482, w483, w484, w485, w486, w487⟩ := hQ472
   have N472 := Fr.app N448 N472q
   have K488 := K467.trans K472q (fun x q => nomatch q)
   have C489 : CHv Z consts_1 T443.vm T472.heap := CHv.keep K472q sf0 C468
   have R490 : CHr Z consts_1 s.vm h0 T443.vm T472.heap := R471.trans (CHr.keep K472q sf0 C468)
   have sz_b477 : h0.size ≤ b477 := Nat.le_trans K467.1 w480
   have sz_b478 : h0.size ≤ b478 := Nat.le_trans K467.1 w481
   have hk491' : _ ≤ T472.heap.size := (Nat.le_trans (Nat.le_trans hk443 K448q.1) K472q.1)
   refine own_lvW X472 Bd.notSynchronized hS443 hk491' (v := (some (.ref b477))) (fun h => by rw [Bd.returns] at h; cases h) rfl hh ⟨b477, b478, c479_, rfl, N472, K488, sz_b477, sz_b478, w483, w485, w484, (own_nE w487 (own_sub0 _))⟩ (R490.trans (CHv.at X472 hZ443 hEL C489)) (lE rfl) (lE rfl) (fun fs hr => pr364 _ (by
    show Sx p e below T354 m 28 #[rv qa1] [.int qi3, .ref b1] _
    refine st369 _ ?_
    refine st387 _ ?_
    refine st392 _ ?_
    refine zb X392 Bd d4_36 rfl rfl ?_
    refine st416 _ ?_
    refine st428 _ ?_
    refine st443 _ ?_
    refine st448 _ ?_
    refine st472 _ ?_
    exact retOut X472 hx Bd.returns rfl (Or.inr (Or.inr (Or.inr (Or.inr ⟨rfl, rfl, rfl⟩)))) (hb hby d4_51) hr))
  ·
   skip
   have ti492 := own_tadd ti329 (own_wR qi3) (q51 hB0 hB1)
   have ti493 := own_tsub ti492 i34_ (q130 hB0 hB1)
   have hl494 := own_ltF' i0_ ti493 hc365
   have E496_ := E339_.keep K332q
   have le497 := own_la le341 own_kK2_ (q97 hB0)
   have O498 := O343.keep K332q (allS g_b1 (allS g_b37 all0))
   obtain ⟨_, T495, L495, X495, hQ495, st495⟩ := own_cV 7 182 [] 28 #[rv qa1] X354 hx hZ70 ho70 E496_ (w158_ hw) (w159_ hw) (notFace_of_selects (args := #[]) (mvT hZ70 (w161_ hw))) (w161_ hw) (w160_ hw) (w69_ hw) (w162_ hw) (rm83 l Z a0 hw G1 Gg0 Gg1 Kg2 Kg3 b1 qi3 (((20 : Int32) + (own_wd qi2)) + (10 : Int32)) b37 c38_ ((K1_ ++ (own_dec qi2)) ++ K2_) T332.heap n0 O498 O2 P5 hEN w345 w346 w348 w347 hc365 E496_ (own_ix ti492 le497 (own_wL qi3) (q52 hB0 hB1)) (own_decL le497 (own_wL qi3) i34_ (q138 hB0 hB1 hl494)) (own_l9 le497 (q50 hB0)) g_b37 nx59 g_b1) pd20 hml.symm (hb hby d4_28) e354 rfl rfl rfl rfl (by decide)
   obtain ⟨rfl, N495q, K495q, w499, w500, w501, w502, w503⟩ := hQ495
   have N495 := Fr.app N332 N495q
   have K504 := K349.trans K495q (allS (Or.inr sz_b1) (allS (Or.inr sz_b37) all0))
   have f506 : Safe Z consts_1 T70.vm T332.heap b37 := Safe.keep K332q (sfS (Safe.exa hZ70.alike E339_ (by decide) (by decide)) (sfS f352 sf0)) CR70.1 f352
   have C505 : CHv Z consts_1 T70.vm T495.heap := CHv.keep K495q (sfS (Safe.exa hZ70.alike E496_ (by decide) (by decide)) (sfS f506 sf0)) C350
   have R507 : CHr Z consts_1 s.vm h0 T70.vm T495.heap := R353.trans (CHr.keep K495q (sfS (Safe.exa hZ70.alike E496_ (by decide) (by decide)) (sfS f506 sf0)) C350)
   have hk509' : _ ≤ T495.heap.size := (Nat.le_trans (Nat.le_trans hk70 K332q.1) K495q.1)
   obtain ⟨b508, T508, h508, k508, t508, c508, X508, e508, E508, hS508, hk508, hZ508, ho508, Ex508, Fc508, Fv508, Av508, lb508, lt508, CR508, -, sf508, st508⟩ := ldcCH (text := ", hits=") (EL := consts_1) X495 hx hZ70 ho70 (w181_ hw) hwS rfl hS70 hk509' hEL (by decide) C505 (vs := [.int 44, .int 32, .int 104, .int 105, .int 116, .int 115, .int 61]) (z := (7 : Int32)) ⟨by decide, by decide⟩ (by decide) (by decide) (g := (mkF m 31 #[rv qa1] [.ref b1])) rfl (hb hby d4_31) (n := 28) (by decide) (lE rfl) (lE rfl) (lE rfl)
   have K510 := K504.ext E508
   have R512 := R507.trans CR508
   replace X508 : Stand p l e (Rm 6 15 509 91) (s.setVm T508.vm) m #[.ref qa1] below meth c T508 _ 9 214 := X508
   have hp514 : ∀ c ∈ K3_, ¬ c < 0 ∧ ¬ (255 : Int32) < c := (by decide)
   have F515_ := w500.ext E508
   have F516_ := w501.ext E508
   have A517_ := w503.ext E508
   have F518_ := w502.ext E508
   have ti519 := own_tadd ti492 i7_ (q66 hB0 hB1)
   have ti520 := own_tsub ti519 i34_ (q139 hB0 hB1)
   have ti521 := own_tshl ti519
   have ti522 := own_tsub ti521 i34_ (q139 hB0 hB1)
   have E523_ := E496_.keep K495q
   have E524_ := E523_.ext E508
   have le525 := own_la le497 (own_wL qi3) (q52 hB0 hB1)
   have ti526 := own_tshl ti492
   have O527 := O498.keep K495q (allS g_b1 (allS g_b37 all0))
   have O528 := O527.ext E508
   obtain ⟨_, T513, L513, X513, hQ513, st513⟩ := own_cV 10 284 [] 33 #[rv qa1] X508 hx hZ508 ho508 E524_ (w88_ hw) (w89_ hw) (notFace_of_selects (args := #[]) (mvT hZ508 (w91_ hw))) (w91_ hw) (w90_ hw) (w69_ hw) (w92_ hw) (rm85 l Z a0 hw G1 b1 b508 t508 c508 ((((20 : Int32) + (own_wd qi2)) + (10 : Int32)) + (own_wd qi3)) b37 c38_ (((K1_ ++ (own_dec qi2)) ++ K2_) ++ (own_dec qi3)) h508 n0 O528 O2 P5 Ex508 Fc508 Fv508 hp514 Av508 F515_ F516_ A517_ F518_ (own_ltT i0_ ti520 (q140 hB0 hB1)) (own_ltT ti522 i36_ (q141 hB0 hB1)) E524_ (own_natT i0_ (show (([] : List Int32).length : Int) = 0 from rfl)) (own_h5 i0_ i34_ i34_ q88) (own_h5 i0_ i34_ i70_ q89) (own_hnT le525 i34_ (q142 hB0 hB1 hl494)) g_b1 (Ne.symm (sf508 b1 (Safe.exa hZ508.alike E524_ (by decide) (by decide))).1) (Ne.symm (sf508 b1 (Safe.exa hZ508.alike E524_ (by decide) (by decide))).2) (own_natT ti526 le525) (own_nnT ti526 (q101 hB0 hB1)) (own_h5 i0_ i7_ i7_ q102) (own_h5 ti526 i7_ i70_ (q103 hB0 hB1)) (own_hnT own_kK3_ i7_ q104)) pd16 hml.symm (hb hby d4_33) e508 rfl rfl rfl rfl (by decide)
   obtain ⟨b529, c530_, rfl, N513q, K513q, w531, w532, w533, w534, w535, w536, w537⟩ := hQ513
   have N513 := Fr.app N495 N513q
   have K538 := K510.trans K513q (allS (Or.inr sz_b1) all0)
   have C539 : CHv Z consts_1 T508.vm T513.heap := CHv.keep K513q (sfS (Safe.exa hZ508.alike E524_ (by decide) (by decide)) sf0) CR508.1
   have R540 : CHr Z consts_1 s.vm h0 T508.vm T513.heap := R512.trans (CHr.keep K513q (sfS (Safe.exa hZ508.alike E524_ (by decide) (by decide)) sf0) CR508.1)
   have F542_ := F_qa1_hitCount.ext E1
   have F543_ := F542_.keep K8q (ninS nx51 nin0)
   have F544_ := F543_.ext E22
   have F545_ := F544_.keep K27q (ninS nx51 nin0)
   have F546_ := F545_.keep K55q (ninS nx51 (ninS nx359 nin0))
   have F547_ := F546_.ext E70
   have F548_ := F547_.keep K332q (ninS nx51 (ninS nx359 nin0))
   have F549_ := F548_.keep K495q (ninS nx51 (ninS nx359 nin0))
   have F550_ := F549_.ext E508
   have F551_ := F550_.keep K513q (ninS nx51 nin0)
   obtain ⟨T541, X541, e541, st541⟩ := own_gF 37 #[rv qa1] [.ref b1] X513 hx hZ508 ho508 (w60_ hw) Via.refl rfl F551_ (hb hby d4_37)
   have ti553 := own_tadd ti519 (own_wR qi4) (q69 hB0 hB1 hB2)
   have ti554 := own_tsub ti553 i70_ (q105 hB0 hB1 hB2)
   have E555_ := E524_.keep K513q
   have le556 := own_la le525 own_kK3_ (q107 hB0 hB1)
   have g_b529 : n0 ≤ b529 := Nat.le_trans (Nat.le_trans (Nat.le_of_eq O528.1.symm) O528.2.1) w531
   have nx557 : b1 ≠ b529 := (Nat.ne_of_lt (Nat.lt_of_lt_of_le (Nat.lt_of_lt_of_le A1.lt (Nat.le_trans (Nat.le_trans (Nat.le_trans (Nat.le_trans (Nat.le_trans (Nat.le_trans (Nat.le_trans K8q.1 E22.1) K27q.1) K55q.1) E70.1) K332q.1) K495q.1) E508.1)) w531))
   have O558 := O528.keep K513q (allS g_b1 all0)
   obtain ⟨_, T552, L552, X552, hQ552, st552⟩ := own_cV 10 284 [] 40 #[rv qa1] X541 hx hZ508 ho508 E555_ (w158_ hw) (w159_ hw) (notFace_of_selects (args := #[]) (mvT hZ508 (w161_ hw))) (w161_ hw) (w160_ hw) (w69_ hw) (w162_ hw) (rm37 l Z a0 hw G1 Gg0 Gg1 Kg2 Kg3 b1 qi4 (((((20 : Int32) + (own_wd qi2)) + (10 : Int32)) + (own_wd qi3)) + (7 : Int32)) b529 c530_ ((((K1_ ++ (own_dec qi2)) ++ K2_) ++ (own_dec qi3)) ++ K3_) T513.heap n0 O558 O2 P5 hEN w535 w533 w537 w534 (own_ltF i0_ ti554 (q106 hB0 hB1 hB2)) E555_ (own_ix ti553 le556 (own_wL qi4) (q70 hB0 hB1 hB2)) (own_decL le556 (own_wL qi4) i70_ (q108 hB0 hB1 hB2)) (own_l9 le556 (q68 hB0 hB1)) g_b529 nx557 g_b1) pd20 hml.symm (hb hby d4_40) e541 rfl rfl rfl rfl (by decide)
   obtain ⟨rfl, N552q, K552q, w559, w560, w561, w562, w563⟩ := hQ552
   have N552 := Fr.app N513 N552q
   have sz_b529 : h0.size ≤ b529 := Nat.le_trans K510.1 w531
   have K564 := K538.trans K552q (allS (Or.inr sz_b1) (allS (Or.inr sz_b529) all0))
   have f566 : Safe Z consts_1 T508.vm T513.heap b529 := Safe.keep K513q (sfS (Safe.exa hZ508.alike E524_ (by decide) (by decide)) sf0) CR508.1 (Safe.new w531)
   have C565 : CHv Z consts_1 T508.vm T552.heap := CHv.keep K552q (sfS (Safe.exa hZ508.alike E555_ (by decide) (by decide)) (sfS f566 sf0)) C539
   have R567 : CHr Z consts_1 s.vm h0 T508.vm T552.heap := R540.trans (CHr.keep K552q (sfS (Safe.exa hZ508.alike E555_ (by decide) (by decide)) (sfS f566 sf0)) C539)
   have hk569' : _ ≤ T552.heap.size := (Nat.le_trans (Nat.le_trans hk508 K513q.1) K552q.1)
   obtain ⟨b568, T568, h568, k568, t568, c568, X568, e568, E568, hS568, hk568, hZ568, ho568, Ex568, Fc568, Fv568, Av568, lb568, lt568, CR568, -, sf568, st568⟩ := ldcCH (text := "]") (EL := consts_1) X552 hx hZ508 ho508 (w182_ hw) hwS rfl hS508 hk569' hEL (by decide) C565 (vs := [.int 93]) (z := (1 : Int32)) ⟨by decide, by decide⟩ (by decide) (by decide) (g := (mkF m 43 #[rv qa1] [.ref b1])) rfl (hb hby d4_43) (n := 4) (by decide) (lE rfl) (lE rfl) (lE rfl)
   have K570 := K564.ext E568
   have R572 := R567.trans CR568
   replace X568 : Stand p l e (Rm 6 15 509 91) (s.setVm T568.vm) m #[.ref qa1] below meth c T568 _ 12 292 := X568
   have hp574 : ∀ c ∈ K4_, ¬ c < 0 ∧ ¬ (255 : Int32) < c := (by decide)
   have F575_ := w560.ext E568
   have F576_ := w561.ext E568
   have A577_ := w563.ext E568
   have F578_ := w562.ext E568
   have ti579 := own_tadd ti553 i1_ (q75 hB0 hB1 hB2)
   have ti580 := own_tsub ti579 i70_ (q109 hB0 hB1 hB2)
   have E581_ := E555_.keep K552q
   have E582_ := E581_.ext E568
   have ti583 := own_tshl ti553
   have le584 := own_la le556 (own_wL qi4) (q70 hB0 hB1 hB2)
   have O585 := O558.keep K552q (allS g_b1 (allS g_b529 all0))
   have O586 := O585.ext E568
   obtain ⟨_, T573, L573, X573, hQ573, st573⟩ := own_cV 12 292 [] 45 #[rv qa1] X568 hx hZ568 ho568 E582_ (w88_ hw) (w89_ hw) (notFace_of_selects (args := #[]) (mvT hZ568 (w91_ hw))) (w91_ hw) (w90_ hw) (w69_ hw) (w92_ hw) (rm65 l Z a0 hw G1 b1 b568 t568 c568 ((((((20 : Int32) + (own_wd qi2)) + (10 : Int32)) + (own_wd qi3)) + (7 : Int32)) + (own_wd qi4)) b529 c530_ (((((K1_ ++ (own_dec qi2)) ++ K2_) ++ (own_dec qi3)) ++ K3_) ++ (own_dec qi4)) h568 n0 O586 O2 P5 Ex568 Fc568 Fv568 hp574 Av568 F575_ F576_ A577_ F578_ (own_ltF i0_ ti580 (q133 hB0 hB1 hB2 hl331)) E582_ (own_natT ti583 le584) (own_nnT ti583 (q114 hB0 hB1 hB2)) (own_h5 i0_ i1_ i1_ q115) (own_h5 ti583 i1_ i70_ (q134 hB0 hB1 hB2 hl331)) (own_hnT own_kK4_ i1_ q117) g_b529 nx557 g_b1) pd16 hml.symm (hb hby d4_45) e568 rfl rfl rfl rfl (by decide)
   obtain ⟨rfl, N573q, K573q, w587, w588, w589, w590, w591⟩ := hQ573
   have N573 := Fr.app N552 N573q
   have K592 := K570.trans K573q (allS (Or.inr sz_b1) (allS (Or.inr sz_b529) all0))
   have f594 : Safe Z consts_1 T508.vm T552.heap b529 := Safe.keep K552q (sfS (Safe.exa hZ508.alike E555_ (by decide) (by decide)) (sfS f566 sf0)) C539 f566
   have f595 : Safe Z consts_1 T568.vm h568 b529 := CR568.safe (Nat.lt_of_lt_of_le w536.lt K552q.1) f594
   have C593 : CHv Z consts_1 T568.vm T573.heap := CHv.keep K573q (sfS (Safe.exa hZ568.alike E582_ (by decide) (by decide)) (sfS f595 sf0)) CR568.1
   have R596 : CHr Z consts_1 s.vm h0 T568.vm T573.heap := R572.trans (CHr.keep K573q (sfS (Safe.exa hZ568.alike E582_ (by decide) (by decide)) (sfS f595 sf0)) CR568.1)
   have E598_ := E582_.keep K573q
   have ti599 := own_tsub ti579 i0_ (q120 hB0 hB1 hB2)
   have le600 := own_la le584 own_kK4_ (q124 hB0 hB1 hB2)
   have O601 := O586.keep K573q (allS g_b1 (allS g_b529 all0))
   obtain ⟨_, T597, L597, X597, hQ597, st597⟩ := own_cV 14 367 [] 48 #[rv qa1] X573 hx hZ568 ho568 E598_ (w183_ hw) (w184_ hw) (notFace_of_selects (args := #[]) (mvT hZ568 (w186_ hw))) (w186_ hw) (w185_ hw) (w69_ hw) (w187_ hw) (rm75 l Z a0 hw G1 b1 b529 (((((((20 : Int32) + (own_wd qi2)) + (10 : Int32)) + (own_wd qi3)) + (7 : Int32)) + (own_wd qi4)) + (1 : Int32)) c530_ ((((((K1_ ++ (own_dec qi2)) ++ K2_) ++ (own_dec qi3)) ++ K3_) ++ (own_dec qi4)) ++ K4_) T573.heap n0 O601 O2 P5 E598_ w589 w588 w590 w591 (own_eqF ti579 i70_ (q135 hB0 hB1 hB2 hl331)) (own_ltF ti579 i0_ (q119 hB0 hB1 hB2)) (own_nnT ti599 (q3 hB0 hB1 hB2)) (own_leT ti599 (q4 hB0 hB1 hB2)) (own_ltT ti599 i70_ (q136 hB0 hB1 hB2 hl331)) (own_natT i0_ (show (([] : List Int32).length : Int) = 0 from rfl)) (own_h5 i0_ ti599 i70_ (q137 hB0 hB1 hB2 hl331)) (own_h5 i0_ ti599 ti599 (q123 hB0 hB1 hB2)) (own_hnT le600 ti599 (q125 hB0 hB1 hB2))) pd26 hml.symm (hb hby d4_48) rfl rfl rfl rfl rfl (by decide)
   obtain ⟨b602, b603, c604_, rfl, N597q, K597q, w605, w606, w607, w608, w609, w610, w611, w612⟩ := hQ597
   have N597 := Fr.app N573 N597q
   have K613 := K592.trans K597q (fun x q => nomatch q)
   have C614 : CHv Z consts_1 T568.vm T597.heap := CHv.keep K597q sf0 C593
   have R615 : CHr Z consts_1 s.vm h0 T568.vm T597.heap := R596.trans (CHr.keep K597q sf0 C593)
   have sz_b602 : h0.size ≤ b602 := Nat.le_trans K592.1 w605
   have sz_b603 : h0.size ≤ b603 := Nat.le_trans K592.1 w606
   have hk616' : _ ≤ T597.heap.size := (Nat.le_trans (Nat.le_trans hk568 K573q.1) K597q.1)
   refine own_lvW X597 Bd.notSynchronized hS568 hk616' (v := (some (.ref b602))) (fun h => by rw [Bd.returns] at h; cases h) rfl hh ⟨b602, b603, c604_, rfl, N597, K613, sz_b602, sz_b603, w608, w610, w609, (own_nE w612 (own_sub0 _))⟩ (R615.trans (CHv.at X597 hZ568 hEL C614)) (lE rfl) (lE rfl) (fun fs hr => pr364 _ (by
    show Sx p e below T354 m 28 #[rv qa1] [.int qi3, .ref b1] _
    refine st495 _ ?_
    refine st508 _ ?_
    refine st513 _ ?_
    refine zb X513 Bd d4_36 rfl rfl ?_
    refine st541 _ ?_
    refine st552 _ ?_
    refine st568 _ ?_
    refine st573 _ ?_
    refine st597 _ ?_
    exact retOut X597 hx Bd.returns rfl (Or.inr (Or.inr (Or.inr (Or.inr ⟨rfl, rfl, rfl⟩)))) (hb hby d4_51) hr))
theorem pd27 : parseMethodDescriptor "(Ljava/lang/Object;)Z" = some ⟨[(.object "java/lang/Object")], some .boolean⟩ := by decide +kernel
abbrev ab0_ (p1 : Int32) (p2 : Int32) (p3 : Int32) := ((((38 : Int32) + (own_wd p1)) + (own_wd p2)) + (own_wd p3))
abbrev ab1_ (p1 : Int32) (p2 : Int32) (p3 : Int32) := ((((((20 : Int32) + (own_wd p1)) + (10 : Int32)) + (own_wd p2)) + (7 : Int32)) + (own_wd p3))
def Q0 (n0 : Nat) : QT := fun v h L => v = some (.int 1) ∧ Fr n0 L
abbrev l24_ (p1 : Int32) (p2 : Int32) (p3 : Int32) (b4 : Addr) : Array Slot := #[iv p1, iv p2, iv p3, iv (ab0_ p1 p2 p3), rv b4, iv ((((20 : Int32) + (own_wd p1)) + (10 : Int32)) + (own_wd p2)), .unset, .unset]
abbrev l25_ (p1 : Int32) (p2 : Int32) (p3 : Int32) : Array Slot := #[iv p1, iv p2, iv p3, .unset, .unset, .unset, .unset, .unset]
abbrev l26_ (p1 : Int32) (p2 : Int32) (p3 : Int32) (b4 : Addr) : Array Slot := #[iv p1, iv p2, iv p3, iv (ab0_ p1 p2 p3), rv b4, iv ((20 : Int32) + (own_wd p1)), .unset, .unset]
theorem rm0 (l : Launch) (Z : State) (a0 : Array Value) (hw : ∀ d ∈ tables_1, d.before a0 Z = true) (ws : List Jvm.Cond) (G1 : Int32) (Gg0 : Addr) (Gg1 : Addr) (Kg2 : ClassId) (Kg3 : ClassId) (p1 : Int32) (p2 : Int32) (p3 : Int32) (h0 : Heap) (n0 : Nat) (X00 : Old Z n0 h0) (O2 : CO Z G1) (P5 : NZ G1) (hEN : OwnEN Z Gg0 Gg1 Kg2 Kg3) :
    MetFree l x (head1 (Jvm.Cond.code x code maxLocals ret :: ws) room_1) (fun a U => a = #[.int p1, .int p2, .int p3] ∧ Z.Warmed39 U.vm ∧ U.heap = h0 ∧ CHv Z consts_1 U.vm h0) (fun _ _ _ _ _ => True) (fun _ U o U' => ∃ v L, o = .returned v ∧ Q0 n0 v U'.heap L ∧ CHr Z consts_1 U.vm U.heap U'.vm U'.heap ∧ ReturnedEndW U o U' L room_1.cells room_1.slots) := by
 refine MetFree.of_bodySF (plainFor_of_name pn0) hisR ?_
 intro p e s m args below meth c s₁ Bd hml0 hP hK
 obtain ⟨rfl, hZ, hh, hC0⟩ := hP
 have hx := Bd.exec
 have hby := Bd.bytes
 have hml : c.maxLocals = 8 := hml0
 have hown : s.vm.findClass "com/example/foreground_courier/foregroundcourier/CacheStatsToStringPinLaw" = some m.cls := findClass_of_methodNamed Bd.named
 have hnm := (name_of_methodNamed Bd.named Bd.method).1
 have X0 : Stand p l e room_1 (s.setVm s.vm) m #[.int p1, .int p2, .int p3] below meth c s₁ [] 0 0 := Stand.of_body Bd
 have e0 : s₁.heap = h0 := by rw [← hh, Bd.state]; rfl
 have N0 := Fr.nil n0
 have pre0 : ∀ t, Steps p.tables e below (s₁.setTop (mkF m 0 (l25_ p1 p2 p3) [])) t → Steps p.tables e below (s₁.setTop (entryFrame m #[.int p1, .int p2, .int p3] maxLocals)) t := fun t k => castTop (ef0 m p1 p2 p3) k
 obtain ⟨en, hen⟩ : ∃ f, f = (entryFrame m #[.int p1, .int p2, .int p3] maxLocals) := ⟨_, rfl⟩
 rw [← hen] at pre0 ⊢
 have hS0 : s.Since s.vm h0.size := (State.WarmedH.refl s).since _
 have hk0 : h0.size ≤ h0.size := Nat.le_refl _
 have hR0 : CHr Z consts_1 s.vm h0 s.vm h0 := CHr.refl hC0
 have hEL := own_EW hw
 have hwS := own_wS hw
 have hB0 := own_wB p1
 have hB1 := own_wB p2
 have hB2 := own_wB p3
 obtain ⟨_, T1, L1, X1, hQ1, st1⟩ := own_cS 0 0 [.int 38] 3 (l25_ p1 p2 p3) X0 hx hZ hown (w0_ hw) (w1_ hw) (w2_ hw) (w3_ hw) (rm2 l Z a0 hw  p1 h0 n0 X00 ) pd1 hml.symm (hb hby at_3) e0 rfl rfl rfl rfl (by decide)
 obtain ⟨rfl, N1q, e1q⟩ := hQ1
 have N1 := Fr.app N0 N1q
 obtain ⟨_, T2, L2, X2, hQ2, st2⟩ := own_cS 0 0 [(.int ((38 : Int32) + (own_wd p1)))] 8 (l25_ p1 p2 p3) X1 hx hZ hown (w0_ hw) (w1_ hw) (w2_ hw) (w3_ hw) (rm2 l Z a0 hw  p2 h0 n0 X00 ) pd1 hml.symm (hb hby at_8) e1q rfl rfl rfl rfl (by decide)
 obtain ⟨rfl, N2q, e2q⟩ := hQ2
 have N2 := Fr.app N1 N2q
 obtain ⟨_, T3, L3, X3, hQ3, st3⟩ := own_cS 0 0 [(.int (((38 : Int32) + (own_wd p1)) + (own_wd p2)))] 13 (l25_ p1 p2 p3) X2 hx hZ hown (w0_ hw) (w1_ hw) (w2_ hw) (w3_ hw) (rm2 l Z a0 hw  p3 h0 n0 X00 ) pd1 hml.symm (hb hby at_13) e2q rfl rfl rfl rfl (by decide)
 obtain ⟨rfl, N3q, e3q⟩ := hQ3
 have N3 := Fr.app N2 N3q
 have ti5 := own_tadd i38_ (own_wR p1) (q0 hB0)
 have ti6 := own_tadd ti5 (own_wR p2) (q1 hB0 hB1)
 have ti7 := own_tadd ti6 (own_wR p3) (q2 hB0 hB1 hB2)
 obtain ⟨T4, h4, c4, X4, e4, E4, A4, st4⟩ := newP (aty := .char) X3 hx hZ (w16_ hw) e3q (g := (mkF m 19 #[iv p1, iv p2, iv p3, iv (ab0_ p1 p2 p3), .unset, .unset, .unset, .unset] [(.int (ab0_ p1 p2 p3))])) rfl (hb hby at_19) rfl (own_nnT ti7 (q3 hB0 hB1 hB2)) (cap := 71) (own_leT ti7 (q4 hB0 hB1 hB2)) (lE rfl) (lE rfl) (lE rfl)
 obtain ⟨b4, g4⟩ : ∃ z, z = h0.size := ⟨_, rfl⟩
 rw [← g4] at A4 st4
 replace X4 : Stand p l e room_1 (s.setVm s.vm) m #[.int p1, .int p2, .int p3] below meth c T4 _ 1 71 := X4
 have K8 := (Keep.refl h0 []).ext E4
 have C9 : CHv Z consts_1 s.vm h4 := CHv.ext E4 hC0
 have R10 : CHr Z consts_1 s.vm h0 s.vm h4 := hR0.trans (CHr.ext E4 hC0)
 have A11_ : PA Z h4 b4 c4 .char (ab0_ p1 p2 p3) ([] : List Int32) := Arv.new A4 (own_nnT ti7 (q3 hB0 hB1 hB2))
 have g_b4 : n0 ≤ b4 := Nat.le_trans (Nat.le_trans (Nat.le_of_eq X00.1.symm) X00.2.1) (Nat.le_of_eq g4.symm)
 have sz_b4 : h0.size ≤ b4 := (Nat.le_of_eq g4.symm)
 obtain ⟨T12, h12, L12, X12, e12, N12_, Kq12, K13, C14, R15, A16_, le17, st12⟩ := own_stK X4 hx hZ e4 N3 K8 C9 R10 A11_ g_b4 sz_b4 i0_ (show (([] : List Int32).length : Int) = 0 from rfl) ti7 (q5 hB0 hB1 hB2) (z := (67 : Int32)) (by decide) (P' := ([67] : List Int32)) rfl (hb hby at_28)
 obtain ⟨T18, h18, L18, X18, e18, N18_, Kq18, K19, C20, R21, A22_, le23, st18⟩ := own_stK X12 hx hZ e12 N12_ K13 C14 R15 A16_ g_b4 sz_b4 i1_ le17 ti7 (q6 hB0 hB1 hB2) (z := (97 : Int32)) (by decide) (P' := ([67, 97] : List Int32)) rfl (hb hby at_34)
 obtain ⟨T24, h24, L24, X24, e24, N24_, Kq24, K25, C26, R27, A28_, le29, st24⟩ := own_stK X18 hx hZ e18 N18_ K19 C20 R21 A22_ g_b4 sz_b4 i2_ le23 ti7 (q7 hB0 hB1 hB2) (z := (99 : Int32)) (by decide) (P' := ([67, 97, 99] : List Int32)) rfl (hb hby at_40)
 obtain ⟨T30, h30, L30, X30, e30, N30_, Kq30, K31, C32, R33, A34_, le35, st30⟩ := own_stK X24 hx hZ e24 N24_ K25 C26 R27 A28_ g_b4 sz_b4 i3_ le29 ti7 (q8 hB0 hB1 hB2) (z := (104 : Int32)) (by decide) (P' := ([67, 97, 99, 104] : List Int32)) rfl (hb hby at_46)
 obtain ⟨T36, h36, L36, X36, e36, N36_, Kq36, K37, C38, R39, A40_, le41, st36⟩ := own_stK X30 hx hZ e30 N30_ K31 C32 R33 A34_ g_b4 sz_b4 i4_ le35 ti7 (q9 hB0 hB1 hB2) (z := (101 : Int32)) (by decide) (P' := ([67, 97, 99, 104, 101] : List Int32)) rfl (hb hby at_52)
 obtain ⟨T42, h42, L42, X42, e42, N42_, Kq42, K43, C44, R45, A46_, le47, st42⟩ := own_stK X36 hx hZ e36 N36_ K37 C38 R39 A40_ g_b4 sz_b4 i5_ le41 ti7 (q10 hB0 hB1 hB2) (z := (83 : Int32)) (by decide) (P' := ([67, 97, 99, 104, 101, 83] : List Int32)) rfl (hb hby at_58)
 obtain ⟨T48, h48, L48, X48, e48, N48_, Kq48, K49, C50, R51, A52_, le53, st48⟩ := own_stK X42 hx hZ e42 N42_ K43 C44 R45 A46_ g_b4 sz_b4 i6_ le47 ti7 (q11 hB0 hB1 hB2) (z := (116 : Int32)) (by decide) (P' := ([67, 97, 99, 104, 101, 83, 116] : List Int32)) rfl (hb hby at_65)
 obtain ⟨T54, h54, L54, X54, e54, N54_, Kq54, K55, C56, R57, A58_, le59, st54⟩ := own_stK X48 hx hZ e48 N48_ K49 C50 R51 A52_ g_b4 sz_b4 i7_ le53 ti7 (q12 hB0 hB1 hB2) (z := (97 : Int32)) (by decide) (P' := ([67, 97, 99, 104, 101, 83, 116, 97] : List Int32)) rfl (hb hby at_72)
 obtain ⟨T60, h60, L60, X60, e60, N60_, Kq60, K61, C62, R63, A64_, le65, st60⟩ := own_stK X54 hx hZ e54 N54_ K55 C56 R57 A58_ g_b4 sz_b4 i8_ le59 ti7 (q13 hB0 hB1 hB2) (z := (116 : Int32)) (by decide) (P' := ([67, 97, 99, 104, 101, 83, 116, 97, 116] : List Int32)) rfl (hb hby at_79)
 obtain ⟨T66, h66, L66, X66, e66, N66_, Kq66, K67, C68, R69, A70_, le71, st66⟩ := own_stK X60 hx hZ e60 N60_ K61 C62 R63 A64_ g_b4 sz_b4 i9_ le65 ti7 (q14 hB0 hB1 hB2) (z := (115 : Int32)) (by decide) (P' := ([67, 97, 99, 104, 101, 83, 116, 97, 116, 115] : List Int32)) rfl (hb hby at_86)
 obtain ⟨T72, h72, L72, X72, e72, N72_, Kq72, K73, C74, R75, A76_, le77, st72⟩ := own_stK X66 hx hZ e66 N66_ K67 C68 R69 A70_ g_b4 sz_b4 i10_ le71 ti7 (q15 hB0 hB1 hB2) (z := (91 : Int32)) (by decide) (P' := ([67, 97, 99, 104, 101, 83, 116, 97, 116, 115, 91] : List Int32)) rfl (hb hby at_93)
 obtain ⟨T78, h78, L78, X78, e78, N78_, Kq78, K79, C80, R81, A82_, le83, st78⟩ := own_stK X72 hx hZ e72 N72_ K73 C74 R75 A76_ g_b4 sz_b4 i11_ le77 ti7 (q16 hB0 hB1 hB2) (z := (114 : Int32)) (by decide) (P' := ([67, 97, 99, 104, 101, 83, 116, 97, 116, 115, 91, 114] : List Int32)) rfl (hb hby at_100)
 obtain ⟨T84, h84, L84, X84, e84, N84_, Kq84, K85, C86, R87, A88_, le89, st84⟩ := own_stK X78 hx hZ e78 N78_ K79 C80 R81 A82_ g_b4 sz_b4 i12_ le83 ti7 (q17 hB0 hB1 hB2) (z := (101 : Int32)) (by decide) (P' := ([67, 97, 99, 104, 101, 83, 116, 97, 116, 115, 91, 114, 101] : List Int32)) rfl (hb hby at_107)
 obtain ⟨T90, h90, L90, X90, e90, N90_, Kq90, K91, C92, R93, A94_, le95, st90⟩ := own_stK X84 hx hZ e84 N84_ K85 C86 R87 A88_ g_b4 sz_b4 i13_ le89 ti7 (q18 hB0 hB1 hB2) (z := (113 : Int32)) (by decide) (P' := ([67, 97, 99, 104, 101, 83, 116, 97, 116, 115, 91, 114, 101, 113] : List Int32)) rfl (hb hby at_114)
 obtain ⟨T96, h96, L96, X96, e96, N96_, Kq96, K97, C98, R99, A100_, le101, st96⟩ := own_stK X90 hx hZ e90 N90_ K91 C92 R93 A94_ g_b4 sz_b4 i14_ le95 ti7 (q19 hB0 hB1 hB2) (z := (117 : Int32)) (by decide) (P' := ([67, 97, 99, 104, 101, 83, 116, 97, 116, 115, 91, 114, 101, 113, 117] : List Int32)) rfl (hb hby at_121)
 obtain ⟨T102, h102, L102, X102, e102, N102_, Kq102, K103, C104, R105, A106_, le107, st102⟩ := own_stK X96 hx hZ e96 N96_ K97 C98 R99 A100_ g_b4 sz_b4 i15_ le101 ti7 (q20 hB0 hB1 hB2) (z := (101 : Int32)) (by decide) (P' := ([67, 97, 99, 104, 101, 83, 116, 97, 116, 115, 91, 114, 101, 113, 117, 101] : List Int32)) rfl (hb hby at_128)
 obtain ⟨T108, h108, L108, X108, e108, N108_, Kq108, K109, C110, R111, A112_, le113, st108⟩ := own_stK X102 hx hZ e102 N102_ K103 C104 R105 A106_ g_b4 sz_b4 i16_ le107 ti7 (q21 hB0 hB1 hB2) (z := (115 : Int32)) (by decide) (P' := ([67, 97, 99, 104, 101, 83, 116, 97, 116, 115, 91, 114, 101, 113, 117, 101, 115] : List Int32)) rfl (hb hby at_135)
 obtain ⟨T114, h114, L114, X114, e114, N114_, Kq114, K115, C116, R117, A118_, le119, st114⟩ := own_stK X108 hx hZ e108 N108_ K109 C110 R111 A112_ g_b4 sz_b4 i17_ le113 ti7 (q22 hB0 hB1 hB2) (z := (116 : Int32)) (by decide) (P' := ([67, 97, 99, 104, 101, 83, 116, 97, 116, 115, 91, 114, 101, 113, 117, 101, 115, 116] : List Int32)) rfl (hb hby at_142)
 obtain ⟨T120, h120, L120, X120, e120, N120_, Kq120, K121, C122, R123, A124_, le125, st120⟩ := own_stK X114 hx hZ e114 N114_ K115 C116 R117 A118_ g_b4 sz_b4 i18_ le119 ti7 (q23 hB0 hB1 hB2) (z := (115 : Int32)) (by decide) (P' := ([67, 97, 99, 104, 101, 83, 116, 97, 116, 115, 91, 114, 101, 113, 117, 101, 115, 116, 115] : List Int32)) rfl (hb hby at_149)
 obtain ⟨T126, h126, L126, X126, e126, N126_, Kq126, K127, C128, R129, A130_, le131, st126⟩ := own_stK X120 hx hZ e120 N120_ K121 C122 R123 A124_ g_b4 sz_b4 i19_ le125 ti7 (q24 hB0 hB1 hB2) (z := (61 : Int32)) (by decide) (P' := K1_) rfl (hb hby at_156)
 have O133 := X00.ext E4
 have O134 := O133.keep Kq12 (allS g_b4 all0)
 have O135 := O134.keep Kq18 (allS g_b4 all0)
 have O136 := O135.keep Kq24 (allS g_b4 all0)
 have O137 := O136.keep Kq30 (allS g_b4 all0)
 have O138 := O137.keep Kq36 (allS g_b4 all0)
 have O139 := O138.keep Kq42 (allS g_b4 all0)
 have O140 := O139.keep Kq48 (allS g_b4 all0)
 have O141 := O140.keep Kq54 (allS g_b4 all0)
 have O142 := O141.keep Kq60 (allS g_b4 all0)
 have O143 := O142.keep Kq66 (allS g_b4 all0)
 have O144 := O143.keep Kq72 (allS g_b4 all0)
 have O145 := O144.keep Kq78 (allS g_b4 all0)
 have O146 := O145.keep Kq84 (allS g_b4 all0)
 have O147 := O146.keep Kq90 (allS g_b4 all0)
 have O148 := O147.keep Kq96 (allS g_b4 all0)
 have O149 := O148.keep Kq102 (allS g_b4 all0)
 have O150 := O149.keep Kq108 (allS g_b4 all0)
 have O151 := O150.keep Kq114 (allS g_b4 all0)
 have O152 := O151.keep Kq120 (allS g_b4 all0)
 have O153 := O152.keep Kq126 (allS g_b4 all0)
 obtain ⟨_, T132, L132, X132, hQ132, st132⟩ := own_cS 1 71 [] 162 #[iv p1, iv p2, iv p3, iv (ab0_ p1 p2 p3), rv b4, .unset, .unset, .unset] X126 hx hZ hown (w17_ hw) (w18_ hw) (w2_ hw) (w19_ hw) (rm3 l Z a0 hw  b4 (20 : Int32) p1 c4 (ab0_ p1 p2 p3) K1_ h126 n0 O153 A130_ (own_lI i20_ le131) (own_decL le131 (own_wL p1) ti7 (q25 hB0 hB1 hB2)) (own_l9 le131 q26) g_b4) pd2 hml.symm (hb hby at_162) e126 rfl rfl rfl rfl (by decide)
 obtain ⟨rfl, N132q, K132q, w154⟩ := hQ132
 have N132 := Fr.app N126_ N132q
 have K155 := K127.trans K132q (allS (Or.inr sz_b4) all0)
 have C156 : CHv Z consts_1 s.vm T132.heap := CHv.keep K132q (sfS (Safe.arv hZ.alike A130_ (by simp)) sf0) C128
 have R157 : CHr Z consts_1 s.vm h0 s.vm T132.heap := R129.trans (CHr.keep K132q (sfS (Safe.arv hZ.alike A130_ (by simp)) sf0) C128)
 have ti158 := own_tadd i20_ (own_wR p1) (q27 hB0)
 have le159 := own_la le131 (own_wL p1) (q28 hB0)
 obtain ⟨T160, h160, L160, X160, e160, N160_, Kq160, K161, C162, R163, A164_, le165, st160⟩ := own_stK X132 hx hZ rfl N132 K155 C156 R157 w154 g_b4 sz_b4 ti158 le159 ti7 (q29 hB0 hB1 hB2) (z := (44 : Int32)) (by decide) (P' := ((K1_ ++ (own_dec p1)) ++ ([44] : List Int32))) rfl (hb hby at_173)
 have ti166 := own_tadd ti158 i1_ (q30 hB0)
 obtain ⟨T167, h167, L167, X167, e167, N167_, Kq167, K168, C169, R170, A171_, le172, st167⟩ := own_stK X160 hx hZ e160 N160_ K161 C162 R163 A164_ g_b4 sz_b4 ti166 le165 ti7 (q31 hB0 hB1 hB2) (z := (32 : Int32)) (by decide) (P' := ((K1_ ++ (own_dec p1)) ++ ([44, 32] : List Int32))) (List.append_assoc _ _ _) (hb hby at_182)
 have ti173 := own_tadd ti158 i2_ (q32 hB0)
 obtain ⟨T174, h174, L174, X174, e174, N174_, Kq174, K175, C176, R177, A178_, le179, st174⟩ := own_stK X167 hx hZ e167 N167_ K168 C169 R170 A171_ g_b4 sz_b4 ti173 le172 ti7 (q33 hB0 hB1 hB2) (z := (110 : Int32)) (by decide) (P' := ((K1_ ++ (own_dec p1)) ++ ([44, 32, 110] : List Int32))) (List.append_assoc _ _ _) (hb hby at_191)
 have ti180 := own_tadd ti158 i3_ (q34 hB0)
 obtain ⟨T181, h181, L181, X181, e181, N181_, Kq181, K182, C183, R184, A185_, le186, st181⟩ := own_stK X174 hx hZ e174 N174_ K175 C176 R177 A178_ g_b4 sz_b4 ti180 le179 ti7 (q35 hB0 hB1 hB2) (z := (101 : Int32)) (by decide) (P' := ((K1_ ++ (own_dec p1)) ++ ([44, 32, 110, 101] : List Int32))) (List.append_assoc _ _ _) (hb hby at_200)
 have ti187 := own_tadd ti158 i4_ (q36 hB0)
 obtain ⟨T188, h188, L188, X188, e188, N188_, Kq188, K189, C190, R191, A192_, le193, st188⟩ := own_stK X181 hx hZ e181 N181_ K182 C183 R184 A185_ g_b4 sz_b4 ti187 le186 ti7 (q37 hB0 hB1 hB2) (z := (116 : Int32)) (by decide) (P' := ((K1_ ++ (own_dec p1)) ++ ([44, 32, 110, 101, 116] : List Int32))) (List.append_assoc _ _ _) (hb hby at_209)
 have ti194 := own_tadd ti158 i5_ (q38 hB0)
 obtain ⟨T195, h195, L195, X195, e195, N195_, Kq195, K196, C197, R198, A199_, le200, st195⟩ := own_stK X188 hx hZ e188 N188_ K189 C190 R191 A192_ g_b4 sz_b4 ti194 le193 ti7 (q39 hB0 hB1 hB2) (z := (119 : Int32)) (by decide) (P' := ((K1_ ++ (own_dec p1)) ++ ([44, 32, 110, 101, 116, 119] : List Int32))) (List.append_assoc _ _ _) (hb hby at_218)
 have ti201 := own_tadd ti158 i6_ (q40 hB0)
 obtain ⟨T202, h202, L202, X202, e202, N202_, Kq202, K203, C204, R205, A206_, le207, st202⟩ := own_stK X195 hx hZ e195 N195_ K196 C197 R198 A199_ g_b4 sz_b4 ti201 le200 ti7 (q41 hB0 hB1 hB2) (z := (111 : Int32)) (by decide) (P' := ((K1_ ++ (own_dec p1)) ++ ([44, 32, 110, 101, 116, 119, 111] : List Int32))) (List.append_assoc _ _ _) (hb hby at_228)
 have ti208 := own_tadd ti158 i7_ (q42 hB0)
 obtain ⟨T209, h209, L209, X209, e209, N209_, Kq209, K210, C211, R212, A213_, le214, st209⟩ := own_stK X202 hx hZ e202 N202_ K203 C204 R205 A206_ g_b4 sz_b4 ti208 le207 ti7 (q43 hB0 hB1 hB2) (z := (114 : Int32)) (by decide) (P' := ((K1_ ++ (own_dec p1)) ++ ([44, 32, 110, 101, 116, 119, 111, 114] : List Int32))) (List.append_assoc _ _ _) (hb hby at_238)
 have ti215 := own_tadd ti158 i8_ (q44 hB0)
 obtain ⟨T216, h216, L216, X216, e216, N216_, Kq216, K217, C218, R219, A220_, le221, st216⟩ := own_stK X209 hx hZ e209 N209_ K210 C211 R212 A213_ g_b4 sz_b4 ti215 le214 ti7 (q45 hB0 hB1 hB2) (z := (107 : Int32)) (by decide) (P' := ((K1_ ++ (own_dec p1)) ++ ([44, 32, 110, 101, 116, 119, 111, 114, 107] : List Int32))) (List.append_assoc _ _ _) (hb hby at_248)
 have ti222 := own_tadd ti158 i9_ (q46 hB0)
 obtain ⟨T223, h223, L223, X223, e223, N223_, Kq223, K224, C225, R226, A227_, le228, st223⟩ := own_stK X216 hx hZ e216 N216_ K217 C218 R219 A220_ g_b4 sz_b4 ti222 le221 ti7 (q47 hB0 hB1 hB2) (z := (61 : Int32)) (by decide) (P' := ((K1_ ++ (own_dec p1)) ++ K2_)) (List.append_assoc _ _ _) (hb hby at_258)
 have ti230 := own_tadd ti158 i10_ (q48 hB0)
 have O231 := O153.keep K132q (allS g_b4 all0)
 have O232 := O231.keep Kq160 (allS g_b4 all0)
 have O233 := O232.keep Kq167 (allS g_b4 all0)
 have O234 := O233.keep Kq174 (allS g_b4 all0)
 have O235 := O234.keep Kq181 (allS g_b4 all0)
 have O236 := O235.keep Kq188 (allS g_b4 all0)
 have O237 := O236.keep Kq195 (allS g_b4 all0)
 have O238 := O237.keep Kq202 (allS g_b4 all0)
 have O239 := O238.keep Kq209 (allS g_b4 all0)
 have O240 := O239.keep Kq216 (allS g_b4 all0)
 have O241 := O240.keep Kq223 (allS g_b4 all0)
 obtain ⟨_, T229, L229, X229, hQ229, st229⟩ := own_cS 1 71 [] 267 (l26_ p1 p2 p3 b4) X223 hx hZ hown (w17_ hw) (w18_ hw) (w2_ hw) (w19_ hw) (rm3 l Z a0 hw  b4 (((20 : Int32) + (own_wd p1)) + (10 : Int32)) p2 c4 (ab0_ p1 p2 p3) ((K1_ ++ (own_dec p1)) ++ K2_) h223 n0 O241 A227_ (own_lI ti230 le228) (own_decL le228 (own_wL p2) ti7 (q49 hB0 hB1 hB2)) (own_l9 le228 (q50 hB0)) g_b4) pd2 hml.symm (hb hby at_267) e223 rfl rfl rfl rfl (by decide)
 obtain ⟨rfl, N229q, K229q, w242⟩ := hQ229
 have N229 := Fr.app N223_ N229q
 have K243 := K224.trans K229q (allS (Or.inr sz_b4) all0)
 have C244 : CHv Z consts_1 s.vm T229.heap := CHv.keep K229q (sfS (Safe.arv hZ.alike A227_ (by simp)) sf0) C225
 have R245 : CHr Z consts_1 s.vm h0 s.vm T229.heap := R226.trans (CHr.keep K229q (sfS (Safe.arv hZ.alike A227_ (by simp)) sf0) C225)
 have ti246 := own_tadd ti230 (own_wR p2) (q51 hB0 hB1)
 have le247 := own_la le228 (own_wL p2) (q52 hB0 hB1)
 obtain ⟨T248, h248, L248, X248, e248, N248_, Kq248, K249, C250, R251, A252_, le253, st248⟩ := own_stK X229 hx hZ rfl N229 K243 C244 R245 w242 g_b4 sz_b4 ti246 le247 ti7 (q53 hB0 hB1 hB2) (z := (44 : Int32)) (by decide) (P' := ((((K1_ ++ (own_dec p1)) ++ K2_) ++ (own_dec p2)) ++ ([44] : List Int32))) rfl (hb hby at_278)
 have ti254 := own_tadd ti246 i1_ (q54 hB0 hB1)
 obtain ⟨T255, h255, L255, X255, e255, N255_, Kq255, K256, C257, R258, A259_, le260, st255⟩ := own_stK X248 hx hZ e248 N248_ K249 C250 R251 A252_ g_b4 sz_b4 ti254 le253 ti7 (q55 hB0 hB1 hB2) (z := (32 : Int32)) (by decide) (P' := ((((K1_ ++ (own_dec p1)) ++ K2_) ++ (own_dec p2)) ++ ([44, 32] : List Int32))) (List.append_assoc _ _ _) (hb hby at_287)
 have ti261 := own_tadd ti246 i2_ (q56 hB0 hB1)
 obtain ⟨T262, h262, L262, X262, e262, N262_, Kq262, K263, C264, R265, A266_, le267, st262⟩ := own_stK X255 hx hZ e255 N255_ K256 C257 R258 A259_ g_b4 sz_b4 ti261 le260 ti7 (q57 hB0 hB1 hB2) (z := (104 : Int32)) (by decide) (P' := ((((K1_ ++ (own_dec p1)) ++ K2_) ++ (own_dec p2)) ++ ([44, 32, 104] : List Int32))) (List.append_assoc _ _ _) (hb hby at_296)
 have ti268 := own_tadd ti246 i3_ (q58 hB0 hB1)
 obtain ⟨T269, h269, L269, X269, e269, N269_, Kq269, K270, C271, R272, A273_, le274, st269⟩ := own_stK X262 hx hZ e262 N262_ K263 C264 R265 A266_ g_b4 sz_b4 ti268 le267 ti7 (q59 hB0 hB1 hB2) (z := (105 : Int32)) (by decide) (P' := ((((K1_ ++ (own_dec p1)) ++ K2_) ++ (own_dec p2)) ++ ([44, 32, 104, 105] : List Int32))) (List.append_assoc _ _ _) (hb hby at_305)
 have ti275 := own_tadd ti246 i4_ (q60 hB0 hB1)
 obtain ⟨T276, h276, L276, X276, e276, N276_, Kq276, K277, C278, R279, A280_, le281, st276⟩ := own_stK X269 hx hZ e269 N269_ K270 C271 R272 A273_ g_b4 sz_b4 ti275 le274 ti7 (q61 hB0 hB1 hB2) (z := (116 : Int32)) (by decide) (P' := ((((K1_ ++ (own_dec p1)) ++ K2_) ++ (own_dec p2)) ++ ([44, 32, 104, 105, 116] : List Int32))) (List.append_assoc _ _ _) (hb hby at_314)
 have ti282 := own_tadd ti246 i5_ (q62 hB0 hB1)
 obtain ⟨T283, h283, L283, X283, e283, N283_, Kq283, K284, C285, R286, A287_, le288, st283⟩ := own_stK X276 hx hZ e276 N276_ K277 C278 R279 A280_ g_b4 sz_b4 ti282 le281 ti7 (q63 hB0 hB1 hB2) (z := (115 : Int32)) (by decide) (P' := ((((K1_ ++ (own_dec p1)) ++ K2_) ++ (own_dec p2)) ++ ([44, 32, 104, 105, 116, 115] : List Int32))) (List.append_assoc _ _ _) (hb hby at_323)
 have ti289 := own_tadd ti246 i6_ (q64 hB0 hB1)
 obtain ⟨T290, h290, L290, X290, e290, N290_, Kq290, K291, C292, R293, A294_, le295, st290⟩ := own_stK X283 hx hZ e283 N283_ K284 C285 R286 A287_ g_b4 sz_b4 ti289 le288 ti7 (q65 hB0 hB1 hB2) (z := (61 : Int32)) (by decide) (P' := ((((K1_ ++ (own_dec p1)) ++ K2_) ++ (own_dec p2)) ++ K3_)) (List.append_assoc _ _ _) (hb hby at_333)
 have ti297 := own_tadd ti246 i7_ (q66 hB0 hB1)
 have O298 := O241.keep K229q (allS g_b4 all0)
 have O299 := O298.keep Kq248 (allS g_b4 all0)
 have O300 := O299.keep Kq255 (allS g_b4 all0)
 have O301 := O300.keep Kq262 (allS g_b4 all0)
 have O302 := O301.keep Kq269 (allS g_b4 all0)
 have O303 := O302.keep Kq276 (allS g_b4 all0)
 have O304 := O303.keep Kq283 (allS g_b4 all0)
 have O305 := O304.keep Kq290 (allS g_b4 all0)
 obtain ⟨_, T296, L296, X296, hQ296, st296⟩ := own_cS 1 71 [] 342 (l24_ p1 p2 p3 b4) X290 hx hZ hown (w17_ hw) (w18_ hw) (w2_ hw) (w19_ hw) (rm3 l Z a0 hw  b4 (((((20 : Int32) + (own_wd p1)) + (10 : Int32)) + (own_wd p2)) + (7 : Int32)) p3 c4 (ab0_ p1 p2 p3) ((((K1_ ++ (own_dec p1)) ++ K2_) ++ (own_dec p2)) ++ K3_) h290 n0 O305 A294_ (own_lI ti297 le295) (own_decL le295 (own_wL p3) ti7 (q67 hB0 hB1 hB2)) (own_l9 le295 (q68 hB0 hB1)) g_b4) pd2 hml.symm (hb hby at_342) e290 rfl rfl rfl rfl (by decide)
 obtain ⟨rfl, N296q, K296q, w306⟩ := hQ296
 have N296 := Fr.app N290_ N296q
 have K307 := K291.trans K296q (allS (Or.inr sz_b4) all0)
 have C308 : CHv Z consts_1 s.vm T296.heap := CHv.keep K296q (sfS (Safe.arv hZ.alike A294_ (by simp)) sf0) C292
 have R309 : CHr Z consts_1 s.vm h0 s.vm T296.heap := R293.trans (CHr.keep K296q (sfS (Safe.arv hZ.alike A294_ (by simp)) sf0) C292)
 have ti310 := own_tadd ti297 (own_wR p3) (q69 hB0 hB1 hB2)
 have le311 := own_la le295 (own_wL p3) (q70 hB0 hB1 hB2)
 obtain ⟨T312, h312, L312, X312, e312, N312_, Kq312, K313, C314, R315, A316_, le317, st312⟩ := own_stK X296 hx hZ rfl N296 K307 C308 R309 w306 g_b4 sz_b4 ti310 le311 ti7 (q71 hB0 hB1 hB2) (z := (93 : Int32)) (by decide) (P' := ((((((K1_ ++ (own_dec p1)) ++ K2_) ++ (own_dec p2)) ++ K3_) ++ (own_dec p3)) ++ K4_)) rfl (hb hby at_353)
 obtain ⟨T318, h318, X318, e318, E318, A318, D318, -, st318⟩ := newO X312 hx hZ hown (w20_ hw) (w21_ hw) (w22_ hw) e312 (g := (mkF m 354 #[iv p1, iv p2, iv p3, iv (ab0_ p1 p2 p3), rv b4, iv (ab1_ p1 p2 p3), .unset, .unset] [])) rfl (hb hby at_354) (lE rfl) (lE rfl)
 obtain ⟨b318, g318⟩ : ∃ z, z = h312.size := ⟨_, rfl⟩
 rw [← g318] at A318 D318 st318
 replace X318 : Stand p l e room_1 (s.setVm s.vm) m #[.int p1, .int p2, .int p3] below meth c T318 _ 2 75 := X318
 have K319 := K313.ext E318
 have C320 : CHv Z consts_1 s.vm h318 := CHv.ext E318 C314
 have R321 : CHr Z consts_1 s.vm h0 s.vm h318 := R315.trans (CHr.ext E318 C314)
 have F322_ : SC Z h318 b318 := D318 (Or.inr (w46_ hw)) (ty := .byte) (by decide)
 have F323_ : Fld Z h318 b318 ST_ "value" "[B" .null := D318 (Or.inr (w48_ hw)) (ty := (.array .byte)) (by decide)
 have hp325 : ∀ c ∈ ((((((K1_ ++ (own_dec p1)) ++ K2_) ++ (own_dec p2)) ++ K3_) ++ (own_dec p3)) ++ K4_), ¬ c < 0 ∧ ¬ (255 : Int32) < c := (own_lapp (own_lapp (own_lapp (own_lapp (own_lapp (own_lapp (by decide) (own_dec255 p1)) (by decide)) (own_dec255 p2)) (by decide)) (own_dec255 p3)) (by decide))
 have O326 := O305.keep K296q (allS g_b4 all0)
 have O327 := O326.keep Kq312 (allS g_b4 all0)
 have g_b318 : n0 ≤ b318 := Nat.le_trans (Nat.le_trans (Nat.le_of_eq O327.1.symm) O327.2.1) (Nat.le_of_eq g318.symm)
 have O328 := O327.ext E318
 have A329_ := A316_.ext E318
 obtain ⟨_, T324, L324, X324, hQ324, st324⟩ := own_cb 2 75 1 ((((((K1_ ++ (own_dec p1)) ++ K2_) ++ (own_dec p2)) ++ K3_) ++ (own_dec p3)) ++ K4_).length 3 (75 + ((((((K1_ ++ (own_dec p1)) ++ K2_) ++ (own_dec p2)) ++ K3_) ++ (own_dec p3)) ++ K4_).length) (X318.specialBack hx (y := Y34_) rfl hown (mvT hZ (w23_ hw)) (mvT hZ (w24_ hw)) (mvT hZ (w25_ hw)) (by decide) (StrChars.Road.backV (s := s.setVm s.vm) (W := 1) hZ (own_ws hw) (kI := 4) (w21_ hw) (cs := ((((((K1_ ++ (own_dec p1)) ++ K2_) ++ (own_dec p2)) ++ K3_) ++ (own_dec p3)) ++ K4_)) (bs := ((((((K1_ ++ (own_dec p1)) ++ K2_) ++ (own_dec p2)) ++ K3_) ++ (own_dec p3)) ++ K4_).map (fun c => c.toInt8.toInt32)) (n := ((((((K1_ ++ (own_dec p1)) ++ K2_) ++ (own_dec p2)) ++ K3_) ++ (own_dec p3)) ++ K4_).length) g_b318 (Nat.le_trans (Nat.le_of_eq O328.1.symm) O328.2.1) A318 F323_ F322_ A329_ (O2.ext O328.2) P5 rfl (own_ofT ti7 le317 (q72 hB0 hB1 hB2)) (own_l0 le317 (q73 hB0 hB1 hB2)) (own_l9 le317 (q74 hB0 hB1 hB2)) hp325 rfl (lE rfl) (lE rfl)) (g := (mkF m 360 #[iv p1, iv p2, iv p3, iv (ab0_ p1 p2 p3), rv b4, iv (ab1_ p1 p2 p3), .unset, .unset] [.ref b4, .ref b318, .ref b318])) rfl hml.symm (Steps.refl _) (a := b318) (argsL := [.ref b4]) (rest := [.ref b318]) (lenOf pd3 rfl) rfl (own_hw rfl) (hb hby at_360) (fun _ _ => ⟨rfl, e318, (lE rfl : 2 + 1 ≤ _), (own_slb (own_l9 le317 (q4 hB0 hB1 hB2)) (lE rfl))⟩)) rfl rfl
 replace X324 := X324.mono (cells' := 3) (slots' := 146) (Nat.le_refl _) (own_slb (own_l9 le317 (q4 hB0 hB1 hB2)) (Nat.le_refl _))
 obtain ⟨rfl, N324q, K324q, E324q, C324q, b330, c330_, u330, g330, ne330, V330_, A330_⟩ := hQ324
 have N324 := Fr.app N312_ N324q
 have sz_b318 : h0.size ≤ b318 := Nat.le_trans K313.1 (Nat.le_of_eq g318.symm)
 have K331 := K319.trans K324q (allS (Or.inr sz_b318) all0)
 have f333 : Safe Z consts_1 s.vm h318 b318 := Safe.ext E318 C314 (Safe.new (Nat.le_of_eq g318.symm))
 have C332 : CHv Z consts_1 s.vm T324.heap := CHv.keep K324q (sfS f333 sf0) C320
 have R334 : CHr Z consts_1 s.vm h0 s.vm T324.heap := R321.trans (CHr.keep K324q (sfS f333 sf0) C320)
 have hcd330 : StrChars.Road.CodA ((((((K1_ ++ (own_dec p1)) ++ K2_) ++ (own_dec p2)) ++ K3_) ++ (own_dec p3)) ++ K4_) 0 (ab0_ p1 p2 p3) ((((((((K1_ ++ (own_dec p1)) ++ K2_) ++ (own_dec p2)) ++ K3_) ++ (own_dec p3)) ++ K4_).map (fun c => c.toInt8.toInt32)).map Value.int) := own_codN hp325 (own_ofT ti7 le317 (q72 hB0 hB1 hB2))
 have hbd330 : ∀ x ∈ ((((((K1_ ++ (own_dec p1)) ++ K2_) ++ (own_dec p2)) ++ K3_) ++ (own_dec p3)) ++ K4_), ¬ x < 0 ∧ ¬ (65535 : Int32) < x := own_up _ hp325
 obtain ⟨T335, h335, X335, e335, E335, A335, D335, -, st335⟩ := newO X324 hx hZ hown (w49_ hw) (w50_ hw) (w51_ hw) rfl (g := (mkF m 365 #[iv p1, iv p2, iv p3, iv (ab0_ p1 p2 p3), rv b4, iv (ab1_ p1 p2 p3), rv b318, .unset] [])) rfl (hb hby at_365) (lE rfl) (lE rfl)
 obtain ⟨b335, g335⟩ : ∃ z, z = T324.heap.size := ⟨_, rfl⟩
 rw [← g335] at A335 D335 st335
 replace X335 : Stand p l e room_1 (s.setVm s.vm) m #[.int p1, .int p2, .int p3] below meth c T335 _ 4 149 := X335
 have K336 := K331.ext E335
 have C337 : CHv Z consts_1 s.vm h335 := CHv.ext E335 C332
 have R338 : CHr Z consts_1 s.vm h0 s.vm h335 := R334.trans (CHr.ext E335 C332)
 have F339_ : Fld Z h335 b335 CF_ "requestCount" "I" (.int 0) := D335 (Or.inr (w57_ hw)) (ty := .int) (by decide)
 have F340_ : Fld Z h335 b335 CF_ "networkCount" "I" (.int 0) := D335 (Or.inr (w59_ hw)) (ty := .int) (by decide)
 have F341_ : Fld Z h335 b335 CF_ "hitCount" "I" (.int 0) := D335 (Or.inr (w61_ hw)) (ty := .int) (by decide)
 have O343 := O328.keep K324q (allS g_b318 all0)
 have g_b335 : n0 ≤ b335 := Nat.le_trans (Nat.le_trans (Nat.le_of_eq O343.1.symm) O343.2.1) (Nat.le_of_eq g335.symm)
 have O344 := O343.ext E335
 obtain ⟨_, T342, L342, X342, hQ342, st342⟩ := own_cI 4 149 [.ref b335] 372 #[iv p1, iv p2, iv p3, iv (ab0_ p1 p2 p3), rv b4, iv (ab1_ p1 p2 p3), rv b318, .unset] X335 hx hZ hown (w52_ hw) (w53_ hw) (w51_ hw) (w54_ hw) (rm4 l Z a0 hw  b335 p1 p2 p3 h335 n0 O344 A335 F339_ g_b335 F340_ F341_) pd4 hml.symm (hb hby at_372) e335 rfl rfl rfl rfl rfl (by decide)
 obtain ⟨rfl, N342q, K342q, w345, w346, w347, w348⟩ := hQ342
 have N342 := Fr.app N324 N342q
 have sz_b335 : h0.size ≤ b335 := Nat.le_trans K331.1 (Nat.le_of_eq g335.symm)
 have K349 := K336.trans K342q (allS (Or.inr sz_b335) all0)
 have C350 : CHv Z consts_1 s.vm T342.heap := CHv.keep K342q (sfS (Safe.exa hZ.alike A335 (by decide) (by decide)) sf0) C337
 have R351 : CHr Z consts_1 s.vm h0 s.vm T342.heap := R338.trans (CHr.keep K342q (sfS (Safe.exa hZ.alike A335 (by decide) (by decide)) sf0) C337)
 have ti352 := own_tadd ti310 i1_ (q75 hB0 hB1 hB2)
 have O354 := O344.keep K342q (allS g_b335 all0)
 have hk355' : _ ≤ T342.heap.size := (Nat.le_trans hk0 K349.1)
 have E356_ := A335.keep K342q
 obtain ⟨cq353, kq353, q353a, q353b, q353c⟩ := isOf hZ rfl E356_
 obtain ⟨_, T353, L353, X353, hQ353, hS353, hZ353, ho353, CR353, st353⟩ := own_cbS 4 149 15 509 19 658 (X342.virtualBackS hx (y := Y33_) (z := Y33_) hown (mvT hZ (w62_ hw)) (mvT hZ (w63_ hw)) (notFace_of_selects (args := #[]) (mvT hZ (w65_ hw))) (mvT hZ (w65_ hw)) (mvT hZ (w64_ hw)) (by decide) (backOfSH (W := 1) (EL := consts_1) (s := s) (rm86 l Z a0 hw G1 Gg0 Gg1 Kg2 Kg3 b335 p1 p2 p3 T342.heap n0 O354 O2 P5 hEN w346 w347 w348) hZ (w66_ hw) (w51_ hw) (lE rfl) (lE rfl) hEL C350) q353a q353c (g := (mkF m 389 #[iv p1, iv p2, iv p3, iv (ab0_ p1 p2 p3), rv b4, iv (ab1_ p1 p2 p3), rv b318, rv b335] [.ref b335, .ref b318])) rfl hml.symm (Steps.refl _) (argsL := []) (rest := [.ref b318]) (lenOf pd26 rfl) rfl (own_hw rfl) (hb hby at_389) (fun _ _ => ⟨rfl, rfl, (lE rfl : 4 + 15 ≤ _), (lE rfl : 149 + 509 ≤ _)⟩)) rfl rfl hS0 hk355' hZ hown
 obtain ⟨b357, b358, c359_, rfl, N353q, K353q, w360, w361, w362, w363, w364, w365⟩ := hQ353
 have N353 := Fr.app N342 N353q
 have hk353 : T353.heap.size ≤ T353.heap.size := Nat.le_refl _
 have K366 := K349.trans K353q (fun x q => nomatch q)
 have R368 := R351.trans CR353
 have hp370 : ∀ c ∈ ((((((K1_ ++ (own_dec p1)) ++ K2_) ++ (own_dec p2)) ++ K3_) ++ (own_dec p3)) ++ K4_), ¬ c < 0 ∧ ¬ (127 : Int32) < c := (own_lapp (own_lapp (own_lapp (own_lapp (own_lapp (own_lapp (by decide) (own_dec127 p1)) (by decide)) (own_dec127 p2)) (by decide)) (own_dec127 p3)) (by decide))
 have hcd370 : StrChars.Road.CodA ((((((K1_ ++ (own_dec p1)) ++ K2_) ++ (own_dec p2)) ++ K3_) ++ (own_dec p3)) ++ K4_) 0 ((ab1_ p1 p2 p3) + (1 : Int32)) (((((((K1_ ++ (own_dec p1)) ++ K2_) ++ (own_dec p2)) ++ K3_) ++ (own_dec p3)) ++ K4_).map Value.int) := own_codI hp370 (own_ofT ti352 le317 (q72 hB0 hB1 hB2))
 have hbd370 : ∀ x ∈ ((((((K1_ ++ (own_dec p1)) ++ K2_) ++ (own_dec p2)) ++ K3_) ++ (own_dec p3)) ++ K4_), ¬ x < 0 ∧ ¬ (65535 : Int32) < x := own_up _ (own_up7 _ hp370)
 have E371_ := A318.keep K324q
 have E372_ := E371_.ext E335
 have E373_ := E372_.keep K342q
 have E374_ := E373_.keep K353q
 have F375_ := V330_.ext E335
 have nx376 : b318 ≠ b335 := (Nat.ne_of_lt (Nat.lt_of_lt_of_le (Nat.lt_of_lt_of_le A318.lt K324q.1) (Nat.le_of_eq g335.symm)))
 have F377_ := F375_.keep K342q (ninS nx376 nin0)
 have F378_ := F377_.keep K353q nin0
 have F379_ := C324q.ext E335
 have F380_ := F379_.keep K342q (ninS nx376 nin0)
 have F381_ := F380_.keep K353q nin0
 have A382_ := A330_.ext E335
 have nx383 : b330 ≠ b335 := (Nat.ne_of_lt (Nat.lt_of_lt_of_le A330_.lt (Nat.le_of_eq g335.symm)))
 have A384_ := A382_.keep K342q (ninS nx383 nin0)
 have A385_ := A384_.keep K353q nin0
 have O386 := O354.keep K353q all0
 obtain ⟨cq369, kq369, q369a, q369b, q369c⟩ := isOf hZ353 rfl E374_
 obtain ⟨_, T369, L369, X369, hQ369, st369⟩ := own_cb0 19 658 0 0 19 658 (X353.virtualBack hx (y := Y35_) (z := Y35_) ho353 (mvT hZ353 (w218_ hw)) (mvT hZ353 (w219_ hw)) (notFace_of_selects (args := #[]) (mvT hZ353 (w221_ hw))) (mvT hZ353 (w221_ hw)) (mvT hZ353 (w220_ hw)) (by decide) (StrChars.Road.eqW (s := s.setVm T353.vm) (W := 0) hZ353 (own_wq hw) (kI := 4) (w21_ hw) E374_ F378_ F381_ A385_ hcd330 hbd330 (own_l9 le317 (q74 hB0 hB1 hB2)) w362 w363 w364 w365 hcd370 hbd370 (own_l9 le317 (q74 hB0 hB1 hB2)) (O2.ext O386.2) P5 (lE rfl) (lE rfl)) q369a q369c (g := (mkF m 392 #[iv p1, iv p2, iv p3, iv (ab0_ p1 p2 p3), rv b4, iv (ab1_ p1 p2 p3), rv b318, rv b335] [.ref b357, .ref b318])) rfl hml.symm (Steps.refl _) (argsL := [.ref b357]) (rest := []) (lenOf pd27 rfl) rfl (own_hw rfl) (hb hby at_392) (fun _ _ => ⟨rfl, rfl, (lE rfl : 19 + 0 ≤ _), (lE rfl : 658 + 0 ≤ _)⟩)) rfl rfl
 dsimp only [Pt.U, Pt.locs, Pt.cells, Pt.slots] at hQ369
 obtain ⟨hv369, rfl, e369q⟩ := hQ369
 rcases hv369 with ⟨rfl, -⟩ | ⟨-, hq369⟩
 rotate_left
 exact absurd (rfl : ((((((K1_ ++ (own_dec p1)) ++ K2_) ++ (own_dec p2)) ++ K3_) ++ (own_dec p3)) ++ K4_) = ((((((K1_ ++ (own_dec p1)) ++ K2_) ++ (own_dec p2)) ++ K3_) ++ (own_dec p3)) ++ K4_)) hq369
 have N369 := Fr.app N353 (Fr.nil n0)
 refine own_lvW X369 Bd.notSynchronized hS353 hk353 (v := (some (.int 1))) (fun h => by rw [Bd.returns] at h; cases h) e369q hh ⟨rfl, N369⟩ (R368.trans (CHv.at X369 hZ353 hEL CR353.1)) (lE rfl) (lE rfl) (fun fs hr => pre0 _ (by
  show Sx p e below s₁ m 0 (l25_ p1 p2 p3) [] _
  refine zd X0 Bd at_0 ?_
  refine zj X0 Bd at_2 rfl ?_
  refine st1 _ ?_
  refine XS.iadd X1.here hx rfl (hb hby at_6) rfl ?_
  refine zj X1 Bd at_7 rfl ?_
  refine st2 _ ?_
  refine XS.iadd X2.here hx rfl (hb hby at_11) rfl ?_
  refine zj X2 Bd at_12 rfl ?_
  refine st3 _ ?_
  refine XS.iadd X3.here hx rfl (hb hby at_16) rfl ?_
  refine zt X3 Bd at_17 (l' := #[iv p1, iv p2, iv p3, iv (ab0_ p1 p2 p3), .unset, .unset, .unset, .unset]) rfl ?_
  refine zj X3 Bd at_18 rfl ?_
  refine st4 _ ?_
  refine XS.astore X4.here hx rfl (hb hby at_21) rfl rfl (l' := #[iv p1, iv p2, iv p3, iv (ab0_ p1 p2 p3), rv b4, .unset, .unset, .unset]) rfl ?_
  refine za X4 Bd at_23 rfl rfl ?_
  refine zc X4 Bd at_25 ?_
  refine zd X4 Bd at_26 ?_
  refine st12 _ _ _ ?_
  refine za X12 Bd at_29 rfl rfl ?_
  refine zc X12 Bd at_31 ?_
  refine zd X12 Bd at_32 ?_
  refine st18 _ _ _ ?_
  refine za X18 Bd at_35 rfl rfl ?_
  refine zc X18 Bd at_37 ?_
  refine zd X18 Bd at_38 ?_
  refine st24 _ _ _ ?_
  refine za X24 Bd at_41 rfl rfl ?_
  refine zc X24 Bd at_43 ?_
  refine zd X24 Bd at_44 ?_
  refine st30 _ _ _ ?_
  refine za X30 Bd at_47 rfl rfl ?_
  refine zc X30 Bd at_49 ?_
  refine zd X30 Bd at_50 ?_
  refine st36 _ _ _ ?_
  refine za X36 Bd at_53 rfl rfl ?_
  refine zc X36 Bd at_55 ?_
  refine zd X36 Bd at_56 ?_
  refine st42 _ _ _ ?_
  refine za X42 Bd at_59 rfl rfl ?_
  refine zd X42 Bd at_61 ?_
  refine zd X42 Bd at_63 ?_
  refine st48 _ _ _ ?_
  refine za X48 Bd at_66 rfl rfl ?_
  refine zd X48 Bd at_68 ?_
  refine zd X48 Bd at_70 ?_
  refine st54 _ _ _ ?_
  refine za X54 Bd at_73 rfl rfl ?_
  refine zd X54 Bd at_75 ?_
  refine zd X54 Bd at_77 ?_
  refine st60 _ _ _ ?_
  refine za X60 Bd at_80 rfl rfl ?_
  refine zd X60 Bd at_82 ?_
  refine zd X60 Bd at_84 ?_
  refine st66 _ _ _ ?_
  refine za X66 Bd at_87 rfl rfl ?_
  refine zd X66 Bd at_89 ?_
  refine zd X66 Bd at_91 ?_
  refine st72 _ _ _ ?_
  refine za X72 Bd at_94 rfl rfl ?_
  refine zd X72 Bd at_96 ?_
  show Sx p e below T72 m 98 #[iv p1, iv p2, iv p3, iv (ab0_ p1 p2 p3), rv b4, .unset, .unset, .unset] [.int 11, .ref b4] _
  refine zd X72 Bd at_98 ?_
  refine st78 _ _ _ ?_
  refine za X78 Bd at_101 rfl rfl ?_
  refine zd X78 Bd at_103 ?_
  refine zd X78 Bd at_105 ?_
  refine st84 _ _ _ ?_
  refine za X84 Bd at_108 rfl rfl ?_
  refine zd X84 Bd at_110 ?_
  refine zd X84 Bd at_112 ?_
  refine st90 _ _ _ ?_
  refine za X90 Bd at_115 rfl rfl ?_
  refine zd X90 Bd at_117 ?_
  refine zd X90 Bd at_119 ?_
  refine st96 _ _ _ ?_
  refine za X96 Bd at_122 rfl rfl ?_
  refine zd X96 Bd at_124 ?_
  refine zd X96 Bd at_126 ?_
  refine st102 _ _ _ ?_
  refine za X102 Bd at_129 rfl rfl ?_
  refine zd X102 Bd at_131 ?_
  refine zd X102 Bd at_133 ?_
  refine st108 _ _ _ ?_
  refine za X108 Bd at_136 rfl rfl ?_
  refine zd X108 Bd at_138 ?_
  refine zd X108 Bd at_140 ?_
  refine st114 _ _ _ ?_
  refine za X114 Bd at_143 rfl rfl ?_
  refine zd X114 Bd at_145 ?_
  refine zd X114 Bd at_147 ?_
  refine st120 _ _ _ ?_
  refine za X120 Bd at_150 rfl rfl ?_
  refine zd X120 Bd at_152 ?_
  refine zd X120 Bd at_154 ?_
  refine st126 _ _ _ ?_
  refine za X126 Bd at_157 rfl rfl ?_
  refine zd X126 Bd at_159 ?_
  refine zj X126 Bd at_161 rfl ?_
  refine st132 _ ?_
  refine zs X132 Bd at_165 (l' := (l26_ p1 p2 p3 b4)) rfl ?_
  refine za X132 Bd at_167 rfl rfl ?_
  refine zi X132 Bd at_169 rfl ?_
  refine zd X132 Bd at_171 ?_
  refine st160 _ _ _ ?_
  refine za X160 Bd at_174 rfl rfl ?_
  refine zi X160 Bd at_176 rfl ?_
  refine zc X160 Bd at_178 ?_
  refine XS.iadd X160.here hx rfl (hb hby at_179) rfl ?_
  refine zd X160 Bd at_180 ?_
  refine st167 _ _ _ ?_
  refine za X167 Bd at_183 rfl rfl ?_
  refine zi X167 Bd at_185 rfl ?_
  refine zc X167 Bd at_187 ?_
  refine XS.iadd X167.here hx rfl (hb hby at_188) rfl ?_
  refine zd X167 Bd at_189 ?_
  refine st174 _ _ _ ?_
  refine za X174 Bd at_192 rfl rfl ?_
  refine zi X174 Bd at_194 rfl ?_
  refine zc X174 Bd at_196 ?_
  refine XS.iadd X174.here hx rfl (hb hby at_197) rfl ?_
  refine zd X174 Bd at_198 ?_
  show Sx p e below T174 m 200 (l26_ p1 p2 p3 b4) [.int 101, (.int (((20 : Int32) + (own_wd p1)) + (3 : Int32))), .ref b4] _
  refine st181 _ _ _ ?_
  refine za X181 Bd at_201 rfl rfl ?_
  refine zi X181 Bd at_203 rfl ?_
  refine zc X181 Bd at_205 ?_
  refine XS.iadd X181.here hx rfl (hb hby at_206) rfl ?_
  refine zd X181 Bd at_207 ?_
  refine st188 _ _ _ ?_
  refine za X188 Bd at_210 rfl rfl ?_
  refine zi X188 Bd at_212 rfl ?_
  refine zc X188 Bd at_214 ?_
  refine XS.iadd X188.here hx rfl (hb hby at_215) rfl ?_
  refine zd X188 Bd at_216 ?_
  refine st195 _ _ _ ?_
  refine za X195 Bd at_219 rfl rfl ?_
  refine zi X195 Bd at_221 rfl ?_
  refine zd X195 Bd at_223 ?_
  refine XS.iadd X195.here hx rfl (hb hby at_225) rfl ?_
  refine zd X195 Bd at_226 ?_
  refine st202 _ _ _ ?_
  refine za X202 Bd at_229 rfl rfl ?_
  refine zi X202 Bd at_231 rfl ?_
  refine zd X202 Bd at_233 ?_
  refine XS.iadd X202.here hx rfl (hb hby at_235) rfl ?_
  refine zd X202 Bd at_236 ?_
  refine st209 _ _ _ ?_
  refine za X209 Bd at_239 rfl rfl ?_
  refine zi X209 Bd at_241 rfl ?_
  refine zd X209 Bd at_243 ?_
  refine XS.iadd X209.here hx rfl (hb hby at_245) rfl ?_
  refine zd X209 Bd at_246 ?_
  refine st216 _ _ _ ?_
  refine za X216 Bd at_249 rfl rfl ?_
  refine zi X216 Bd at_251 rfl ?_
  refine zd X216 Bd at_253 ?_
  refine XS.iadd X216.here hx rfl (hb hby at_255) rfl ?_
  refine zd X216 Bd at_256 ?_
  refine st223 _ _ _ ?_
  refine za X223 Bd at_259 rfl rfl ?_
  refine zi X223 Bd at_261 rfl ?_
  refine zd X223 Bd at_263 ?_
  refine XS.iadd X223.here hx rfl (hb hby at_265) rfl ?_
  refine zj X223 Bd at_266 rfl ?_
  refine st229 _ ?_
  refine zs X229 Bd at_270 (l' := (l24_ p1 p2 p3 b4)) rfl ?_
  refine za X229 Bd at_272 rfl rfl ?_
  refine zi X229 Bd at_274 rfl ?_
  refine zd X229 Bd at_276 ?_
  refine st248 _ _ _ ?_
  refine za X248 Bd at_279 rfl rfl ?_
  refine zi X248 Bd at_281 rfl ?_
  refine zc X248 Bd at_283 ?_
  refine XS.iadd X248.here hx rfl (hb hby at_284) rfl ?_
  refine zd X248 Bd at_285 ?_
  refine st255 _ _ _ ?_
  refine za X255 Bd at_288 rfl rfl ?_
  refine zi X255 Bd at_290 rfl ?_
  refine zc X255 Bd at_292 ?_
  refine XS.iadd X255.here hx rfl (hb hby at_293) rfl ?_
  refine zd X255 Bd at_294 ?_
  refine st262 _ _ _ ?_
  show Sx p e below T262 m 297 (l24_ p1 p2 p3 b4) [] _
  refine za X262 Bd at_297 rfl rfl ?_
  refine zi X262 Bd at_299 rfl ?_
  refine zc X262 Bd at_301 ?_
  refine XS.iadd X262.here hx rfl (hb hby at_302) rfl ?_
  refine zd X262 Bd at_303 ?_
  refine st269 _ _ _ ?_
  refine za X269 Bd at_306 rfl rfl ?_
  refine zi X269 Bd at_308 rfl ?_
  refine zc X269 Bd at_310 ?_
  refine XS.iadd X269.here hx rfl (hb hby at_311) rfl ?_
  refine zd X269 Bd at_312 ?_
  refine st276 _ _ _ ?_
  refine za X276 Bd at_315 rfl rfl ?_
  refine zi X276 Bd at_317 rfl ?_
  refine zc X276 Bd at_319 ?_
  refine XS.iadd X276.here hx rfl (hb hby at_320) rfl ?_
  refine zd X276 Bd at_321 ?_
  refine st283 _ _ _ ?_
  refine za X283 Bd at_324 rfl rfl ?_
  refine zi X283 Bd at_326 rfl ?_
  refine zd X283 Bd at_328 ?_
  refine XS.iadd X283.here hx rfl (hb hby at_330) rfl ?_
  refine zd X283 Bd at_331 ?_
  refine st290 _ _ _ ?_
  refine za X290 Bd at_334 rfl rfl ?_
  refine zi X290 Bd at_336 rfl ?_
  refine zd X290 Bd at_338 ?_
  refine XS.iadd X290.here hx rfl (hb hby at_340) rfl ?_
  refine zj X290 Bd at_341 rfl ?_
  refine st296 _ ?_
  refine zs X296 Bd at_345 (l' := #[iv p1, iv p2, iv p3, iv (ab0_ p1 p2 p3), rv b4, iv (ab1_ p1 p2 p3), .unset, .unset]) rfl ?_
  refine za X296 Bd at_347 rfl rfl ?_
  refine zi X296 Bd at_349 rfl ?_
  refine zd X296 Bd at_351 ?_
  refine st312 _ _ _ ?_
  refine st318 _ ?_
  refine XS.dup X318.here hx rfl (hb hby at_357) rfl rfl ?_
  refine za X318 Bd at_358 rfl rfl ?_
  refine st324.trans ?_
  refine XS.astore X324.here hx rfl (hb hby at_363) rfl rfl (l' := #[iv p1, iv p2, iv p3, iv (ab0_ p1 p2 p3), rv b4, iv (ab1_ p1 p2 p3), rv b318, .unset]) rfl ?_
  refine st335 _ ?_
  refine XS.dup X335.here hx rfl (hb hby at_368) rfl rfl ?_
  refine zj X335 Bd at_369 rfl ?_
  refine zj X335 Bd at_370 rfl ?_
  refine zj X335 Bd at_371 rfl ?_
  refine st342 _ ?_
  refine XS.astore X342.here hx rfl (hb hby at_375) rfl rfl (l' := #[iv p1, iv p2, iv p3, iv (ab0_ p1 p2 p3), rv b4, iv (ab1_ p1 p2 p3), rv b318, rv b335]) rfl ?_
  refine zi X342 Bd at_377 rfl ?_
  refine zc X342 Bd at_379 ?_
  refine XS.iadd X342.here hx rfl (hb hby at_380) rfl ?_
  refine zj X342 Bd at_381 rfl ?_
  refine zn X342 Bd at_382 (XT.ii_ne_f ((own_eqT ti352 ti7 (q76 hB0 hB1 hB2)) : ((ab1_ p1 p2 p3) + (1 : Int32)) = (ab0_ p1 p2 p3))) ?_
  refine za X342 Bd at_385 rfl rfl ?_
  refine za X342 Bd at_387 rfl rfl ?_
  refine st353.trans ?_
  refine st369.trans ?_
  refine zo X369 Bd at_395 (XT.i0_eq_f ((by decide) : ¬ ((1 : Int32) = (0 : Int32)))) ?_
  refine zc X369 Bd at_398 ?_
  refine zg (pc' := 403) X369 Bd at_399 rfl ?_
  exact retN X369 hx (t := .boolean) Bd.returns (by simp) (hb hby at_403) hr))
end Sq
theorem comes_1 {Post : Tables → Env → Array Value → State → Outcome → State → Prop} (hpost : ∀ tb e args s v u, (limb_1_1.after args s (.returned v) u = true ∧ limb_1_2.after args s (.returned v) u = true ∧ True) → ReturnedEndW s (.returned v) u (Jvm.fieldLocs frame_1_writes args s ++ Jvm.arrayLocs frame_1_arrays args s ++ Jvm.staticLocs frame_1_statics s) 40 5184 → Post tb e args s (.returned v) u) :
    ArmFor flags0 classFile x code maxLocals ret World_1 tables_1 room_1 Calls_1 rest_1 Pre_1 Post := by
  intro l hfl _ _ p e ha hc hk s m args below hf hA hF happ hP
  obtain ⟨hcalls, hrest, hpre⟩ := hP
  obtain ⟨-, -, -, hnamed, -, -, -, hat⟩ := (Spec.applies_iff hf).mp happ
  obtain ⟨hg, hn⟩ := and_e (Cond.before_iff.mp (show (Jvm.Cond.and given_1 narrow_1).before args s = true from hpre))
  obtain ⟨hg0, hg1⟩ := and_e hg
  obtain ⟨ha1, hg2⟩ := and_e hg1
  obtain ⟨ha2, hg3⟩ := and_e hg2
  obtain ⟨w1, w2, w3, rfl⟩ : ∃ w1 w2 w3 : Value, args = #[w1, w2, w3] := by
    have hs : args.size = 3 := by simpa [Cond.value, given_1] using hg0
    obtain ⟨L⟩ := args
    match L, hs with
    | [w1, w2, w3], _ => exact ⟨w1, w2, w3, rfl⟩
  have hw := fun d (hd : d ∈ tables_1) => atoms_spec (ws := Jvm.Cond.code x code maxLocals ret :: tables_1) hat d (List.mem_cons_of_mem _ hd)
  obtain ⟨hsets, hown0⟩ := atoms_of _ (rest_1_c_eq ▸ (show rest_1_c.before _ s = true from hrest))
  have hfit : Fit s := fun {y c} hc i hi => by
    obtain ⟨ha, rfl⟩ := Array.getElem?_eq_some_iff.mp hc
    have q := List.all_eq_true.mp ((Array.all_eq_true_iff_forall_mem.mp hF) _ (Array.getElem_mem ha)) i (List.mem_range.mpr hi)
    simpa [Array.getElem?_eq_getElem hi] using q
  obtain ⟨i1, ei1⟩ := is_v ha1
  obtain rfl : w1 = (.int i1) := Option.some.inj ei1
  obtain ⟨i2, ei2⟩ := is_v ha2
  obtain rfl : w2 = (.int i2) := Option.some.inj ei2
  obtain ⟨i3, ei3⟩ := is_v hg3
  obtain rfl : w3 = (.int i3) := Option.some.inj ei3
  have nCS := not_v (Cond.before_iff.mp (hsets _ (mI 2 rfl)))
  obtain ⟨G1, eCS⟩ := is_v (Cond.before_iff.mp (hsets _ (mI 1 rfl)))
  have O2 : Sta s s.heap ST_ "COMPACT_STRINGS" "Z" (.int G1) := Sta.start eCS (Or.inl (hsets _ (mI 0 rfl)))
  have P5 : ¬ (G1 = (0 : Int32)) := gotF (Cond.eq_ints eCS (Term.int_eval (0))) nCS
  obtain ⟨Gg0, ev_Gg0⟩ := exa_v (Cond.before_iff.mp (hsets _ (mI 12 rfl)))
  obtain ⟨Gg1, ev_Gg1⟩ := exa_v (Cond.before_iff.mp (hsets _ (mI 17 rfl)))
  obtain ⟨Kg2, av_Gg0⟩ := own_arrT (L := own_ones) hfit ev_Gg0 (Cond.before_iff.mp (hsets _ (mI 12 rfl))) (w38_ hw) (eqv_i (Term.int_eval _) (Cond.before_iff.mp (hsets _ (mI 13 rfl)))) (fun _ => ev_Gg0) (Cond.before_iff.mp (hsets _ (mI 14 rfl))) (fun _ hi => own_Y1 hi) (by decide)
  obtain ⟨Kg3, av_Gg1⟩ := own_arrT (L := own_tens) hfit ev_Gg1 (Cond.before_iff.mp (hsets _ (mI 17 rfl))) (w38_ hw) (eqv_i (Term.int_eval _) (Cond.before_iff.mp (hsets _ (mI 18 rfl)))) (fun _ => ev_Gg1) (Cond.before_iff.mp (hsets _ (mI 19 rfl))) (fun _ hi => own_Y2 hi) (by decide)
  have hEN : OwnEN s Gg0 Gg1 Kg2 Kg3 := ⟨Sta.start ev_Gg0 (Or.inl (hsets _ (mI 11 rfl))), Exa.start ev_Gg0 (Cond.before_iff.mp (hsets _ (mI 12 rfl))), Sta.start ev_Gg1 (Or.inl (hsets _ (mI 16 rfl))), Exa.start ev_Gg1 (Cond.before_iff.mp (hsets _ (mI 17 rfl))), av_Gg0, av_Gg1⟩
  have hCH : CHv s consts_1 s.vm s.heap := CHv.start (own_EW hw) (fun p hp => hcalls.1 p hp) (hsets _ (mI 2 rfl)) (w38_ hw) (w21_ hw)
  obtain ⟨n, o, h1, h2, h3, _, L, rfl, ⟨rfl, N⟩, -, hq⟩ := rm0 l s _ hw tables_1 G1 Gg0 Gg1 Kg2 Kg3 i1 i2 i3 s.heap s.heap.size (Old.start s) O2 P5 hEN p e ha hc hk s m _ below hf ((Spec.applies_iff_loose hf).mp happ).1 ⟨rfl, State.Warmed39.refl s, rfl, hCH⟩ trivial
  refine ⟨n, _, h1, h2, h3, hpost _ _ _ _ _ _ ⟨Cond.after_iff.mpr rfl, Cond.after_iff.mpr (eq_i res_at (Term.int_eval (1)) rfl), trivial⟩ ⟨hq.1, hq.2.1, hq.2.2.1, (hq.2.2.2.sift fun y hy => Or.inr (N y hy)).mono (by decide) (by decide)⟩⟩
theorem main_1_1 : Claimed_1_1 := comes_1 fun _ _ _ _ _ _ h hF => ⟨h.1, hF⟩
theorem main_1_2 : Claimed_1_2 := comes_1 fun _ _ _ _ _ _ h hF => ⟨h.2.1, hF⟩
end Jvm.Pilot.@@N@@
namespace Jvm.Pilot.@@N@@
open Jvm Jvm.ClassFile Sem Op Lib Jvm.Free Jvm.Stand Jvm.Pilot.@@N@@.Jvm.D
/-! MADE BY PROGRAM (witnessworld.py) out of the Statement's table words and the real class files: 28 classes; the members and pool entries that the words name. The judged class is class 1, her method 4. -/
namespace start1
open Jvm.ClassFile
def u (s : String) : CpInfo := .utf8 (stringToUtf16 s)
/-- a pool by its gaps: so many unusable entries, then the entry; so many at the end -/
def gap : Nat → List CpInfo → List CpInfo
  | 0, r => r
  | n + 1, r => .unusable :: gap n r
def poolList (es : List (Nat × CpInfo)) (last : Nat) : List CpInfo := es.foldr (fun e r => gap e.1 (e.2 :: r)) (gap last [])
def pool (es : List (Nat × CpInfo)) (last : Nat) : Array CpInfo := ⟨poolList es last⟩
def fileOf (pool : Array CpInfo) (this : Nat) (attrs : Array Attribute := #[]) (ms : Array MethodInfo := #[]) (fl : Nat := 33) (sup : Nat := 0) (ifs : Array Nat := #[]) (fds : Array FieldInfo := #[]) : ClassFile where
  minorVersion := 0
  majorVersion := 65
  constantPool := pool
  accessFlags := fl
  thisClass := this
  superClass := sup
  interfaces := ifs
  fields := fds
  methods := ms
  attributes := attrs
def plain (name : String) (sup : Option ClassId) : Class where
  name := name
  kind := .ordinary
  loader := none
  accessFlags := 33
  super := sup
  interfaces := #[]
  cf := none
  fields := #[]
  methods := #[]
  instanceTypes := #[]
  staticTypes := #[]
  resolved := #[]
  callSites := []
  init := .initialized
  statics := none
  mirror := none

def pool0 : Array CpInfo := pool [(5, u "<init>"), (0, u "()V"), (1, .class_ 10), (1, u "java/lang/Object"), (85, u "clone"), (0, u "()Ljava/lang/Object;")] 26

def k0c0 : Code := { maxStack := 0, maxLocals := 1, code := object_method_1_code, exceptionTable := #[], attributes := #[] }
def k0m0 : Method := { name := "<init>", desc := "()V", sig := { parameters := [], returnType := none }, accessFlags := 1, code := some k0c0 }
def k0m1 : Method := { name := "clone", desc := "()Ljava/lang/Object;", sig := { parameters := [], returnType := some (.object "java/lang/Object") }, accessFlags := 260, code := none }
/-- java/lang/Object -/
def k0 : Class := { plain "java/lang/Object" none with
  accessFlags := 33
  interfaces := #[]
  cf := some (fileOf pool0 8 #[] #[⟨1, 5, 6, #[]⟩, ⟨260, 96, 97, #[]⟩] 33 0 #[] #[])
  fields := #[]
  methods := #[k0m0, k0m1]
  instanceTypes := #[]
  staticTypes := #[]
  resolved := Array.replicate 124 none
  statics := none }

def pool1 : Array CpInfo := pool [(2, .class_ 4), (1, u "java/lang/Object"), (0, u "<init>"), (0, u "()V"), (0, .long 1000000000), (1, .long 100000000), (1, .long 10000000), (1, .long 1000000), (1, .long 100000), (1, .long 10000), (1, .long 1000), (1, .long 100), (1, .long 10), (1, .methodref 26 27), (0, .class_ 28), (0, .nameAndType 29 30), (0, u "com/example/foreground_courier/foregroundcourier/CacheStatsToStringPinLaw"), (0, u "digits"), (0, u "(J)I"), (0, .methodref 26 32), (0, .nameAndType 33 34), (0, u "width"), (0, u "(I)I"), (0, .methodref 26 36), (0, .nameAndType 37 38), (0, u "putNum"), (0, u "([CII)I"), (0, .class_ 40), (0, u "java/lang/String"), (0, .methodref 39 42), (0, .nameAndType 5 43), (0, u "([C)V"), (0, .class_ 45), (0, u "com/example/foreground_courier/foregroundcourier/CacheStats"), (0, .methodref 44 47), (0, .nameAndType 5 48), (0, u "(III)V"), (0, .methodref 44 50), (0, .nameAndType 51 52), (0, u "toString"), (0, u "()Ljava/lang/String;"), (0, .methodref 39 54), (0, .nameAndType 55 56), (0, u "equals"), (0, u "(Ljava/lang/Object;)Z"), (3, u "law"), (0, u "(III)Z")] 4

def k1m0 : Method := { name := "<init>", desc := "()V", sig := { parameters := [], returnType := none }, accessFlags := 1, code := none }
def k1c1 : Code := { maxStack := 4, maxLocals := 2, code := method_2_code, exceptionTable := #[], attributes := #[] }
def k1m1 : Method := { name := "digits", desc := "(J)I", sig := { parameters := [.long], returnType := some .int }, accessFlags := 10, code := some k1c1 }
def k1c2 : Code := { maxStack := 4, maxLocals := 3, code := method_3_code, exceptionTable := #[], attributes := #[] }
def k1m2 : Method := { name := "width", desc := "(I)I", sig := { parameters := [.int], returnType := some .int }, accessFlags := 10, code := some k1c2 }
def k1c3 : Code := { maxStack := 7, maxLocals := 8, code := method_4_code, exceptionTable := #[], attributes := #[] }
def k1m3 : Method := { name := "putNum", desc := "([CII)I", sig := { parameters := [(.array .char), .int, .int], returnType := some .int }, accessFlags := 10, code := some k1c3 }
def k1c4 : Code := { maxStack := 5, maxLocals := 8, code := code, exceptionTable := #[], attributes := #[] }
def k1m4 : Method := { name := "law", desc := "(III)Z", sig := { parameters := [.int, .int, .int], returnType := some .boolean }, accessFlags := 9, code := some k1c4 }
/-- com/example/foreground_courier/foregroundcourier/CacheStatsToStringPinLaw -/
def k1 : Class := { plain "com/example/foreground_courier/foregroundcourier/CacheStatsToStringPinLaw" (some 0) with
  accessFlags := 49
  interfaces := #[]
  cf := some (fileOf pool1 26 #[] #[⟨1, 5, 6, #[]⟩, ⟨10, 29, 30, #[]⟩, ⟨10, 33, 34, #[]⟩, ⟨10, 37, 38, #[]⟩, ⟨9, 60, 61, #[]⟩] 49 2 #[] #[])
  fields := #[]
  methods := #[k1m0, k1m1, k1m2, k1m3, k1m4]
  instanceTypes := #[]
  staticTypes := #[]
  resolved := Array.replicate 66 none
  statics := none }

def pool2 : Array CpInfo := pool [(1, .class_ 2), (0, u "java/io/Serializable"), (0, .class_ 4), (0, u "java/lang/Object")] 2

/-- java/io/Serializable -/
def k2 : Class := { plain "java/io/Serializable" (some 0) with
  accessFlags := 1537
  interfaces := #[]
  cf := some (fileOf pool2 1 #[] #[] 1537 3 #[] #[])
  fields := #[]
  methods := #[]
  instanceTypes := #[]
  staticTypes := #[]
  resolved := Array.replicate 7 none
  statics := none }

def pool3 : Array CpInfo := pool [(1, .class_ 2), (0, u "java/lang/Comparable"), (0, .class_ 4), (0, u "java/lang/Object")] 7

/-- java/lang/Comparable -/
def k3 : Class := { plain "java/lang/Comparable" (some 0) with
  accessFlags := 1537
  interfaces := #[]
  cf := some (fileOf pool3 1 #[] #[] 1537 3 #[] #[])
  fields := #[]
  methods := #[]
  instanceTypes := #[]
  staticTypes := #[]
  resolved := Array.replicate 12 none
  statics := none }

def pool4 : Array CpInfo := pool [(2, .class_ 4), (1, u "java/lang/CharSequence"), (42, .class_ 48), (0, u "java/lang/CharSequence$1CodePointIterator"), (10, .class_ 60), (0, u "java/lang/CharSequence$1CharIterator"), (5, .class_ 67), (0, u "java/lang/Object")] 63

/-- java/lang/CharSequence -/
def k4 : Class := { plain "java/lang/CharSequence" (some 0) with
  accessFlags := 1537
  interfaces := #[]
  cf := some (fileOf pool4 2 #[.nestMembers #[47, 59]] #[] 1537 66 #[] #[])
  fields := #[]
  methods := #[]
  instanceTypes := #[]
  staticTypes := #[]
  resolved := Array.replicate 131 none
  statics := none }

def pool5 : Array CpInfo := pool [(1, .class_ 2), (0, u "java/lang/constant/Constable"), (0, .class_ 4), (0, u "java/lang/Object")] 6

/-- java/lang/constant/Constable -/
def k5 : Class := { plain "java/lang/constant/Constable" (some 0) with
  accessFlags := 1537
  interfaces := #[]
  cf := some (fileOf pool5 1 #[] #[] 1537 3 #[] #[])
  fields := #[]
  methods := #[]
  instanceTypes := #[]
  staticTypes := #[]
  resolved := Array.replicate 11 none
  statics := none }

def pool6 : Array CpInfo := pool [(1, .class_ 2), (0, u "java/lang/constant/ConstantDesc"), (0, .class_ 4), (0, u "java/lang/Object")] 32

/-- java/lang/constant/ConstantDesc -/
def k6 : Class := { plain "java/lang/constant/ConstantDesc" (some 0) with
  accessFlags := 1537
  interfaces := #[]
  cf := some (fileOf pool6 1 #[] #[] 1537 3 #[] #[])
  fields := #[]
  methods := #[]
  instanceTypes := #[]
  staticTypes := #[]
  resolved := Array.replicate 37 none
  statics := none }

def pool7 : Array CpInfo := pool [(1, .methodref 2 3), (0, .class_ 4), (0, .nameAndType 5 6), (0, u "java/lang/Object"), (0, u "<init>"), (0, u "()V"), (2, .fieldref 10 11), (0, .class_ 12), (0, .nameAndType 13 14), (0, u "java/lang/String"), (0, u "value"), (0, u "[B"), (0, .fieldref 10 16), (0, .nameAndType 17 18), (0, u "coder"), (0, u "B"), (2, u "hash"), (0, u "I"), (2, u "hashIsZero"), (0, u "Z"), (0, .methodref 10 28), (0, .nameAndType 5 29), (0, u "([CIILjava/lang/Void;)V"), (8, .fieldref 10 39), (0, .nameAndType 40 26), (0, u "COMPACT_STRINGS"), (1, .class_ 44), (1, u "java/lang/StringUTF16"), (0, u "compress"), (1, .methodref 42 48), (0, .nameAndType 49 50), (0, u "coderFromArrayLen"), (0, u "([BI)B"), (3, .methodref 55 56), (0, .class_ 57), (0, .nameAndType 58 59), (0, u "java/util/Arrays"), (0, u "copyOfRange"), (0, u "([BII)[B"), (47, .class_ 109), (1, u "java/lang/StringLatin1"), (32, u "()Z"), (34, .methodref 42 178), (0, .nameAndType 45 179), (0, u "([CII)[B"), (13, .class_ 195), (1, u "java/lang/System"), (16, .methodref 193 213), (0, .nameAndType 214 215), (0, u "arraycopy"), (0, u "(Ljava/lang/Object;ILjava/lang/Object;II)V"), (118, u "()I"), (0, .methodref 10 336), (0, .nameAndType 17 337), (0, u "()B"), (2, u "()[B"), (148, .methodref 10 490), (0, .nameAndType 5 491), (0, u "(Ljava/lang/AbstractStringBuilder;Ljava/lang/Void;)V"), (1, .nameAndType 494 142), (0, u "isLatin1"), (11, .nameAndType 507 334), (0, u "length"), (24, u "getBytes"), (8, .methodref 107 542), (0, .nameAndType 543 544), (0, u "equals"), (0, u "([B[B)Z"), (4, .methodref 550 506), (0, .class_ 551), (0, u "java/lang/AbstractStringBuilder"), (0, .methodref 550 553), (0, .nameAndType 554 340), (0, u "getValue"), (18, u "(Ljava/lang/Object;)Z"), (1, .class_ 576), (0, u "java/lang/CharSequence"), (22, u "CASE_INSENSITIVE_ORDER"), (0, u "Ljava/util/Comparator;"), (220, u "([BIB)V"), (188, u "([C)V"), (36, .methodref 550 493), (53, u "serialPersistentFields"), (0, u "[Ljava/io/ObjectStreamField;"), (0, .class_ 1104), (0, u "java/lang/String$CaseInsensitiveComparator"), (1, .class_ 1107), (0, u "java/io/Serializable"), (0, .class_ 1109), (0, u "java/lang/Comparable"), (0, .class_ 1111), (0, u "java/lang/constant/Constable"), (0, .class_ 1113), (0, u "java/lang/constant/ConstantDesc"), (2, u "serialVersionUID"), (0, u "J"), (3, u "REPL"), (0, u "C"), (2, u "LATIN1"), (1, u "UTF16"), (105, u "(Ljava/lang/StringBuilder;)V")] 217

def k7m0 : Method := { name := "<init>", desc := "()V", sig := { parameters := [], returnType := none }, accessFlags := 1, code := none }
def k7c1 : Code := { maxStack := 5, maxLocals := 2, code := jdk_42_method_3_code, exceptionTable := #[], attributes := #[] }
def k7m1 : Method := { name := "<init>", desc := "([C)V", sig := { parameters := [(.array .char)], returnType := none }, accessFlags := 1, code := some k7c1 }
def k7c2 : Code := { maxStack := 3, maxLocals := 2, code := jdk_42_method_53_code, exceptionTable := #[], attributes := #[] }
def k7m2 : Method := { name := "<init>", desc := "(Ljava/lang/StringBuilder;)V", sig := { parameters := [(.object "java/lang/StringBuilder")], returnType := none }, accessFlags := 1, code := some k7c2 }
def k7c3 : Code := { maxStack := 2, maxLocals := 1, code := jdk_42_method_54_code, exceptionTable := #[], attributes := #[] }
def k7m3 : Method := { name := "length", desc := "()I", sig := { parameters := [], returnType := some .int }, accessFlags := 1, code := some k7c3 }
def k7c4 : Code := { maxStack := 2, maxLocals := 3, code := jdk_42_method_66_code, exceptionTable := #[], attributes := #[] }
def k7m4 : Method := { name := "equals", desc := "(Ljava/lang/Object;)Z", sig := { parameters := [(.object "java/lang/Object")], returnType := some .boolean }, accessFlags := 1, code := some k7c4 }
def k7c5 : Code := { maxStack := 5, maxLocals := 4, code := jdk_42_method_147_code, exceptionTable := #[], attributes := #[] }
def k7m5 : Method := { name := "getBytes", desc := "([BIB)V", sig := { parameters := [(.array .byte), .int, .byte], returnType := none }, accessFlags := 0, code := some k7c5 }
def k7c6 : Code := { maxStack := 4, maxLocals := 6, code := jdk_42_method_149_code, exceptionTable := #[], attributes := #[] }
def k7m6 : Method := { name := "<init>", desc := "([CIILjava/lang/Void;)V", sig := { parameters := [(.array .char), .int, .int, (.object "java/lang/Void")], returnType := none }, accessFlags := 2, code := some k7c6 }
def k7c7 : Code := { maxStack := 5, maxLocals := 5, code := jdk_42_method_150_code, exceptionTable := #[], attributes := #[] }
def k7m7 : Method := { name := "<init>", desc := "(Ljava/lang/AbstractStringBuilder;Ljava/lang/Void;)V", sig := { parameters := [(.object "java/lang/AbstractStringBuilder"), (.object "java/lang/Void")], returnType := none }, accessFlags := 0, code := some k7c7 }
def k7c8 : Code := { maxStack := 1, maxLocals := 1, code := jdk_42_method_152_code, exceptionTable := #[], attributes := #[] }
def k7m8 : Method := { name := "coder", desc := "()B", sig := { parameters := [], returnType := some .byte }, accessFlags := 0, code := some k7c8 }
/-- java/lang/String -/
def k7 : Class := { plain "java/lang/String" (some 0) with
  accessFlags := 49
  interfaces := #[2, 3, 4, 5, 6]
  cf := some (fileOf pool7 10 #[.nestMembers #[1103]] #[⟨1, 5, 6, #[]⟩, ⟨1, 5, 1010, #[]⟩, ⟨1, 5, 1233, #[]⟩, ⟨1, 507, 334, #[]⟩, ⟨1, 543, 573, #[]⟩, ⟨0, 532, 821, #[]⟩, ⟨2, 5, 29, #[]⟩, ⟨0, 5, 491, #[]⟩, ⟨0, 17, 337, #[]⟩] 49 2 #[1106, 1108, 575, 1110, 1112] #[⟨18, 13, 14, #[]⟩, ⟨18, 17, 18, #[]⟩, ⟨2, 21, 22, #[]⟩, ⟨2, 25, 26, #[]⟩, ⟨26, 1116, 1117, #[]⟩, ⟨24, 40, 26, #[]⟩, ⟨26, 1101, 1102, #[]⟩, ⟨26, 1121, 1122, #[]⟩, ⟨25, 599, 600, #[]⟩, ⟨24, 1125, 18, #[]⟩, ⟨24, 1127, 18, #[]⟩])
  fields := #[⟨"value", (.array .byte), 18, 0, 0⟩, ⟨"coder", .byte, 18, 1, 0⟩, ⟨"hash", .int, 2, 2, 0⟩, ⟨"hashIsZero", .boolean, 2, 3, 0⟩, ⟨"serialVersionUID", .long, 26, 0, 0⟩, ⟨"COMPACT_STRINGS", .boolean, 24, 1, 0⟩, ⟨"serialPersistentFields", (.array (.object "java/io/ObjectStreamField")), 26, 2, 0⟩, ⟨"REPL", .char, 26, 3, 0⟩, ⟨"CASE_INSENSITIVE_ORDER", (.object "java/util/Comparator"), 25, 4, 0⟩, ⟨"LATIN1", .byte, 24, 5, 0⟩, ⟨"UTF16", .byte, 24, 6, 0⟩]
  methods := #[k7m0, k7m1, k7m2, k7m3, k7m4, k7m5, k7m6, k7m7, k7m8]
  instanceTypes := #[(.array .byte), .byte, .int, .boolean]
  staticTypes := #[.long, .boolean, (.array (.object "java/io/ObjectStreamField")), .char, (.object "java/util/Comparator"), .byte, .byte]
  resolved := Array.replicate 1451 none
  statics := some 0 }

def pool8 : Array CpInfo := pool [(6, .class_ 8), (1, u "java/lang/Object"), (0, u "<init>"), (0, u "()V"), (1, .class_ 14), (1, u "java/lang/StringUTF16"), (31, u "$assertionsDisabled"), (0, u "Z"), (13, u "HI_BYTE_SHIFT"), (0, u "I"), (2, u "LO_BYTE_SHIFT"), (49, .methodref 12 116), (0, .nameAndType 117 118), (0, u "compress"), (0, u "([CI[BII)I"), (3, u "([CII)[B"), (138, u "coderFromArrayLen"), (0, u "([BI)B"), (106, .class_ 371), (1, u "java/lang/StringUTF16$LinesSpliterator"), (58, u "MAX_LENGTH"), (196, .class_ 628), (0, u "java/lang/StringUTF16$CodePointsSpliterator"), (0, .class_ 630), (0, u "java/lang/StringUTF16$CharsSpliterator")] 4

def k8m0 : Method := { name := "<init>", desc := "()V", sig := { parameters := [], returnType := none }, accessFlags := 0, code := none }
def k8c1 : Code := { maxStack := 2, maxLocals := 2, code := jdk_52_method_15_code, exceptionTable := #[], attributes := #[] }
def k8m1 : Method := { name := "coderFromArrayLen", desc := "([BI)B", sig := { parameters := [(.array .byte), .int], returnType := some .byte }, accessFlags := 8, code := some k8c1 }
def k8c2 : Code := { maxStack := 5, maxLocals := 6, code := jdk_52_method_16_code, exceptionTable := #[], attributes := #[] }
def k8m2 : Method := { name := "compress", desc := "([CII)[B", sig := { parameters := [(.array .char), .int, .int], returnType := some (.array .byte) }, accessFlags := 9, code := some k8c2 }
def k8c3 : Code := { maxStack := 3, maxLocals := 7, code := jdk_52_method_21_code, exceptionTable := #[], attributes := #[] }
def k8m3 : Method := { name := "compress", desc := "([CI[BII)I", sig := { parameters := [(.array .char), .int, (.array .byte), .int, .int], returnType := some .int }, accessFlags := 9, code := some k8c3 }
/-- java/lang/StringUTF16 -/
def k8 : Class := { plain "java/lang/StringUTF16" (some 0) with
  accessFlags := 48
  interfaces := #[]
  cf := some (fileOf pool8 12 #[.nestMembers #[627, 629, 369]] #[⟨0, 9, 10, #[]⟩, ⟨8, 261, 262, #[]⟩, ⟨9, 117, 122, #[]⟩, ⟨9, 117, 118, #[]⟩] 48 6 #[] #[⟨26, 61, 62, #[]⟩, ⟨26, 65, 62, #[]⟩, ⟨24, 430, 62, #[]⟩, ⟨4120, 46, 47, #[]⟩])
  fields := #[⟨"HI_BYTE_SHIFT", .int, 26, 0, 0⟩, ⟨"LO_BYTE_SHIFT", .int, 26, 1, 0⟩, ⟨"MAX_LENGTH", .int, 24, 2, 0⟩, ⟨"$assertionsDisabled", .boolean, 4120, 3, 0⟩]
  methods := #[k8m0, k8m1, k8m2, k8m3]
  instanceTypes := #[]
  staticTypes := #[.int, .int, .int, .boolean]
  resolved := Array.replicate 635 none
  statics := none }

def pool9 : Array CpInfo := pool [(1, .methodref 2 3), (0, .class_ 4), (0, .nameAndType 5 6), (0, u "java/lang/Object"), (0, u "<init>"), (0, u "()V"), (0, .fieldref 8 9), (0, .class_ 10), (0, .nameAndType 11 12), (0, u "com/example/foreground_courier/foregroundcourier/CacheStats"), (0, u "requestCount"), (0, u "I"), (0, .fieldref 8 14), (0, .nameAndType 15 12), (0, u "networkCount"), (0, .fieldref 8 17), (0, .nameAndType 18 12), (0, u "hitCount"), (0, .class_ 20), (0, u "java/lang/StringBuilder"), (0, .methodref 19 3), (0, .string 23), (0, u "CacheStats[requests="), (0, .methodref 19 25), (0, .nameAndType 26 27), (0, u "append"), (0, u "(Ljava/lang/String;)Ljava/lang/StringBuilder;"), (0, .methodref 19 29), (0, .nameAndType 26 30), (0, u "(I)Ljava/lang/StringBuilder;"), (0, .string 32), (0, u ", network="), (0, .string 34), (0, u ", hits="), (0, .string 36), (0, u "]"), (0, .methodref 19 38), (0, .nameAndType 39 40), (0, u "toString"), (0, u "()Ljava/lang/String;"), (0, u "(III)V")] 5

def k9c0 : Code := { maxStack := 2, maxLocals := 4, code := prog_1_method_1_code, exceptionTable := #[], attributes := #[] }
def k9m0 : Method := { name := "<init>", desc := "(III)V", sig := { parameters := [.int, .int, .int], returnType := none }, accessFlags := 0, code := some k9c0 }
def k9c1 : Code := { maxStack := 2, maxLocals := 1, code := prog_1_method_5_code, exceptionTable := #[], attributes := #[] }
def k9m1 : Method := { name := "toString", desc := "()Ljava/lang/String;", sig := { parameters := [], returnType := some (.object "java/lang/String") }, accessFlags := 1, code := some k9c1 }
/-- com/example/foreground_courier/foregroundcourier/CacheStats -/
def k9 : Class := { plain "com/example/foreground_courier/foregroundcourier/CacheStats" (some 0) with
  accessFlags := 49
  interfaces := #[]
  cf := some (fileOf pool9 8 #[] #[⟨0, 5, 41, #[]⟩, ⟨1, 39, 40, #[]⟩] 49 2 #[] #[⟨18, 11, 12, #[]⟩, ⟨18, 15, 12, #[]⟩, ⟨18, 18, 12, #[]⟩])
  fields := #[⟨"requestCount", .int, 18, 0, 0⟩, ⟨"networkCount", .int, 18, 1, 0⟩, ⟨"hitCount", .int, 18, 2, 0⟩]
  methods := #[k9m0, k9m1]
  instanceTypes := #[.int, .int, .int]
  staticTypes := #[]
  resolved := Array.replicate 47 none
  statics := none }

def pool10 : Array CpInfo := pool [(1, .class_ 2), (0, u "java/lang/Appendable"), (0, .class_ 4), (0, u "java/lang/Object")] 9

/-- java/lang/Appendable -/
def k10 : Class := { plain "java/lang/Appendable" (some 0) with
  accessFlags := 1537
  interfaces := #[]
  cf := some (fileOf pool10 1 #[] #[] 1537 3 #[] #[])
  fields := #[]
  methods := #[]
  instanceTypes := #[]
  staticTypes := #[]
  resolved := Array.replicate 14 none
  statics := none }

def pool11 : Array CpInfo := pool [(1, .class_ 2), (0, u "java/lang/String"), (0, .methodref 4 5), (0, .class_ 6), (0, .nameAndType 7 8), (0, u "java/lang/Object"), (0, u "<init>"), (0, u "()V"), (1, .class_ 12), (1, u "java/lang/AbstractStringBuilder"), (0, u "EMPTYVALUE"), (0, u "[B"), (0, .fieldref 10 16), (0, .nameAndType 17 14), (0, u "value"), (0, .fieldref 1 19), (0, .nameAndType 20 21), (0, u "COMPACT_STRINGS"), (0, u "Z"), (0, .fieldref 10 23), (0, .nameAndType 24 25), (0, u "coder"), (0, u "B"), (6, .methodref 1 33), (0, .nameAndType 34 35), (0, u "length"), (0, u "()I"), (0, .class_ 37), (0, u "java/lang/Integer"), (1, .integer 2147483647), (0, .methodref 1 41), (0, .nameAndType 24 42), (0, u "()B"), (2, u "append"), (0, u "(Ljava/lang/String;)Ljava/lang/AbstractStringBuilder;"), (1, .class_ 49), (0, u "java/lang/CharSequence"), (19, u "(Ljava/lang/String;)V"), (5, u "maybeLatin1"), (3, .fieldref 10 80), (0, .nameAndType 81 82), (0, u "count"), (0, u "I"), (0, .methodref 10 84), (0, .nameAndType 85 86), (0, u "isLatin1"), (0, u "()Z"), (13, .methodref 10 101), (0, .nameAndType 102 103), (0, u "ensureCapacityInternal"), (0, u "(I)V"), (0, .methodref 10 105), (0, .nameAndType 106 107), (0, u "newCapacity"), (0, u "(I)I"), (0, .methodref 109 110), (0, .class_ 111), (0, .nameAndType 112 113), (0, u "java/util/Arrays"), (0, u "copyOf"), (0, u "([BI)[B"), (0, .methodref 115 116), (0, .class_ 117), (0, .nameAndType 118 119), (0, u "jdk/internal/util/ArraysSupport"), (0, u "newLength"), (0, u "(III)I"), (68, u "getChars"), (19, .methodref 10 209), (0, .nameAndType 210 211), (0, u "putStringAt"), (0, u "(ILjava/lang/String;)V"), (5, u "inflateIfNeededFor"), (2, .nameAndType 221 222), (0, u "getBytes"), (0, u "([BIB)V"), (22, .methodref 36 246), (0, .nameAndType 247 107), (0, u "stringSize"), (0, .methodref 36 249), (0, .nameAndType 188 250), (0, u "(II[B)I"), (146, .methodref 10 398), (0, .nameAndType 217 69), (0, .methodref 1 220), (3, u "()[B"), (40, .class_ 445), (0, u "java/lang/Appendable"), (65, u "(I)Ljava/lang/AbstractStringBuilder;"), (40, u "getValue")] 56

def k11m0 : Method := { name := "<init>", desc := "()V", sig := { parameters := [], returnType := none }, accessFlags := 0, code := none }
def k11c1 : Code := { maxStack := 2, maxLocals := 2, code := jdk_68_method_2_code, exceptionTable := #[], attributes := #[] }
def k11m1 : Method := { name := "<init>", desc := "(I)V", sig := { parameters := [.int], returnType := none }, accessFlags := 0, code := some k11c1 }
def k11c2 : Code := { maxStack := 1, maxLocals := 1, code := jdk_68_method_6_code, exceptionTable := #[], attributes := #[] }
def k11m2 : Method := { name := "length", desc := "()I", sig := { parameters := [], returnType := some .int }, accessFlags := 1, code := some k11c2 }
def k11c3 : Code := { maxStack := 4, maxLocals := 3, code := jdk_68_method_9_code, exceptionTable := #[], attributes := #[] }
def k11m3 : Method := { name := "ensureCapacityInternal", desc := "(I)V", sig := { parameters := [.int], returnType := none }, accessFlags := 2, code := some k11c3 }
def k11c4 : Code := { maxStack := 5, maxLocals := 6, code := jdk_68_method_10_code, exceptionTable := #[], attributes := #[] }
def k11m4 : Method := { name := "newCapacity", desc := "(I)I", sig := { parameters := [.int], returnType := some .int }, accessFlags := 2, code := some k11c4 }
def k11c5 : Code := { maxStack := 3, maxLocals := 3, code := jdk_68_method_22_code, exceptionTable := #[], attributes := #[] }
def k11m5 : Method := { name := "append", desc := "(Ljava/lang/String;)Ljava/lang/AbstractStringBuilder;", sig := { parameters := [(.object "java/lang/String")], returnType := some (.object "java/lang/AbstractStringBuilder") }, accessFlags := 1, code := some k11c5 }
def k11c6 : Code := { maxStack := 4, maxLocals := 4, code := jdk_68_method_32_code, exceptionTable := #[], attributes := #[] }
def k11m6 : Method := { name := "append", desc := "(I)Ljava/lang/AbstractStringBuilder;", sig := { parameters := [.int], returnType := some (.object "java/lang/AbstractStringBuilder") }, accessFlags := 1, code := some k11c6 }
def k11c7 : Code := { maxStack := 1, maxLocals := 1, code := jdk_68_method_64_code, exceptionTable := #[], attributes := #[] }
def k11m7 : Method := { name := "getValue", desc := "()[B", sig := { parameters := [], returnType := some (.array .byte) }, accessFlags := 16, code := some k11c7 }
def k11c8 : Code := { maxStack := 1, maxLocals := 1, code := jdk_68_method_68_code, exceptionTable := #[], attributes := #[] }
def k11m8 : Method := { name := "isLatin1", desc := "()Z", sig := { parameters := [], returnType := some .boolean }, accessFlags := 16, code := some k11c8 }
def k11c9 : Code := { maxStack := 2, maxLocals := 2, code := jdk_68_method_71_code, exceptionTable := #[], attributes := #[] }
def k11m9 : Method := { name := "inflateIfNeededFor", desc := "(Ljava/lang/String;)V", sig := { parameters := [(.object "java/lang/String")], returnType := none }, accessFlags := 2, code := some k11c9 }
def k11c10 : Code := { maxStack := 4, maxLocals := 3, code := jdk_68_method_73_code, exceptionTable := #[], attributes := #[] }
def k11m10 : Method := { name := "putStringAt", desc := "(ILjava/lang/String;)V", sig := { parameters := [.int, (.object "java/lang/String")], returnType := none }, accessFlags := 2, code := some k11c10 }
/-- java/lang/AbstractStringBuilder -/
def k11 : Class := { plain "java/lang/AbstractStringBuilder" (some 0) with
  accessFlags := 1056
  interfaces := #[10, 4]
  cf := some (fileOf pool11 10 #[] #[⟨0, 7, 8, #[]⟩, ⟨0, 7, 103, #[]⟩, ⟨1, 34, 35, #[]⟩, ⟨2, 102, 103, #[]⟩, ⟨2, 106, 107, #[]⟩, ⟨1, 45, 46, #[]⟩, ⟨1, 45, 511, #[]⟩, ⟨16, 552, 403, #[]⟩, ⟨16, 85, 86, #[]⟩, ⟨2, 217, 69, #[]⟩, ⟨2, 210, 211, #[]⟩] 1056 4 #[444, 48] #[⟨0, 17, 14, #[]⟩, ⟨0, 24, 25, #[]⟩, ⟨0, 75, 21, #[]⟩, ⟨0, 81, 82, #[]⟩, ⟨26, 13, 14, #[]⟩])
  fields := #[⟨"value", (.array .byte), 0, 0, 0⟩, ⟨"coder", .byte, 0, 1, 0⟩, ⟨"maybeLatin1", .boolean, 0, 2, 0⟩, ⟨"count", .int, 0, 3, 0⟩, ⟨"EMPTYVALUE", (.array .byte), 26, 0, 0⟩]
  methods := #[k11m0, k11m1, k11m2, k11m3, k11m4, k11m5, k11m6, k11m7, k11m8, k11m9, k11m10]
  instanceTypes := #[(.array .byte), .byte, .boolean, .int]
  staticTypes := #[(.array .byte)]
  resolved := Array.replicate 609 none
  statics := none }

def pool12 : Array CpInfo := pool [(1, .methodref 2 3), (0, .class_ 4), (0, .nameAndType 5 6), (0, u "java/lang/AbstractStringBuilder"), (0, u "<init>"), (0, u "(I)V"), (11, .class_ 20), (1, u "java/lang/String"), (3, .class_ 26), (1, u "java/lang/StringBuilder"), (0, u "append"), (0, u "(Ljava/lang/String;)Ljava/lang/StringBuilder;"), (0, .methodref 2 30), (0, .nameAndType 27 31), (0, u "(Ljava/lang/String;)Ljava/lang/AbstractStringBuilder;"), (21, .methodref 2 54), (0, .nameAndType 27 55), (0, u "(I)Ljava/lang/AbstractStringBuilder;"), (81, .methodref 18 138), (0, .nameAndType 5 139), (0, u "(Ljava/lang/StringBuilder;)V"), (5, u "()V"), (10, u "()I"), (111, u "(I)Ljava/lang/StringBuilder;"), (74, .methodref 2 344), (0, .nameAndType 345 156), (0, u "length"), (3, .class_ 350), (0, u "java/lang/Appendable"), (0, .class_ 352), (0, u "java/io/Serializable"), (0, .class_ 354), (0, u "java/lang/Comparable"), (0, .class_ 356), (0, u "java/lang/CharSequence"), (0, u "serialVersionUID"), (0, u "J"), (40, u "toString"), (0, u "()Ljava/lang/String;")] 21

def k12c0 : Code := { maxStack := 2, maxLocals := 1, code := jdk_67_method_1_code, exceptionTable := #[], attributes := #[] }
def k12m0 : Method := { name := "<init>", desc := "()V", sig := { parameters := [], returnType := none }, accessFlags := 1, code := some k12c0 }
def k12c1 : Code := { maxStack := 2, maxLocals := 2, code := jdk_67_method_7_code, exceptionTable := #[], attributes := #[] }
def k12m1 : Method := { name := "append", desc := "(Ljava/lang/String;)Ljava/lang/StringBuilder;", sig := { parameters := [(.object "java/lang/String")], returnType := some (.object "java/lang/StringBuilder") }, accessFlags := 1, code := some k12c1 }
def k12c2 : Code := { maxStack := 2, maxLocals := 2, code := jdk_67_method_15_code, exceptionTable := #[], attributes := #[] }
def k12m2 : Method := { name := "append", desc := "(I)Ljava/lang/StringBuilder;", sig := { parameters := [.int], returnType := some (.object "java/lang/StringBuilder") }, accessFlags := 1, code := some k12c2 }
def k12c3 : Code := { maxStack := 3, maxLocals := 1, code := jdk_67_method_42_code, exceptionTable := #[], attributes := #[] }
def k12m3 : Method := { name := "toString", desc := "()Ljava/lang/String;", sig := { parameters := [], returnType := some (.object "java/lang/String") }, accessFlags := 1, code := some k12c3 }
def k12c4 : Code := { maxStack := 1, maxLocals := 1, code := jdk_67_method_93_code, exceptionTable := #[], attributes := #[] }
def k12m4 : Method := { name := "length", desc := "()I", sig := { parameters := [], returnType := some .int }, accessFlags := 4161, code := some k12c4 }
/-- java/lang/StringBuilder -/
def k12 : Class := { plain "java/lang/StringBuilder" (some 11) with
  accessFlags := 49
  interfaces := #[10, 2, 3, 4]
  cf := some (fileOf pool12 24 #[] #[⟨1, 5, 145, #[]⟩, ⟨1, 27, 28, #[]⟩, ⟨1, 27, 268, #[]⟩, ⟨1, 399, 400, #[]⟩, ⟨4161, 345, 156, #[]⟩] 49 2 #[349, 351, 353, 355] #[⟨24, 357, 358, #[]⟩])
  fields := #[⟨"serialVersionUID", .long, 24, 0, 0⟩]
  methods := #[k12m0, k12m1, k12m2, k12m3, k12m4]
  instanceTypes := #[(.array .byte), .byte, .boolean, .int]
  staticTypes := #[.long]
  resolved := Array.replicate 422 none
  statics := none }

def pool13 : Array CpInfo := pool [(9, u "<init>"), (6, .class_ 18), (1, u "java/lang/Object"), (0, u "()V"), (1, .class_ 23), (1, u "jdk/internal/util/ArraysSupport"), (0, u "LOG2_ARRAY_LONG_INDEX_SCALE"), (0, u "I"), (2, u "U"), (0, u "Ljdk/internal/misc/Unsafe;"), (8, u "BIG_ENDIAN"), (0, u "Z"), (8, u "LOG2_BYTE_BIT_SIZE"), (4, u "LOG2_ARRAY_INT_INDEX_SCALE"), (54, u "JLA"), (0, u "Ljdk/internal/access/JavaLangAccess;"), (11, u "LOG2_ARRAY_BOOLEAN_INDEX_SCALE"), (9, u "LOG2_ARRAY_BYTE_INDEX_SCALE"), (5, u "LOG2_ARRAY_CHAR_INDEX_SCALE"), (5, u "LOG2_ARRAY_SHORT_INDEX_SCALE"), (18, u "LOG2_ARRAY_FLOAT_INDEX_SCALE"), (24, u "LOG2_ARRAY_DOUBLE_INDEX_SCALE"), (6, .methodref 195 196), (0, .class_ 197), (0, .nameAndType 198 199), (0, u "java/lang/Math"), (0, u "max"), (0, u "(II)I"), (0, .integer 2147483639), (76, u "T_BOOLEAN"), (2, u "T_CHAR"), (1, u "T_FLOAT"), (1, u "T_DOUBLE"), (1, u "T_BYTE"), (1, u "T_SHORT"), (1, u "T_INT"), (1, u "T_LONG"), (1, u "SOFT_MAX_ARRAY_LENGTH"), (56, u "newLength"), (0, u "(III)I")] 25

def k13m0 : Method := { name := "<init>", desc := "()V", sig := { parameters := [], returnType := none }, accessFlags := 2, code := none }
def k13c1 : Code := { maxStack := 3, maxLocals := 4, code := jdk_48_method_27_code, exceptionTable := #[], attributes := #[] }
def k13m1 : Method := { name := "newLength", desc := "(III)I", sig := { parameters := [.int, .int, .int], returnType := some .int }, accessFlags := 9, code := some k13c1 }
/-- jdk/internal/util/ArraysSupport -/
def k13 : Class := { plain "jdk/internal/util/ArraysSupport" (some 0) with
  accessFlags := 33
  interfaces := #[]
  cf := some (fileOf pool13 21 #[] #[⟨2, 9, 19, #[]⟩, ⟨9, 351, 352, #[]⟩] 33 16 #[] #[⟨24, 28, 29, #[]⟩, ⟨26, 38, 39, #[]⟩, ⟨25, 121, 25, #[]⟩, ⟨25, 131, 25, #[]⟩, ⟨25, 137, 25, #[]⟩, ⟨25, 143, 25, #[]⟩, ⟨25, 53, 25, #[]⟩, ⟨25, 24, 25, #[]⟩, ⟨25, 162, 25, #[]⟩, ⟨25, 187, 25, #[]⟩, ⟨26, 48, 25, #[]⟩, ⟨25, 277, 25, #[]⟩, ⟨25, 280, 25, #[]⟩, ⟨25, 282, 25, #[]⟩, ⟨25, 284, 25, #[]⟩, ⟨25, 286, 25, #[]⟩, ⟨25, 288, 25, #[]⟩, ⟨25, 290, 25, #[]⟩, ⟨25, 292, 25, #[]⟩, ⟨26, 108, 109, #[]⟩, ⟨25, 294, 25, #[]⟩])
  fields := #[⟨"U", (.object "jdk/internal/misc/Unsafe"), 24, 0, 0⟩, ⟨"BIG_ENDIAN", .boolean, 26, 1, 0⟩, ⟨"LOG2_ARRAY_BOOLEAN_INDEX_SCALE", .int, 25, 2, 0⟩, ⟨"LOG2_ARRAY_BYTE_INDEX_SCALE", .int, 25, 3, 0⟩, ⟨"LOG2_ARRAY_CHAR_INDEX_SCALE", .int, 25, 4, 0⟩, ⟨"LOG2_ARRAY_SHORT_INDEX_SCALE", .int, 25, 5, 0⟩, ⟨"LOG2_ARRAY_INT_INDEX_SCALE", .int, 25, 6, 0⟩, ⟨"LOG2_ARRAY_LONG_INDEX_SCALE", .int, 25, 7, 0⟩, ⟨"LOG2_ARRAY_FLOAT_INDEX_SCALE", .int, 25, 8, 0⟩, ⟨"LOG2_ARRAY_DOUBLE_INDEX_SCALE", .int, 25, 9, 0⟩, ⟨"LOG2_BYTE_BIT_SIZE", .int, 26, 10, 0⟩, ⟨"T_BOOLEAN", .int, 25, 11, 0⟩, ⟨"T_CHAR", .int, 25, 12, 0⟩, ⟨"T_FLOAT", .int, 25, 13, 0⟩, ⟨"T_DOUBLE", .int, 25, 14, 0⟩, ⟨"T_BYTE", .int, 25, 15, 0⟩, ⟨"T_SHORT", .int, 25, 16, 0⟩, ⟨"T_INT", .int, 25, 17, 0⟩, ⟨"T_LONG", .int, 25, 18, 0⟩, ⟨"JLA", (.object "jdk/internal/access/JavaLangAccess"), 26, 19, 0⟩, ⟨"SOFT_MAX_ARRAY_LENGTH", .int, 25, 20, 0⟩]
  methods := #[k13m0, k13m1]
  instanceTypes := #[]
  staticTypes := #[(.object "jdk/internal/misc/Unsafe"), .boolean, .int, .int, .int, .int, .int, .int, .int, .int, .int, .int, .int, .int, .int, .int, .int, .int, .int, (.object "jdk/internal/access/JavaLangAccess"), .int]
  resolved := Array.replicate 378 none
  statics := none }

def pool14 : Array CpInfo := pool [(1, .class_ 2), (0, u "java/lang/Math"), (1, .class_ 6), (1, u "java/lang/Object"), (0, u "<init>"), (0, u "()V"), (89, .class_ 100), (1, u "java/lang/Math$RandomNumberGeneratorHolder"), (71, u "negativeZeroFloatBits"), (0, u "J"), (2, u "negativeZeroDoubleBits"), (21, u "max"), (2, u "min"), (43, u "$assertionsDisabled"), (0, u "Z"), (88, u "(II)I"), (2, u "twoToTheDoubleScaleDown"), (0, u "D"), (4, u "twoToTheDoubleScaleUp"), (9, u "E"), (3, u "PI"), (2, u "TAU"), (2, u "DEGREES_TO_RADIANS"), (0, u "RADIANS_TO_DEGREES")] 94

def k14m0 : Method := { name := "<init>", desc := "()V", sig := { parameters := [], returnType := none }, accessFlags := 2, code := none }
def k14c1 : Code := { maxStack := 2, maxLocals := 2, code := jdk_29_method_65_code, exceptionTable := #[], attributes := #[] }
def k14m1 : Method := { name := "max", desc := "(II)I", sig := { parameters := [.int, .int], returnType := some .int }, accessFlags := 9, code := some k14c1 }
def k14c2 : Code := { maxStack := 2, maxLocals := 2, code := jdk_29_method_69_code, exceptionTable := #[], attributes := #[] }
def k14m2 : Method := { name := "min", desc := "(II)I", sig := { parameters := [.int, .int], returnType := some .int }, accessFlags := 9, code := some k14c2 }
/-- java/lang/Math -/
def k14 : Class := { plain "java/lang/Math" (some 0) with
  accessFlags := 49
  interfaces := #[]
  cf := some (fileOf pool14 1 #[.nestMembers #[98]] #[⟨2, 7, 8, #[]⟩, ⟨9, 198, 335, #[]⟩, ⟨9, 201, 335, #[]⟩] 49 4 #[] #[⟨25, 354, 339, #[]⟩, ⟨25, 358, 339, #[]⟩, ⟨25, 361, 339, #[]⟩, ⟨26, 364, 339, #[]⟩, ⟨26, 365, 339, #[]⟩, ⟨26, 172, 173, #[]⟩, ⟨26, 176, 173, #[]⟩, ⟨8, 344, 339, #[]⟩, ⟨8, 338, 339, #[]⟩, ⟨4120, 245, 246, #[]⟩])
  fields := #[⟨"E", .double, 25, 0, 0⟩, ⟨"PI", .double, 25, 1, 0⟩, ⟨"TAU", .double, 25, 2, 0⟩, ⟨"DEGREES_TO_RADIANS", .double, 26, 3, 0⟩, ⟨"RADIANS_TO_DEGREES", .double, 26, 4, 0⟩, ⟨"negativeZeroFloatBits", .long, 26, 5, 0⟩, ⟨"negativeZeroDoubleBits", .long, 26, 6, 0⟩, ⟨"twoToTheDoubleScaleUp", .double, 8, 7, 0⟩, ⟨"twoToTheDoubleScaleDown", .double, 8, 8, 0⟩, ⟨"$assertionsDisabled", .boolean, 4120, 9, 0⟩]
  methods := #[k14m0, k14m1, k14m2]
  instanceTypes := #[]
  staticTypes := #[.double, .double, .double, .double, .double, .long, .long, .double, .double, .boolean]
  resolved := Array.replicate 460 none
  statics := none }

def pool15 : Array CpInfo := pool [(2, .class_ 4), (1, u "java/lang/Object"), (0, u "<init>"), (0, u "()V"), (7, .class_ 16), (1, u "java/util/Arrays"), (57, .class_ 76), (1, u "java/util/Arrays$NaturalOrder"), (32, u "()Ljava/lang/Object;"), (3, .class_ 115), (1, u "java/util/Arrays$LegacyMergeSort"), (1, u "Z"), (10, .nameAndType 129 109), (0, u "clone"), (9, u "copyOfRange"), (10, .methodref 151 152), (0, .class_ 153), (0, .nameAndType 154 155), (0, u "java/lang/System"), (0, u "arraycopy"), (0, u "(Ljava/lang/Object;ILjava/lang/Object;II)V"), (146, u "copyOf"), (1, .methodref 305 306), (0, .class_ 307), (0, .nameAndType 308 309), (0, u "java/lang/Math"), (0, u "min"), (0, u "(II)I"), (0, .methodref 311 128), (0, .class_ 312), (0, u "[B"), (26, .methodref 14 340), (0, .nameAndType 341 342), (0, u "copyOfRangeByte"), (0, u "([BII)[B"), (0, .methodref 14 344), (0, .nameAndType 345 346), (0, u "checkLength"), (0, u "(II)V"), (28, .class_ 376), (0, u "java/util/Arrays$ArrayList"), (68, u "$assertionsDisabled"), (269, u "MIN_ARRAY_SORT_GRAN"), (0, u "I"), (2, u "INSERTIONSORT_THRESHOLD"), (149, u "([BI)[B"), (105, .class_ 976), (0, u "java/util/Arrays$ArrayItr")] 52

def k15m0 : Method := { name := "<init>", desc := "()V", sig := { parameters := [], returnType := none }, accessFlags := 2, code := none }
def k15c1 : Code := { maxStack := 6, maxLocals := 3, code := jdk_65_method_121_code, exceptionTable := #[], attributes := #[] }
def k15m1 : Method := { name := "copyOf", desc := "([BI)[B", sig := { parameters := [(.array .byte), .int], returnType := some (.array .byte) }, accessFlags := 9, code := some k15c1 }
def k15c2 : Code := { maxStack := 4, maxLocals := 2, code := jdk_65_method_131_code, exceptionTable := #[], attributes := #[] }
def k15m2 : Method := { name := "checkLength", desc := "(II)V", sig := { parameters := [.int, .int], returnType := none }, accessFlags := 10, code := some k15c2 }
def k15c3 : Code := { maxStack := 3, maxLocals := 3, code := jdk_65_method_132_code, exceptionTable := #[], attributes := #[] }
def k15m3 : Method := { name := "copyOfRange", desc := "([BII)[B", sig := { parameters := [(.array .byte), .int, .int], returnType := some (.array .byte) }, accessFlags := 9, code := some k15c3 }
def k15c4 : Code := { maxStack := 6, maxLocals := 5, code := jdk_65_method_133_code, exceptionTable := #[], attributes := #[] }
def k15m4 : Method := { name := "copyOfRangeByte", desc := "([BII)[B", sig := { parameters := [(.array .byte), .int, .int], returnType := some (.array .byte) }, accessFlags := 10, code := some k15c4 }
/-- java/util/Arrays -/
def k15 : Class := { plain "java/util/Arrays" (some 0) with
  accessFlags := 49
  interfaces := #[]
  cf := some (fileOf pool15 14 #[.nestMembers #[975, 375, 113, 74]] #[⟨2, 5, 6, #[]⟩, ⟨9, 302, 869, #[]⟩, ⟨10, 345, 346, #[]⟩, ⟨9, 139, 342, #[]⟩, ⟨10, 341, 342, #[]⟩] 49 2 #[] #[⟨26, 715, 716, #[]⟩, ⟨26, 719, 716, #[]⟩, ⟨4120, 445, 117, #[]⟩])
  fields := #[⟨"MIN_ARRAY_SORT_GRAN", .int, 26, 0, 0⟩, ⟨"INSERTIONSORT_THRESHOLD", .int, 26, 1, 0⟩, ⟨"$assertionsDisabled", .boolean, 4120, 2, 0⟩]
  methods := #[k15m0, k15m1, k15m2, k15m3, k15m4]
  instanceTypes := #[]
  staticTypes := #[.int, .int, .boolean]
  resolved := Array.replicate 1029 none
  statics := none }

def pool16 : Array CpInfo := pool [(2, .class_ 4), (1, u "java/lang/Object"), (0, u "<init>"), (0, u "()V"), (1, .class_ 10), (1, u "java/lang/System"), (0, u "allowSecurityManager"), (0, u "I"), (16, u "cons"), (0, u "Ljava/io/Console;"), (77, .class_ 110), (1, u "java/lang/System$CallersHolder"), (43, u "initialErrStream"), (0, u "Ljava/io/PrintStream;"), (19, u "security"), (0, u "Ljava/lang/SecurityManager;"), (31, .class_ 209), (0, u "java/lang/System$1"), (7, u "props"), (0, u "Ljava/util/Properties;"), (2, u "lineSeparator"), (0, u "Ljava/lang/String;"), (96, .class_ 321), (1, u "java/lang/System$LoggerFinder"), (5, .class_ 328), (0, u "java/lang/System$Logger"), (67, u "err"), (2, u "out"), (91, u "notSupportedJnuEncoding"), (15, u "in"), (17, u "initialIn"), (0, u "Ljava/io/InputStream;"), (35, u "bootLayer"), (0, u "Ljava/lang/ModuleLayer;"), (99, .class_ 664), (0, u "java/lang/System$2"), (9, u "NEVER"), (2, u "MAYBE"), (49, u "arraycopy"), (0, u "(Ljava/lang/Object;ILjava/lang/Object;II)V"), (72, .class_ 802), (0, u "java/lang/System$Logger$Level")] 31

def k16m0 : Method := { name := "<init>", desc := "()V", sig := { parameters := [], returnType := none }, accessFlags := 2, code := none }
def k16m1 : Method := { name := "arraycopy", desc := "(Ljava/lang/Object;ILjava/lang/Object;II)V", sig := { parameters := [(.object "java/lang/Object"), .int, (.object "java/lang/Object"), .int, .int], returnType := none }, accessFlags := 265, code := none }
/-- java/lang/System -/
def k16 : Class := { plain "java/lang/System" (some 0) with
  accessFlags := 49
  interfaces := #[]
  cf := some (fileOf pool16 8 #[.nestMembers #[319, 327, 801, 108, 663, 208]] #[⟨2, 5, 6, #[]⟩, ⟨265, 727, 728, #[]⟩] 49 2 #[] #[⟨25, 507, 526, #[]⟩, ⟨25, 399, 155, #[]⟩, ⟨25, 396, 155, #[]⟩, ⟨10, 525, 526, #[]⟩, ⟨26, 674, 12, #[]⟩, ⟨26, 677, 12, #[]⟩, ⟨10, 11, 12, #[]⟩, ⟨74, 175, 176, #[]⟩, ⟨10, 491, 222, #[]⟩, ⟨74, 29, 30, #[]⟩, ⟨74, 154, 155, #[]⟩, ⟨10, 217, 218, #[]⟩, ⟨10, 221, 222, #[]⟩, ⟨8, 562, 563, #[]⟩])
  fields := #[⟨"in", (.object "java/io/InputStream"), 25, 0, 0⟩, ⟨"out", (.object "java/io/PrintStream"), 25, 1, 0⟩, ⟨"err", (.object "java/io/PrintStream"), 25, 2, 0⟩, ⟨"initialIn", (.object "java/io/InputStream"), 10, 3, 0⟩, ⟨"NEVER", .int, 26, 4, 0⟩, ⟨"MAYBE", .int, 26, 5, 0⟩, ⟨"allowSecurityManager", .int, 10, 6, 0⟩, ⟨"security", (.object "java/lang/SecurityManager"), 74, 7, 0⟩, ⟨"notSupportedJnuEncoding", (.object "java/lang/String"), 10, 8, 0⟩, ⟨"cons", (.object "java/io/Console"), 74, 9, 0⟩, ⟨"initialErrStream", (.object "java/io/PrintStream"), 74, 10, 0⟩, ⟨"props", (.object "java/util/Properties"), 10, 11, 0⟩, ⟨"lineSeparator", (.object "java/lang/String"), 10, 12, 0⟩, ⟨"bootLayer", (.object "java/lang/ModuleLayer"), 8, 13, 0⟩]
  methods := #[k16m0, k16m1]
  instanceTypes := #[]
  staticTypes := #[(.object "java/io/InputStream"), (.object "java/io/PrintStream"), (.object "java/io/PrintStream"), (.object "java/io/InputStream"), .int, .int, .int, (.object "java/lang/SecurityManager"), (.object "java/lang/String"), (.object "java/io/Console"), (.object "java/io/PrintStream"), (.object "java/util/Properties"), (.object "java/lang/String"), (.object "java/lang/ModuleLayer")]
  resolved := Array.replicate 834 none
  statics := none }

def pool17 : Array CpInfo := pool [(2, .class_ 4), (1, u "java/lang/Object"), (0, u "<init>"), (0, u "()V"), (1, .class_ 10), (1, u "java/lang/Number"), (2, .class_ 14), (0, u "java/io/Serializable"), (0, u "serialVersionUID"), (0, u "J")] 20

def k17m0 : Method := { name := "<init>", desc := "()V", sig := { parameters := [], returnType := none }, accessFlags := 1, code := none }
/-- java/lang/Number -/
def k17 : Class := { plain "java/lang/Number" (some 0) with
  accessFlags := 1057
  interfaces := #[2]
  cf := some (fileOf pool17 8 #[] #[⟨1, 5, 6, #[]⟩] 1057 2 #[13] #[⟨26, 15, 16, #[]⟩])
  fields := #[⟨"serialVersionUID", .long, 26, 0, 0⟩]
  methods := #[k17m0]
  instanceTypes := #[]
  staticTypes := #[.long]
  resolved := Array.replicate 37 none
  statics := none }

def pool18 : Array CpInfo := pool [(1, .class_ 2), (0, u "java/lang/Integer"), (16, u "digits"), (0, u "[C"), (33, u "(I)I"), (19, u "stringSize"), (2, u "getChars"), (0, u "(II[B)I"), (4, .fieldref 1 84), (0, .nameAndType 85 86), (0, u "DigitOnes"), (0, u "[B"), (0, .fieldref 1 88), (0, .nameAndType 89 86), (0, u "DigitTens"), (99, .class_ 190), (0, u "java/lang/Integer$IntegerCache"), (3, u "I"), (8, .class_ 204), (0, u "java/lang/Number"), (2, u "value"), (94, u "TYPE"), (0, u "Ljava/lang/Class;"), (0, .class_ 305), (0, u "java/lang/Comparable"), (0, .class_ 307), (0, u "java/lang/constant/Constable"), (0, .class_ 309), (0, u "java/lang/constant/ConstantDesc"), (0, u "MIN_VALUE"), (1, u "MAX_VALUE"), (3, u "SIZE"), (1, u "BYTES"), (1, u "serialVersionUID"), (0, u "J")] 131

def k18c0 : Code := { maxStack := 4, maxLocals := 7, code := jdk_33_method_12_code, exceptionTable := #[], attributes := #[] }
def k18m0 : Method := { name := "getChars", desc := "(II[B)I", sig := { parameters := [.int, .int, (.array .byte)], returnType := some .int }, accessFlags := 8, code := some k18c0 }
def k18c1 : Code := { maxStack := 2, maxLocals := 4, code := jdk_33_method_13_code, exceptionTable := #[], attributes := #[] }
def k18m1 : Method := { name := "stringSize", desc := "(I)I", sig := { parameters := [.int], returnType := some .int }, accessFlags := 8, code := some k18c1 }
/-- java/lang/Integer -/
def k18 : Class := { plain "java/lang/Integer" (some 17) with
  accessFlags := 49
  interfaces := #[3, 5, 6]
  cf := some (fileOf pool18 1 #[.nestMembers #[189]] #[⟨8, 77, 78, #[]⟩, ⟨8, 74, 54, #[]⟩] 49 203 #[304, 306, 308] #[⟨25, 310, 194, #[]⟩, ⟨25, 312, 194, #[]⟩, ⟨25, 302, 303, #[]⟩, ⟨24, 19, 20, #[]⟩, ⟨24, 89, 86, #[]⟩, ⟨24, 85, 86, #[]⟩, ⟨18, 207, 194, #[]⟩, ⟨25, 316, 194, #[]⟩, ⟨25, 318, 194, #[]⟩, ⟨26, 320, 321, #[]⟩])
  fields := #[⟨"MIN_VALUE", .int, 25, 0, 0⟩, ⟨"MAX_VALUE", .int, 25, 1, 0⟩, ⟨"TYPE", (.object "java/lang/Class"), 25, 2, 0⟩, ⟨"digits", (.array .char), 24, 3, 0⟩, ⟨"DigitTens", (.array .byte), 24, 4, 0⟩, ⟨"DigitOnes", (.array .byte), 24, 5, 0⟩, ⟨"value", .int, 18, 0, 0⟩, ⟨"SIZE", .int, 25, 6, 0⟩, ⟨"BYTES", .int, 25, 7, 0⟩, ⟨"serialVersionUID", .long, 26, 8, 0⟩]
  methods := #[k18m0, k18m1]
  instanceTypes := #[.int]
  staticTypes := #[.int, .int, (.object "java/lang/Class"), (.array .char), (.array .byte), (.array .byte), .int, .int, .long]
  resolved := Array.replicate 453 none
  statics := some 1 }

def pool19 : Array CpInfo := pool [(4, .class_ 6), (1, u "java/lang/Object"), (0, u "<init>"), (0, u "()V"), (5, .class_ 16), (1, u "java/lang/StringLatin1"), (104, u "$assertionsDisabled"), (0, u "Z"), (98, .class_ 223), (1, u "java/lang/StringLatin1$LinesSpliterator"), (57, u "equals"), (0, u "([B[B)Z"), (107, .class_ 391), (0, u "java/lang/StringLatin1$CharsSpliterator")] 3

def k19m0 : Method := { name := "<init>", desc := "()V", sig := { parameters := [], returnType := none }, accessFlags := 0, code := none }
def k19c1 : Code := { maxStack := 3, maxLocals := 3, code := jdk_43_method_13_code, exceptionTable := #[], attributes := #[] }
def k19m1 : Method := { name := "equals", desc := "([B[B)Z", sig := { parameters := [(.array .byte), (.array .byte)], returnType := some .boolean }, accessFlags := 9, code := some k19c1 }
/-- java/lang/StringLatin1 -/
def k19 : Class := { plain "java/lang/StringLatin1" (some 0) with
  accessFlags := 48
  interfaces := #[]
  cf := some (fileOf pool19 14 #[.nestMembers #[390, 221]] #[⟨0, 7, 8, #[]⟩, ⟨9, 281, 282, #[]⟩] 48 4 #[] #[⟨4120, 121, 122, #[]⟩])
  fields := #[⟨"$assertionsDisabled", .boolean, 4120, 0, 0⟩]
  methods := #[k19m0, k19m1]
  instanceTypes := #[]
  staticTypes := #[.boolean]
  resolved := Array.replicate 395 none
  statics := none }

def pool20 : Array CpInfo := pool [(1, .class_ 2), (0, u "java/lang/Cloneable"), (0, .class_ 4), (0, u "java/lang/Object")] 2

/-- java/lang/Cloneable -/
def k20 : Class := { plain "java/lang/Cloneable" (some 0) with
  accessFlags := 1537
  interfaces := #[]
  cf := some (fileOf pool20 1 #[] #[] 1537 3 #[] #[])
  fields := #[]
  methods := #[]
  instanceTypes := #[]
  staticTypes := #[]
  resolved := Array.replicate 7 none
  statics := none }

def pool21 : Array CpInfo := pool [(2, .class_ 4), (1, u "java/lang/Object"), (0, u "<init>"), (0, u "()V"), (17, .class_ 26), (1, u "jdk/internal/util/Preconditions"), (28, .class_ 56), (0, u "jdk/internal/util/Preconditions$4"), (57, .class_ 115), (0, u "jdk/internal/util/Preconditions$1"), (7, u "SIOOBE_FORMATTER"), (0, u "Ljava/util/function/BiFunction;"), (0, .class_ 126), (0, u "jdk/internal/util/Preconditions$2"), (3, u "AIOOBE_FORMATTER"), (0, .class_ 132), (0, u "jdk/internal/util/Preconditions$3"), (3, u "IOOBE_FORMATTER")] 57

def k21m0 : Method := { name := "<init>", desc := "()V", sig := { parameters := [], returnType := none }, accessFlags := 1, code := none }
/-- jdk/internal/util/Preconditions -/
def k21 : Class := { plain "jdk/internal/util/Preconditions" (some 0) with
  accessFlags := 33
  interfaces := #[]
  cf := some (fileOf pool21 24 #[.nestMembers #[55, 131, 125, 114]] #[⟨1, 5, 6, #[]⟩] 33 2 #[] #[⟨25, 123, 124, #[]⟩, ⟨25, 130, 124, #[]⟩, ⟨25, 136, 124, #[]⟩])
  fields := #[⟨"SIOOBE_FORMATTER", (.object "java/util/function/BiFunction"), 25, 0, 0⟩, ⟨"AIOOBE_FORMATTER", (.object "java/util/function/BiFunction"), 25, 1, 0⟩, ⟨"IOOBE_FORMATTER", (.object "java/util/function/BiFunction"), 25, 2, 0⟩]
  methods := #[k21m0]
  instanceTypes := #[]
  staticTypes := #[(.object "java/util/function/BiFunction"), (.object "java/util/function/BiFunction"), (.object "java/util/function/BiFunction")]
  resolved := Array.replicate 194 none
  statics := some 2 }

/-- the primitive byte -/
def k22 : Class := { plain "byte" none with kind := .primitive 'B', accessFlags := 0x411 }
/-- [B -/
def k23 : Class := { plain "[B" (some 0) with kind := .array 22 .byte, interfaces := #[20, 2], accessFlags := 1041 }

/-- the primitive char -/
def k24 : Class := { plain "char" none with kind := .primitive 'C', accessFlags := 0x411 }
/-- [C -/
def k25 : Class := { plain "[C" (some 0) with kind := .array 24 .char, interfaces := #[20, 2], accessFlags := 1041 }

/-- the primitive int -/
def k26 : Class := { plain "int" none with kind := .primitive 'I', accessFlags := 0x411 }
/-- [I -/
def k27 : Class := { plain "[I" (some 0) with kind := .array 26 .int, interfaces := #[20, 2], accessFlags := 1041 }

def heap : Heap := #[{ cls := 7, slots := #[.long 0, .int 1, .null, .int 0, .null, .int 0, .int 0], vm := .statics 7 },
  { cls := 18, slots := #[.int 0, .int 0, .null, .null, .ref 4, .ref 3, .int 0, .int 0, .long 0], vm := .statics 18 },
  { cls := 21, slots := #[.null, .null, .null], vm := .statics 21 },
  { cls := 23, slots := #[.int 48, .int 49, .int 50, .int 51, .int 52, .int 53, .int 54, .int 55, .int 56, .int 57, .int 48, .int 49, .int 50, .int 51, .int 52, .int 53, .int 54, .int 55, .int 56, .int 57, .int 48, .int 49, .int 50, .int 51, .int 52, .int 53, .int 54, .int 55, .int 56, .int 57, .int 48, .int 49, .int 50, .int 51, .int 52, .int 53, .int 54, .int 55, .int 56, .int 57, .int 48, .int 49, .int 50, .int 51, .int 52, .int 53, .int 54, .int 55, .int 56, .int 57, .int 48, .int 49, .int 50, .int 51, .int 52, .int 53, .int 54, .int 55, .int 56, .int 57, .int 48, .int 49, .int 50, .int 51, .int 52, .int 53, .int 54, .int 55, .int 56, .int 57, .int 48, .int 49, .int 50, .int 51, .int 52, .int 53, .int 54, .int 55, .int 56, .int 57, .int 48, .int 49, .int 50, .int 51, .int 52, .int 53, .int 54, .int 55, .int 56, .int 57, .int 48, .int 49, .int 50, .int 51, .int 52, .int 53, .int 54, .int 55, .int 56, .int 57], vm := .none },
  { cls := 23, slots := #[.int 48, .int 48, .int 48, .int 48, .int 48, .int 48, .int 48, .int 48, .int 48, .int 48, .int 49, .int 49, .int 49, .int 49, .int 49, .int 49, .int 49, .int 49, .int 49, .int 49, .int 50, .int 50, .int 50, .int 50, .int 50, .int 50, .int 50, .int 50, .int 50, .int 50, .int 51, .int 51, .int 51, .int 51, .int 51, .int 51, .int 51, .int 51, .int 51, .int 51, .int 52, .int 52, .int 52, .int 52, .int 52, .int 52, .int 52, .int 52, .int 52, .int 52, .int 53, .int 53, .int 53, .int 53, .int 53, .int 53, .int 53, .int 53, .int 53, .int 53, .int 54, .int 54, .int 54, .int 54, .int 54, .int 54, .int 54, .int 54, .int 54, .int 54, .int 55, .int 55, .int 55, .int 55, .int 55, .int 55, .int 55, .int 55, .int 55, .int 55, .int 56, .int 56, .int 56, .int 56, .int 56, .int 56, .int 56, .int 56, .int 56, .int 56, .int 57, .int 57, .int 57, .int 57, .int 57, .int 57, .int 57, .int 57, .int 57, .int 57], vm := .none }]
def classes : Array Class := #[k0, k1, k2, k3, k4, k5, k6, k7, k8, k9, k10, k11, k12, k13, k14, k15, k16, k17, k18, k19, k20, k21, k22, k23, k24, k25, k26, k27]
def interned : List (Array UInt16 × Addr) := []
def slotsUsed : Nat := 219
def theMethod : MethodId := ⟨1, 4⟩
def args0 : Array Value := #[.int 5, .int 6, .int 7]
def aboutOver (below : List Frame) : State where
  vm := { classes := classes, interned := interned.toArray }
  heap := heap
  slotsUsed := slotsUsed
  threads := #[{ frames := .invoking theMethod args0 :: below }]
def below0 : List Frame := [.native { method := ⟨0, 0⟩, args := #[] }]
def about1 : State := aboutOver below0
def p0 : Program := .bare "" "" ""
def e0 : Env := launch0.env 0 0 0
theorem w_frames : about1.frames = Frame.invoking theMethod args0 :: below0 := rfl
set_option maxRecDepth 65536 in
theorem w_args : argsFit about1.vm theMethod args0 = true := by decide +kernel
set_option maxRecDepth 65536 in
theorem w_heap : heapFits about1 = true := by decide +kernel
set_option maxRecDepth 65536 in
theorem w_runnable : about1.curStatus? = some .runnable := by decide +kernel
set_option maxRecDepth 65536 in
theorem w_alone : about1.alone = true := by decide +kernel
set_option maxRecDepth 65536 in
theorem w_named : about1.methodNamed? x = some theMethod := by decide +kernel
set_option maxRecDepth 65536 in
theorem w_hears : about1.hears theMethod below0 = true := by decide +kernel
set_option maxRecDepth 65536 in
theorem w_ripe : about1.ripe theMethod args0 below0 = true := by decide +kernel
theorem w_running : about1.status = .running := rfl
set_option maxRecDepth 65536 in
theorem w_room : about1.hasRoom e0.platform room_1 = true :=
  launch0.hasRoom_least _ room_1 (by decide +kernel) (by decide +kernel) (by decide +kernel) (by decide +kernel) (by decide +kernel) (by decide +kernel)
theorem allAtoms_all (ts : List Jvm.Cond) (a : Array Jvm.Value) (st : Jvm.State) : (allAtoms ts).before a st = ts.all (fun c => c.before a st) := by
  induction ts with
  | nil => rfl
  | cons c t ih =>
    show (Jvm.Cond.and c (allAtoms t)).before a st = _
    rw [Jvm.Cond.before_and, ih, List.all_cons]
def words1 : List Jvm.Cond := Jvm.Cond.code x code maxLocals ret :: tables_1
/-- a 'code' word, met by the world's own term for the bytes: nothing is compared byte by byte -/
theorem code_word {y : MethodName} {bytes : ByteArray} {mx : Nat} {rt : Option FieldType} {a : Array Value} {s : State} {m : MethodId} {meth : Method} {c : Code} (h1 : s.methodNamed? y = some m) (h2 : s.vm.method? m = some meth) (h3 : meth.code = some c) (h4 : c.code = bytes)
    (h5 : (c.maxLocals == mx && c.exceptionTable.isEmpty && decide (c.maxStack ≤ mostOperands) && decide (meth.sig.returnType = rt) && !meth.locks && decide (parseMethodDescriptor y.desc = some meth.sig)) = true) : (Jvm.Cond.code y bytes mx rt).before a s = true := by
  simp only [Bool.and_eq_true, beq_iff_eq, Bool.not_eq_true', decide_eq_true_eq] at h5
  obtain ⟨⟨⟨⟨⟨g1, g2⟩, g3⟩, g4⟩, g5⟩, g6⟩ := h5
  simp [Cond.before, Cond.holds, Cond.value, h1, h2, h3, h4, g1, g2, g3, g4, g5, g6]
def isCode : Jvm.Cond → Bool
  | .code _ _ _ _ => true
  | _ => false
theorem all_split {L : List Jvm.Cond} {P : Jvm.Cond → Bool} (h1 : L.all (fun c => isCode c || P c) = true) (h2 : ∀ c ∈ L.filter isCode, P c = true) : L.all P = true := by
  refine List.all_eq_true.mpr fun c hc => ?_
  have h := List.all_eq_true.mp h1 c hc
  rcases Bool.eq_false_or_eq_true (isCode c) with hi | hi
  · exact h2 c (List.mem_filter.mpr ⟨hc, hi⟩)
  · simpa [hi] using h
set_option maxRecDepth 65536 in
theorem w_c0 : (Jvm.Cond.code x code maxLocals ret).before args0 about1 = true := code_word (m := ⟨1, 4⟩) (meth := k1m4) (c := k1c4) (by decide +kernel) rfl rfl rfl (by decide +kernel)
set_option maxRecDepth 65536 in
theorem w_c1 : (Jvm.Cond.code Y1_ method_3_code (3 : Nat) (Option.some Jvm.ClassFile.FieldType.int)).before args0 about1 = true := code_word (m := ⟨1, 2⟩) (meth := k1m2) (c := k1c2) (by decide +kernel) rfl rfl rfl (by decide +kernel)
set_option maxRecDepth 65536 in
theorem w_c2 : (Jvm.Cond.code Y0_ method_2_code (2 : Nat) (Option.some Jvm.ClassFile.FieldType.int)).before args0 about1 = true := code_word (m := ⟨1, 1⟩) (meth := k1m1) (c := k1c1) (by decide +kernel) rfl rfl rfl (by decide +kernel)
set_option maxRecDepth 65536 in
theorem w_c3 : (Jvm.Cond.code Y2_ method_4_code (8 : Nat) (Option.some Jvm.ClassFile.FieldType.int)).before args0 about1 = true := code_word (m := ⟨1, 3⟩) (meth := k1m3) (c := k1c3) (by decide +kernel) rfl rfl rfl (by decide +kernel)
set_option maxRecDepth 65536 in
theorem w_c4 : (Jvm.Cond.code Y34_ jdk_42_method_3_code (2 : Nat) (Option.none : Option Jvm.ClassFile.FieldType)).before args0 about1 = true := code_word (m := ⟨7, 1⟩) (meth := k7m1) (c := k7c1) (by decide +kernel) rfl rfl rfl (by decide +kernel)
set_option maxRecDepth 65536 in
theorem w_c5 : (Jvm.Cond.code (⟨"java/lang/String", "<init>", "([CIILjava/lang/Void;)V"⟩ : Jvm.MethodName) jdk_42_method_149_code (6 : Nat) (Option.none : Option Jvm.ClassFile.FieldType)).before args0 about1 = true := code_word (m := ⟨7, 6⟩) (meth := k7m6) (c := k7c6) (by decide +kernel) rfl rfl rfl (by decide +kernel)
set_option maxRecDepth 65536 in
theorem w_c6 : (Jvm.Cond.code (⟨"java/lang/Object", "<init>", "()V"⟩ : Jvm.MethodName) object_method_1_code (1 : Nat) (Option.none : Option Jvm.ClassFile.FieldType)).before args0 about1 = true := code_word (m := ⟨0, 0⟩) (meth := k0m0) (c := k0c0) (by decide +kernel) rfl rfl rfl (by decide +kernel)
set_option maxRecDepth 65536 in
theorem w_c7 : (Jvm.Cond.code (⟨"java/lang/StringUTF16", "compress", "([CII)[B"⟩ : Jvm.MethodName) jdk_52_method_16_code (6 : Nat) (Option.some (Jvm.ClassFile.FieldType.array Jvm.ClassFile.FieldType.byte))).before args0 about1 = true := code_word (m := ⟨8, 2⟩) (meth := k8m2) (c := k8c2) (by decide +kernel) rfl rfl rfl (by decide +kernel)
set_option maxRecDepth 65536 in
theorem w_c8 : (Jvm.Cond.code (⟨"java/lang/StringUTF16", "compress", "([CI[BII)I"⟩ : Jvm.MethodName) jdk_52_method_21_code (7 : Nat) (Option.some Jvm.ClassFile.FieldType.int)).before args0 about1 = true := code_word (m := ⟨8, 3⟩) (meth := k8m3) (c := k8c3) (by decide +kernel) rfl rfl rfl (by decide +kernel)
set_option maxRecDepth 65536 in
theorem w_c9 : (Jvm.Cond.code (⟨"java/lang/StringUTF16", "coderFromArrayLen", "([BI)B"⟩ : Jvm.MethodName) jdk_52_method_15_code (2 : Nat) (Option.some Jvm.ClassFile.FieldType.byte)).before args0 about1 = true := code_word (m := ⟨8, 1⟩) (meth := k8m1) (c := k8c1) (by decide +kernel) rfl rfl rfl (by decide +kernel)
set_option maxRecDepth 65536 in
theorem w_c10 : (Jvm.Cond.code Y3_ prog_1_method_1_code (4 : Nat) (Option.none : Option Jvm.ClassFile.FieldType)).before args0 about1 = true := code_word (m := ⟨9, 0⟩) (meth := k9m0) (c := k9c0) (by decide +kernel) rfl rfl rfl (by decide +kernel)
set_option maxRecDepth 65536 in
theorem w_c11 : (Jvm.Cond.code Y33_ prog_1_method_5_code (1 : Nat) (Option.some (Jvm.ClassFile.FieldType.object "java/lang/String"))).before args0 about1 = true := code_word (m := ⟨9, 1⟩) (meth := k9m1) (c := k9c1) (by decide +kernel) rfl rfl rfl (by decide +kernel)
set_option maxRecDepth 65536 in
theorem w_c12 : (Jvm.Cond.code Y5_ jdk_67_method_1_code (1 : Nat) (Option.none : Option Jvm.ClassFile.FieldType)).before args0 about1 = true := code_word (m := ⟨12, 0⟩) (meth := k12m0) (c := k12c0) (by decide +kernel) rfl rfl rfl (by decide +kernel)
set_option maxRecDepth 65536 in
theorem w_c13 : (Jvm.Cond.code Y4_ jdk_68_method_2_code (2 : Nat) (Option.none : Option Jvm.ClassFile.FieldType)).before args0 about1 = true := code_word (m := ⟨11, 1⟩) (meth := k11m1) (c := k11c1) (by decide +kernel) rfl rfl rfl (by decide +kernel)
set_option maxRecDepth 65536 in
theorem w_c14 : (Jvm.Cond.code Y18_ jdk_67_method_7_code (2 : Nat) (Option.some (Jvm.ClassFile.FieldType.object "java/lang/StringBuilder"))).before args0 about1 = true := code_word (m := ⟨12, 1⟩) (meth := k12m1) (c := k12c1) (by decide +kernel) rfl rfl rfl (by decide +kernel)
set_option maxRecDepth 65536 in
theorem w_c15 : (Jvm.Cond.code Y16_ jdk_68_method_22_code (3 : Nat) (Option.some (Jvm.ClassFile.FieldType.object "java/lang/AbstractStringBuilder"))).before args0 about1 = true := code_word (m := ⟨11, 5⟩) (meth := k11m5) (c := k11c5) (by decide +kernel) rfl rfl rfl (by decide +kernel)
set_option maxRecDepth 65536 in
theorem w_c16 : (Jvm.Cond.code Y17_ jdk_42_method_54_code (1 : Nat) (Option.some Jvm.ClassFile.FieldType.int)).before args0 about1 = true := code_word (m := ⟨7, 3⟩) (meth := k7m3) (c := k7c3) (by decide +kernel) rfl rfl rfl (by decide +kernel)
set_option maxRecDepth 65536 in
theorem w_c17 : (Jvm.Cond.code Y12_ jdk_42_method_152_code (1 : Nat) (Option.some Jvm.ClassFile.FieldType.byte)).before args0 about1 = true := code_word (m := ⟨7, 8⟩) (meth := k7m8) (c := k7c8) (by decide +kernel) rfl rfl rfl (by decide +kernel)
set_option maxRecDepth 65536 in
theorem w_c18 : (Jvm.Cond.code Y11_ jdk_68_method_9_code (3 : Nat) (Option.none : Option Jvm.ClassFile.FieldType)).before args0 about1 = true := code_word (m := ⟨11, 3⟩) (meth := k11m3) (c := k11c3) (by decide +kernel) rfl rfl rfl (by decide +kernel)
set_option maxRecDepth 65536 in
theorem w_c19 : (Jvm.Cond.code Y8_ jdk_68_method_10_code (6 : Nat) (Option.some Jvm.ClassFile.FieldType.int)).before args0 about1 = true := code_word (m := ⟨11, 4⟩) (meth := k11m4) (c := k11c4) (by decide +kernel) rfl rfl rfl (by decide +kernel)
set_option maxRecDepth 65536 in
theorem w_c20 : (Jvm.Cond.code Y7_ jdk_48_method_27_code (4 : Nat) (Option.some Jvm.ClassFile.FieldType.int)).before args0 about1 = true := code_word (m := ⟨13, 1⟩) (meth := k13m1) (c := k13c1) (by decide +kernel) rfl rfl rfl (by decide +kernel)
set_option maxRecDepth 65536 in
theorem w_c21 : (Jvm.Cond.code Y6_ jdk_29_method_65_code (2 : Nat) (Option.some Jvm.ClassFile.FieldType.int)).before args0 about1 = true := code_word (m := ⟨14, 1⟩) (meth := k14m1) (c := k14c1) (by decide +kernel) rfl rfl rfl (by decide +kernel)
set_option maxRecDepth 65536 in
theorem w_c22 : (Jvm.Cond.code Y10_ jdk_65_method_121_code (3 : Nat) (Option.some (Jvm.ClassFile.FieldType.array Jvm.ClassFile.FieldType.byte))).before args0 about1 = true := code_word (m := ⟨15, 1⟩) (meth := k15m1) (c := k15c1) (by decide +kernel) rfl rfl rfl (by decide +kernel)
set_option maxRecDepth 65536 in
theorem w_c23 : (Jvm.Cond.code Y9_ jdk_29_method_69_code (2 : Nat) (Option.some Jvm.ClassFile.FieldType.int)).before args0 about1 = true := code_word (m := ⟨14, 2⟩) (meth := k14m2) (c := k14c2) (by decide +kernel) rfl rfl rfl (by decide +kernel)
set_option maxRecDepth 65536 in
theorem w_c24 : (Jvm.Cond.code Y15_ jdk_68_method_73_code (3 : Nat) (Option.none : Option Jvm.ClassFile.FieldType)).before args0 about1 = true := code_word (m := ⟨11, 10⟩) (meth := k11m10) (c := k11c10) (by decide +kernel) rfl rfl rfl (by decide +kernel)
set_option maxRecDepth 65536 in
theorem w_c25 : (Jvm.Cond.code Y13_ jdk_68_method_71_code (2 : Nat) (Option.none : Option Jvm.ClassFile.FieldType)).before args0 about1 = true := code_word (m := ⟨11, 9⟩) (meth := k11m9) (c := k11c9) (by decide +kernel) rfl rfl rfl (by decide +kernel)
set_option maxRecDepth 65536 in
theorem w_c26 : (Jvm.Cond.code Y14_ jdk_42_method_147_code (4 : Nat) (Option.none : Option Jvm.ClassFile.FieldType)).before args0 about1 = true := code_word (m := ⟨7, 5⟩) (meth := k7m5) (c := k7c5) (by decide +kernel) rfl rfl rfl (by decide +kernel)
set_option maxRecDepth 65536 in
theorem w_c27 : (Jvm.Cond.code Y23_ jdk_67_method_15_code (2 : Nat) (Option.some (Jvm.ClassFile.FieldType.object "java/lang/StringBuilder"))).before args0 about1 = true := code_word (m := ⟨12, 2⟩) (meth := k12m2) (c := k12c2) (by decide +kernel) rfl rfl rfl (by decide +kernel)
set_option maxRecDepth 65536 in
theorem w_c28 : (Jvm.Cond.code Y22_ jdk_68_method_32_code (4 : Nat) (Option.some (Jvm.ClassFile.FieldType.object "java/lang/AbstractStringBuilder"))).before args0 about1 = true := code_word (m := ⟨11, 6⟩) (meth := k11m6) (c := k11c6) (by decide +kernel) rfl rfl rfl (by decide +kernel)
set_option maxRecDepth 65536 in
theorem w_c29 : (Jvm.Cond.code Y19_ jdk_33_method_13_code (4 : Nat) (Option.some Jvm.ClassFile.FieldType.int)).before args0 about1 = true := code_word (m := ⟨18, 1⟩) (meth := k18m1) (c := k18c1) (by decide +kernel) rfl rfl rfl (by decide +kernel)
set_option maxRecDepth 65536 in
theorem w_c30 : (Jvm.Cond.code Y20_ jdk_68_method_68_code (1 : Nat) (Option.some Jvm.ClassFile.FieldType.boolean)).before args0 about1 = true := code_word (m := ⟨11, 8⟩) (meth := k11m8) (c := k11c8) (by decide +kernel) rfl rfl rfl (by decide +kernel)
set_option maxRecDepth 65536 in
theorem w_c31 : (Jvm.Cond.code Y21_ jdk_33_method_12_code (7 : Nat) (Option.some Jvm.ClassFile.FieldType.int)).before args0 about1 = true := code_word (m := ⟨18, 0⟩) (meth := k18m0) (c := k18c0) (by decide +kernel) rfl rfl rfl (by decide +kernel)
set_option maxRecDepth 65536 in
theorem w_c32 : (Jvm.Cond.code Y32_ jdk_67_method_42_code (1 : Nat) (Option.some (Jvm.ClassFile.FieldType.object "java/lang/String"))).before args0 about1 = true := code_word (m := ⟨12, 3⟩) (meth := k12m3) (c := k12c3) (by decide +kernel) rfl rfl rfl (by decide +kernel)
set_option maxRecDepth 65536 in
theorem w_c33 : (Jvm.Cond.code Y31_ jdk_42_method_53_code (2 : Nat) (Option.none : Option Jvm.ClassFile.FieldType)).before args0 about1 = true := code_word (m := ⟨7, 2⟩) (meth := k7m2) (c := k7c2) (by decide +kernel) rfl rfl rfl (by decide +kernel)
set_option maxRecDepth 65536 in
theorem w_c34 : (Jvm.Cond.code Y30_ jdk_42_method_150_code (5 : Nat) (Option.none : Option Jvm.ClassFile.FieldType)).before args0 about1 = true := code_word (m := ⟨7, 7⟩) (meth := k7m7) (c := k7c7) (by decide +kernel) rfl rfl rfl (by decide +kernel)
set_option maxRecDepth 65536 in
theorem w_c35 : (Jvm.Cond.code Y24_ jdk_68_method_64_code (1 : Nat) (Option.some (Jvm.ClassFile.FieldType.array Jvm.ClassFile.FieldType.byte))).before args0 about1 = true := code_word (m := ⟨11, 7⟩) (meth := k11m7) (c := k11c7) (by decide +kernel) rfl rfl rfl (by decide +kernel)
set_option maxRecDepth 65536 in
theorem w_c36 : (Jvm.Cond.code Y26_ jdk_67_method_93_code (1 : Nat) (Option.some Jvm.ClassFile.FieldType.int)).before args0 about1 = true := code_word (m := ⟨12, 4⟩) (meth := k12m4) (c := k12c4) (by decide +kernel) rfl rfl rfl (by decide +kernel)
set_option maxRecDepth 65536 in
theorem w_c37 : (Jvm.Cond.code Y25_ jdk_68_method_6_code (1 : Nat) (Option.some Jvm.ClassFile.FieldType.int)).before args0 about1 = true := code_word (m := ⟨11, 2⟩) (meth := k11m2) (c := k11c2) (by decide +kernel) rfl rfl rfl (by decide +kernel)
set_option maxRecDepth 65536 in
theorem w_c38 : (Jvm.Cond.code Y29_ jdk_65_method_132_code (3 : Nat) (Option.some (Jvm.ClassFile.FieldType.array Jvm.ClassFile.FieldType.byte))).before args0 about1 = true := code_word (m := ⟨15, 3⟩) (meth := k15m3) (c := k15c3) (by decide +kernel) rfl rfl rfl (by decide +kernel)
set_option maxRecDepth 65536 in
theorem w_c39 : (Jvm.Cond.code Y28_ jdk_65_method_133_code (5 : Nat) (Option.some (Jvm.ClassFile.FieldType.array Jvm.ClassFile.FieldType.byte))).before args0 about1 = true := code_word (m := ⟨15, 4⟩) (meth := k15m4) (c := k15c4) (by decide +kernel) rfl rfl rfl (by decide +kernel)
set_option maxRecDepth 65536 in
theorem w_c40 : (Jvm.Cond.code Y27_ jdk_65_method_131_code (2 : Nat) (Option.none : Option Jvm.ClassFile.FieldType)).before args0 about1 = true := code_word (m := ⟨15, 2⟩) (meth := k15m2) (c := k15c2) (by decide +kernel) rfl rfl rfl (by decide +kernel)
set_option maxRecDepth 65536 in
theorem w_c41 : (Jvm.Cond.code Y35_ jdk_42_method_66_code (3 : Nat) (Option.some Jvm.ClassFile.FieldType.boolean)).before args0 about1 = true := code_word (m := ⟨7, 4⟩) (meth := k7m4) (c := k7c4) (by decide +kernel) rfl rfl rfl (by decide +kernel)
set_option maxRecDepth 65536 in
theorem w_c42 : (Jvm.Cond.code (⟨"java/lang/StringLatin1", "equals", "([B[B)Z"⟩ : Jvm.MethodName) jdk_43_method_13_code (3 : Nat) (Option.some Jvm.ClassFile.FieldType.boolean)).before args0 about1 = true := code_word (m := ⟨19, 1⟩) (meth := k19m1) (c := k19c1) (by decide +kernel) rfl rfl rfl (by decide +kernel)
def codes1 : List Jvm.Cond := [Jvm.Cond.code x code maxLocals ret, Jvm.Cond.code Y1_ method_3_code (3 : Nat) (Option.some Jvm.ClassFile.FieldType.int), Jvm.Cond.code Y0_ method_2_code (2 : Nat) (Option.some Jvm.ClassFile.FieldType.int), Jvm.Cond.code Y2_ method_4_code (8 : Nat) (Option.some Jvm.ClassFile.FieldType.int), Jvm.Cond.code Y34_ jdk_42_method_3_code (2 : Nat) (Option.none : Option Jvm.ClassFile.FieldType), Jvm.Cond.code (⟨"java/lang/String", "<init>", "([CIILjava/lang/Void;)V"⟩ : Jvm.MethodName) jdk_42_method_149_code (6 : Nat) (Option.none : Option Jvm.ClassFile.FieldType), Jvm.Cond.code (⟨"java/lang/Object", "<init>", "()V"⟩ : Jvm.MethodName) object_method_1_code (1 : Nat) (Option.none : Option Jvm.ClassFile.FieldType), Jvm.Cond.code (⟨"java/lang/StringUTF16", "compress", "([CII)[B"⟩ : Jvm.MethodName) jdk_52_method_16_code (6 : Nat) (Option.some (Jvm.ClassFile.FieldType.array Jvm.ClassFile.FieldType.byte)), Jvm.Cond.code (⟨"java/lang/StringUTF16", "compress", "([CI[BII)I"⟩ : Jvm.MethodName) jdk_52_method_21_code (7 : Nat) (Option.some Jvm.ClassFile.FieldType.int), Jvm.Cond.code (⟨"java/lang/StringUTF16", "coderFromArrayLen", "([BI)B"⟩ : Jvm.MethodName) jdk_52_method_15_code (2 : Nat) (Option.some Jvm.ClassFile.FieldType.byte), Jvm.Cond.code Y3_ prog_1_method_1_code (4 : Nat) (Option.none : Option Jvm.ClassFile.FieldType), Jvm.Cond.code Y33_ prog_1_method_5_code (1 : Nat) (Option.some (Jvm.ClassFile.FieldType.object "java/lang/String")), Jvm.Cond.code Y5_ jdk_67_method_1_code (1 : Nat) (Option.none : Option Jvm.ClassFile.FieldType), Jvm.Cond.code Y4_ jdk_68_method_2_code (2 : Nat) (Option.none : Option Jvm.ClassFile.FieldType), Jvm.Cond.code Y18_ jdk_67_method_7_code (2 : Nat) (Option.some (Jvm.ClassFile.FieldType.object "java/lang/StringBuilder")), Jvm.Cond.code Y16_ jdk_68_method_22_code (3 : Nat) (Option.some (Jvm.ClassFile.FieldType.object "java/lang/AbstractStringBuilder")), Jvm.Cond.code Y17_ jdk_42_method_54_code (1 : Nat) (Option.some Jvm.ClassFile.FieldType.int), Jvm.Cond.code Y12_ jdk_42_method_152_code (1 : Nat) (Option.some Jvm.ClassFile.FieldType.byte), Jvm.Cond.code Y11_ jdk_68_method_9_code (3 : Nat) (Option.none : Option Jvm.ClassFile.FieldType), Jvm.Cond.code Y8_ jdk_68_method_10_code (6 : Nat) (Option.some Jvm.ClassFile.FieldType.int), Jvm.Cond.code Y7_ jdk_48_method_27_code (4 : Nat) (Option.some Jvm.ClassFile.FieldType.int), Jvm.Cond.code Y6_ jdk_29_method_65_code (2 : Nat) (Option.some Jvm.ClassFile.FieldType.int), Jvm.Cond.code Y10_ jdk_65_method_121_code (3 : Nat) (Option.some (Jvm.ClassFile.FieldType.array Jvm.ClassFile.FieldType.byte)), Jvm.Cond.code Y9_ jdk_29_method_69_code (2 : Nat) (Option.some Jvm.ClassFile.FieldType.int), Jvm.Cond.code Y15_ jdk_68_method_73_code (3 : Nat) (Option.none : Option Jvm.ClassFile.FieldType), Jvm.Cond.code Y13_ jdk_68_method_71_code (2 : Nat) (Option.none : Option Jvm.ClassFile.FieldType), Jvm.Cond.code Y14_ jdk_42_method_147_code (4 : Nat) (Option.none : Option Jvm.ClassFile.FieldType), Jvm.Cond.code Y23_ jdk_67_method_15_code (2 : Nat) (Option.some (Jvm.ClassFile.FieldType.object "java/lang/StringBuilder")), Jvm.Cond.code Y22_ jdk_68_method_32_code (4 : Nat) (Option.some (Jvm.ClassFile.FieldType.object "java/lang/AbstractStringBuilder")), Jvm.Cond.code Y19_ jdk_33_method_13_code (4 : Nat) (Option.some Jvm.ClassFile.FieldType.int), Jvm.Cond.code Y20_ jdk_68_method_68_code (1 : Nat) (Option.some Jvm.ClassFile.FieldType.boolean), Jvm.Cond.code Y21_ jdk_33_method_12_code (7 : Nat) (Option.some Jvm.ClassFile.FieldType.int), Jvm.Cond.code Y32_ jdk_67_method_42_code (1 : Nat) (Option.some (Jvm.ClassFile.FieldType.object "java/lang/String")), Jvm.Cond.code Y31_ jdk_42_method_53_code (2 : Nat) (Option.none : Option Jvm.ClassFile.FieldType), Jvm.Cond.code Y30_ jdk_42_method_150_code (5 : Nat) (Option.none : Option Jvm.ClassFile.FieldType), Jvm.Cond.code Y24_ jdk_68_method_64_code (1 : Nat) (Option.some (Jvm.ClassFile.FieldType.array Jvm.ClassFile.FieldType.byte)), Jvm.Cond.code Y26_ jdk_67_method_93_code (1 : Nat) (Option.some Jvm.ClassFile.FieldType.int), Jvm.Cond.code Y25_ jdk_68_method_6_code (1 : Nat) (Option.some Jvm.ClassFile.FieldType.int), Jvm.Cond.code Y29_ jdk_65_method_132_code (3 : Nat) (Option.some (Jvm.ClassFile.FieldType.array Jvm.ClassFile.FieldType.byte)), Jvm.Cond.code Y28_ jdk_65_method_133_code (5 : Nat) (Option.some (Jvm.ClassFile.FieldType.array Jvm.ClassFile.FieldType.byte)), Jvm.Cond.code Y27_ jdk_65_method_131_code (2 : Nat) (Option.none : Option Jvm.ClassFile.FieldType), Jvm.Cond.code Y35_ jdk_42_method_66_code (3 : Nat) (Option.some Jvm.ClassFile.FieldType.boolean), Jvm.Cond.code (⟨"java/lang/StringLatin1", "equals", "([B[B)Z"⟩ : Jvm.MethodName) jdk_43_method_13_code (3 : Nat) (Option.some Jvm.ClassFile.FieldType.boolean)]
set_option maxRecDepth 65536 in
theorem codes_eq : words1.filter isCode = codes1 := rfl
theorem w_codes : ∀ c ∈ words1.filter isCode, c.before args0 about1 = true := by
  rw [codes_eq]
  intro c hc
  simp only [codes1, List.mem_cons, List.not_mem_nil, or_false] at hc
  rcases hc with rfl | rfl | rfl | rfl | rfl | rfl | rfl | rfl | rfl | rfl | rfl | rfl | rfl | rfl | rfl | rfl | rfl | rfl | rfl | rfl | rfl | rfl | rfl | rfl | rfl | rfl | rfl | rfl | rfl | rfl | rfl | rfl | rfl | rfl | rfl | rfl | rfl | rfl | rfl | rfl | rfl | rfl | rfl
  · exact w_c0
  · exact w_c1
  · exact w_c2
  · exact w_c3
  · exact w_c4
  · exact w_c5
  · exact w_c6
  · exact w_c7
  · exact w_c8
  · exact w_c9
  · exact w_c10
  · exact w_c11
  · exact w_c12
  · exact w_c13
  · exact w_c14
  · exact w_c15
  · exact w_c16
  · exact w_c17
  · exact w_c18
  · exact w_c19
  · exact w_c20
  · exact w_c21
  · exact w_c22
  · exact w_c23
  · exact w_c24
  · exact w_c25
  · exact w_c26
  · exact w_c27
  · exact w_c28
  · exact w_c29
  · exact w_c30
  · exact w_c31
  · exact w_c32
  · exact w_c33
  · exact w_c34
  · exact w_c35
  · exact w_c36
  · exact w_c37
  · exact w_c38
  · exact w_c39
  · exact w_c40
  · exact w_c41
  · exact w_c42
set_option maxRecDepth 65536 in
theorem w_t1 : (words1.take 24).all (fun c => isCode c || c.before args0 about1) = true := by decide +kernel
set_option maxRecDepth 65536 in
theorem w_t2 : ((words1.drop 24).take 24).all (fun c => isCode c || c.before args0 about1) = true := by decide +kernel
set_option maxRecDepth 65536 in
theorem w_t3 : (((words1.drop 24).drop 24).take 24).all (fun c => isCode c || c.before args0 about1) = true := by decide +kernel
set_option maxRecDepth 65536 in
theorem w_t4 : ((((words1.drop 24).drop 24).drop 24).take 24).all (fun c => isCode c || c.before args0 about1) = true := by decide +kernel
set_option maxRecDepth 65536 in
theorem w_t5 : (((((words1.drop 24).drop 24).drop 24).drop 24).take 24).all (fun c => isCode c || c.before args0 about1) = true := by decide +kernel
set_option maxRecDepth 65536 in
theorem w_t6 : ((((((words1.drop 24).drop 24).drop 24).drop 24).drop 24).take 24).all (fun c => isCode c || c.before args0 about1) = true := by decide +kernel
set_option maxRecDepth 65536 in
theorem w_t7 : (((((((words1.drop 24).drop 24).drop 24).drop 24).drop 24).drop 24).take 24).all (fun c => isCode c || c.before args0 about1) = true := by decide +kernel
set_option maxRecDepth 65536 in
theorem w_t8 : ((((((((words1.drop 24).drop 24).drop 24).drop 24).drop 24).drop 24).drop 24).take 24).all (fun c => isCode c || c.before args0 about1) = true := by decide +kernel
set_option maxRecDepth 65536 in
theorem w_t9 : (((((((((words1.drop 24).drop 24).drop 24).drop 24).drop 24).drop 24).drop 24).drop 24).take 24).all (fun c => isCode c || c.before args0 about1) = true := by decide +kernel
set_option maxRecDepth 65536 in
theorem w_t10 : (((((((((words1.drop 24).drop 24).drop 24).drop 24).drop 24).drop 24).drop 24).drop 24).drop 24).all (fun c => isCode c || c.before args0 about1) = true := by decide +kernel
theorem w_tables : (allAtoms (Jvm.Cond.code x code maxLocals ret :: tables_1)).before args0 about1 = true := by
  rw [allAtoms_all]
  show words1.all (fun c => c.before args0 about1) = true
  refine all_split ?_ w_codes
  rw [← List.take_append_drop 24 words1, List.all_append, w_t1, ← List.take_append_drop 24 (words1.drop 24), List.all_append, w_t2, ← List.take_append_drop 24 ((words1.drop 24).drop 24), List.all_append, w_t3, ← List.take_append_drop 24 (((words1.drop 24).drop 24).drop 24), List.all_append, w_t4, ← List.take_append_drop 24 ((((words1.drop 24).drop 24).drop 24).drop 24), List.all_append, w_t5, ← List.take_append_drop 24 (((((words1.drop 24).drop 24).drop 24).drop 24).drop 24), List.all_append, w_t6, ← List.take_append_drop 24 ((((((words1.drop 24).drop 24).drop 24).drop 24).drop 24).drop 24), List.all_append, w_t7, ← List.take_append_drop 24 (((((((words1.drop 24).drop 24).drop 24).drop 24).drop 24).drop 24).drop 24), List.all_append, w_t8, ← List.take_append_drop 24 ((((((((words1.drop 24).drop 24).drop 24).drop 24).drop 24).drop 24).drop 24).drop 24), List.all_append, w_t9, w_t10]
  rfl
set_option maxRecDepth 65536 in
theorem w_rest : rest_1_c.before args0 about1 = true := by decide +kernel
set_option maxRecDepth 65536 in
theorem w_case : (Jvm.Cond.and given_1 narrow_1).before args0 about1 = true := by decide +kernel
set_option maxRecDepth 65536 in
theorem w_consts : constsHeld consts_1 about1 := Jvm.Lit.constsHeldB_iff.mp (by decide +kernel)
theorem w_applies : (headSpec (Jvm.Cond.code x code maxLocals ret :: tables_1) room_1).applies x e0.platform about1 = true :=
  (Spec.applies_iff w_frames).mpr ⟨w_running, w_runnable, w_alone, w_named, w_hears, w_ripe, w_room, w_tables⟩
theorem atStart : AtStart classFile x code maxLocals ret World_1 tables_1 room_1 Calls_1 rest_1 Pre_1 launch0 p0 e0 about1 theMethod args0 below0 :=
  ⟨lists_1, trivial, launch0.admits_env _ _ _, launch0.least_env, fairChoices_fair.cas, fairChoices_fair.clock, w_frames, w_args, w_heap, w_applies, ⟨w_consts, trivial⟩, w_rest, w_case⟩
end start1
theorem witness_1 : WitnessClaimed_1 := ⟨start1.p0, start1.e0, start1.about1, start1.theMethod, start1.args0, start1.below0, start1.atStart⟩
end Jvm.Pilot.@@N@@
