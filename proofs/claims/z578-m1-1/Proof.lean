import JvmDerived
import JvmDerived.Pilot.@@N@@Statement
import JvmDerived.Pilot.@@N@@Code
set_option linter.unusedVariables false
set_option linter.unusedSimpArgs false
namespace Jvm.RoadKit
open Sem ClassFile Op Lib Jvm.Stand Jvm.Free Jvm.LawKit
section New
variable {p : Program} {l : Launch} {e : Env} {R : Room} {s : State} {m : MethodId} {args : Array Value} {below : List Frame} {meth : Method} {c : Code} {T : State} {locs : List Loc} {cells slots : Nat}
theorem retI (X : Stand p l e R s m args below meth c T locs cells slots) (hx : p.tables.exec = Jvm.exec) {pc : Nat} {Ls : Array Slot} {z : Int32} {rest : List Value} (hret : meth.sig.returnType = some .int) (hd : decode c.code pc = .ok (.ireturn, 1)) {fs : List Frame}
    (hl : ∀ (f : JFrame) (acts : List Action), f.method = m → f.locked = none → f.entered = [] → (doReturn e (T.setTop f) acts (some (.int z))).1 = T.setFrames fs) : Steps p.tables e below (T.setTop (mkF m pc Ls (.int z :: rest))) (T.setFrames fs) :=
  retOut X hx hret rfl (Or.inl ⟨rfl, Or.inl rfl, z, rfl⟩) hd hl
end New
end Jvm.RoadKit
/- laws to paste: Road.backV, Road.lenW, Road.codOf (cut by pick.py; bodies as the Statement names them) -/
namespace Jvm.Pilot.@@N@@
namespace StrChars
open Jvm Sem ClassFile Op Lib Jvm.Stand Jvm.Free.XT Jvm.Free.ALB Jvm.Free.JM Jvm.Free
open Jvm.Lib.Cold (StaticIs)
/-- a char array whose places are chars -/
def Ch (a : Addr) (A : Cell) (U : State) : Prop := Arr .char a A U ∧ Typed .char A
theorem Ch.mv {a : Addr} {A : Cell} {U U' : State} (h : Ch a A U) (hal : U.vm.Alike U'.vm) (hh : U'.heap = U.heap) : Ch a A U' := ⟨h.1.mv hal hh, h.2⟩
theorem Ch.keep {a : Addr} {A : Cell} {U U' : State} (h : Ch a A U) (hal : U.vm.Alike U'.vm) (hk : U'.heap[a]? = some A) : Ch a A U' := ⟨h.1.keep hal hk, h.2⟩
/-- what place i of a char[]'s cell holds -/
def cv (A : Cell) (i : Nat) : Int32 := match A.slots[i]? with | some (.int x) => x | _ => 0
theorem Ch.get {a : Addr} {A : Cell} {U : State} (h : Ch a A U) {i : Nat} (hi : i < A.slots.size) : A.slots[i]? = some (.int (cv A i)) := by
  have e := Array.getElem?_eq_getElem hi
  have f := h.2 i _ e
  unfold cv; rw [e]
  generalize A.slots[i] = v at f
  cases v <;> simp [fits] at f ⊢
/-- the byte that i2b leaves of a char -/
def lo8 (x : Int32) : Int32 := x.toInt8.toInt32
theorem fits_lo8 (y : Int32) : fits .byte (.int (lo8 y)) = true := by
  have h1 := y.toInt8.le_toInt
  have h2 := y.toInt8.toInt_lt
  simp only [lo8, fits, Bool.and_eq_true, decide_eq_true_eq, Int32.le_iff_toInt_le, Int8.toInt_toInt32, show (-128 : Int32).toInt = -128 from by decide, show (127 : Int32).toInt = 127 from by decide]
  omega
/-- A' is A but that each place j of lo .. hi - 1 holds f j -/
def Laid (A A' : Cell) (lo hi : Nat) (f : Nat → Value) : Prop := A'.cls = A.cls ∧ A'.vm = A.vm ∧ A'.slots.size = A.slots.size ∧ ∀ i, A'.slots[i]? = if lo ≤ i ∧ i < hi then some (f i) else A.slots[i]?
theorem Laid.zero (A : Cell) (lo : Nat) (f : Nat → Value) : Laid A A lo (lo + 0) f := ⟨rfl, rfl, rfl, fun i => by rw [if_neg (by omega)]⟩
theorem Laid.step {A Ak : Cell} {lo k : Nat} {f : Nat → Value} {v : Value} (h : Laid A Ak lo k f) (hlo : lo ≤ k) (hk : k < Ak.slots.size) (hv : v = f k) : Laid A (Ak.setSlot k v) lo (k + 1) f := by
  refine ⟨h.1, h.2.1, by simpa [Cell.setSlot] using h.2.2.1, fun i => ?_⟩
  by_cases e : k = i
  · subst e; rw [Cell.slots_setSlot_self v hk, if_pos (by omega), hv]
  · rw [Cell.slots_setSlot_ne v e, h.2.2.2 i]
    by_cases q : lo ≤ i ∧ i < k
    · rw [if_pos q, if_pos (by omega)]
    · rw [if_neg q, if_neg (by omega)]
def U16 : String := "java/lang/StringUTF16"
namespace Cmp5
def yN : MethodName := ⟨"java/lang/StringUTF16", "compress", "([CI[BII)I"⟩
abbrev yB : ByteArray := jdk_52_method_21_code
theorem d0 : decode yB 0 = .ok (.iconst 0, 1) := by decide +kernel
theorem d1 : decode yB 1 = .ok (.istore 5, 2) := by decide +kernel
theorem d3 : decode yB 3 = .ok (.iload 5, 2) := by decide +kernel
theorem d5 : decode yB 5 = .ok (.iload 4, 2) := by decide +kernel
theorem d7 : decode yB 7 = .ok (.if_icmp (.ge) 37, 3) := by decide +kernel
theorem d10 : decode yB 10 = .ok (.aload_n 0, 1) := by decide +kernel
theorem d11 : decode yB 11 = .ok (.iload_n 1, 1) := by decide +kernel
theorem d12 : decode yB 12 = .ok (.caload, 1) := by decide +kernel
theorem d13 : decode yB 13 = .ok (.istore 6, 2) := by decide +kernel
theorem d15 : decode yB 15 = .ok (.iload 6, 2) := by decide +kernel
theorem d17 : decode yB 17 = .ok (.sipush 255, 3) := by decide +kernel
theorem d20 : decode yB 20 = .ok (.if_icmp (.le) 6, 3) := by decide +kernel
theorem d26 : decode yB 26 = .ok (.aload_n 2, 1) := by decide +kernel
theorem d27 : decode yB 27 = .ok (.iload_n 3, 1) := by decide +kernel
theorem d28 : decode yB 28 = .ok (.iload 6, 2) := by decide +kernel
theorem d30 : decode yB 30 = .ok (.i2b, 1) := by decide +kernel
theorem d31 : decode yB 31 = .ok (.bastore, 1) := by decide +kernel
theorem d32 : decode yB 32 = .ok (.iinc 1 1, 3) := by decide +kernel
theorem d35 : decode yB 35 = .ok (.iinc 3 1, 3) := by decide +kernel
theorem d38 : decode yB 38 = .ok (.iinc 5 1, 3) := by decide +kernel
theorem d41 : decode yB 41 = .ok (.goto (-38), 3) := by decide +kernel
theorem d44 : decode yB 44 = .ok (.iload 4, 2) := by decide +kernel
theorem d46 : decode yB 46 = .ok (.ireturn, 1) := by decide +kernel
def site : List Cond := []
def tab : Cond := tabOf yN yB 7 (some .int) site
def P (b : Addr) (A : Cell) (d : Addr) (B : Cell) (o q len : Nat) (args : Array Value) (s : State) : Prop := args = #[.ref b, .int (Int32.ofNat o), .ref d, .int (Int32.ofNat q), .int (Int32.ofNat len)] ∧ Ch b A s ∧ Arr .byte d B s ∧ b ≠ d ∧ o + len ≤ A.slots.size ∧ q + len ≤ B.slots.size ∧ ∀ i, i < len → ¬ 255 < cv A (o + i)
def E (b : Addr) (A : Cell) (d : Addr) (B : Cell) (o q len : Nat) (r : Option Value) (s u : State) : Prop := r = some (.int (Int32.ofNat len)) ∧ ∃ B', Put d B' s u ∧ Laid B B' q (q + len) (fun j => Value.int (lo8 (cv A (o + (j - q)))))
/-- no char of the range above 255: len; the places written hold each char's low byte -/
theorem law (l : Launch) (b : Addr) (A : Cell) (d : Addr) (B : Cell) (o q len : Nat) : Law l yN 5 5 0 0 yB 7 (some .int) site (P b A d B o q len) (E b A d B o q len) (copyLocs d q len) 0 0 := by
  refine Law.of_walk (plainFor_of_name (by decide +kernel)) (by decide +kernel) (by decide +kernel) (by decide) (fun _ _ h => by rw [h.1]; rfl) (fun _ U U' hal hh h => ⟨h.1, h.2.1.mv hal hh, h.2.2.1.mv hal hh, h.2.2.2⟩) (fun r U U' V V' h1 hal h2 h => ⟨h.1, h.2.elim fun B' q => ⟨B', q.1.mv h1 h2, q.2⟩⟩) ?_
  intro p e s m args below meth c s₁ X0 hexec hbytes hml hret hlk hnm hown hh0 W hP
  obtain ⟨rfl, hA, hB, hne, l1, l2, hp⟩ := hP
  have c1 : Steps p.tables e below (s₁.setTop (entryFrame m #[.ref b, .int (Int32.ofNat o), .ref d, .int (Int32.ofNat q), .int (Int32.ofNat len)] 7)) (s₁.setTop (mkF m 0 #[.val (.ref b), .val (.int (Int32.ofNat o)), .val (.ref d), .val (.int (Int32.ofNat q)), .val (.int (Int32.ofNat len)), .unset, .unset] [])) := entry rfl
  have hA0 := hA.1.mv X0.warmed.alike hh0
  have hB0 := hB.mv X0.warmed.alike hh0
  have a31 := hA.1.2.2.2
  have c2 : Steps p.tables e below (s₁.setTop (entryFrame m #[.ref b, .int (Int32.ofNat o), .ref d, .int (Int32.ofNat q), .int (Int32.ofNat len)] 7)) (s₁.setTop (mkF m 3 #[.val (.ref b), .val (.int (Int32.ofNat o)), .val (.ref d), .val (.int (Int32.ofNat q)), .val (.int (Int32.ofNat len)), .val (.int 0), .unset] [])) := c1.trans (by
    refine iconstV X0.here hexec rfl 0 (hb hbytes d0) (by decide) ?_
    refine XS.istore X0.here hexec rfl (hb hbytes d1) rfl rfl ?_
    exact Steps.refl _)
  have loop : ∀ (r i : Nat), i + r = len → ∀ (z : Slot), (z = .unset ∨ ∃ w, z = .val w ∧ w.category = 1) → ∀ (Tl : State) (Bk : Cell), Stand p l e { frames := 0, locals := 0, cells := 0, slots := 0 } s m #[.ref b, .int (Int32.ofNat o), .ref d, .int (Int32.ofNat q), .int (Int32.ofNat len)] below meth c Tl ([] ++ copyLocs d q i) 0 0 → Put d Bk s₁ Tl → Laid B Bk q (q + i) (fun j => Value.int (lo8 (cv A (o + (j - q))))) →
      Steps p.tables e below (s₁.setTop (entryFrame m #[.ref b, .int (Int32.ofNat o), .ref d, .int (Int32.ofNat q), .int (Int32.ofNat len)] 7)) (Tl.setTop (mkF m 3 #[.val (.ref b), .val (.int (Int32.ofNat (o + i))), .val (.ref d), .val (.int (Int32.ofNat (q + i))), .val (.int (Int32.ofNat len)), .val (.int (Int32.ofNat i)), z] [])) → ∃ (T' : State) (B' : Cell) (z' : Slot), Stand p l e { frames := 0, locals := 0, cells := 0, slots := 0 } s m #[.ref b, .int (Int32.ofNat o), .ref d, .int (Int32.ofNat q), .int (Int32.ofNat len)] below meth c T' ([] ++ copyLocs d q len) 0 0 ∧ Put d B' s₁ T' ∧ Laid B B' q (q + len) (fun j => Value.int (lo8 (cv A (o + (j - q))))) ∧
      Steps p.tables e below (s₁.setTop (entryFrame m #[.ref b, .int (Int32.ofNat o), .ref d, .int (Int32.ofNat q), .int (Int32.ofNat len)] 7)) (T'.setTop (mkF m 3 #[.val (.ref b), .val (.int (Int32.ofNat (o + len))), .val (.ref d), .val (.int (Int32.ofNat (q + len))), .val (.int (Int32.ofNat len)), .val (.int (Int32.ofNat len)), z'] [])) := by
    intro r
    induction r with
    | zero =>
      intro i hi z hz Tl Bk Xl pl fl cl
      have hil : i = len := by omega
      rw [hil] at Xl fl cl
      exact ⟨Tl, Bk, z, Xl, pl, fl, cl⟩
    | succ r ih =>
      intro i hi z hz Tl Bk Xl pl fl cl
      have all := X0.warmed.alike.symm.trans Xl.warmed.alike
      have hAl := hA0.keep all (pl.other hne hA0.1)
      have hBk := hB0.like all pl.1 fl.1 fl.2.1 fl.2.2.1
      have hlt : q + i < Bk.slots.size := by rw [fl.2.2.1]; omega
      have c3 : Steps p.tables e below (s₁.setTop (entryFrame m #[.ref b, .int (Int32.ofNat o), .ref d, .int (Int32.ofNat q), .int (Int32.ofNat len)] 7)) (Tl.setTop (mkF m 12 #[.val (.ref b), .val (.int (Int32.ofNat (o + i))), .val (.ref d), .val (.int (Int32.ofNat (q + i))), .val (.int (Int32.ofNat len)), .val (.int (Int32.ofNat i)), z] [.int (Int32.ofNat (o + i)), .ref b])) := cl.trans (by
        refine XS.iload Xl.here hexec rfl (hb hbytes d3) rfl ?_
        refine XS.iload Xl.here hexec rfl (hb hbytes d5) rfl ?_
        refine XS.icmpNo Xl.here hexec rfl (hb hbytes d7) rfl (ii_ge_f (lt32 (by omega) (by omega))) ?_
        refine XS.aloadN Xl.here hexec rfl (hb hbytes d10) rfl rfl ?_
        refine XS.iloadN Xl.here hexec rfl (hb hbytes d11) rfl ?_
        exact Steps.refl _)
      have c4 : Steps p.tables e below (s₁.setTop (entryFrame m #[.ref b, .int (Int32.ofNat o), .ref d, .int (Int32.ofNat q), .int (Int32.ofNat len)] 7)) (Tl.setTop (mkF m 13 #[.val (.ref b), .val (.int (Int32.ofNat (o + i))), .val (.ref d), .val (.int (Int32.ofNat (q + i))), .val (.int (Int32.ofNat len)), .val (.int (Int32.ofNat i)), z] [.int (cv A (o + i))])) := c3.trans (by
        refine Xl.aget hexec hAl rfl (hA.get (i := o + i) (by omega)) rfl rfl (hb hbytes d12) ?_
        exact Steps.refl _)
      have c5 : Steps p.tables e below (s₁.setTop (entryFrame m #[.ref b, .int (Int32.ofNat o), .ref d, .int (Int32.ofNat q), .int (Int32.ofNat len)] 7)) (Tl.setTop (mkF m 15 #[.val (.ref b), .val (.int (Int32.ofNat (o + i))), .val (.ref d), .val (.int (Int32.ofNat (q + i))), .val (.int (Int32.ofNat len)), .val (.int (Int32.ofNat i)), .val (.int (cv A (o + i)))] [])) := c4.trans (by
        refine XS.istoreS Xl.here hexec rfl (hb hbytes d13) rfl rfl hz ?_
        exact Steps.refl _)
      have c6 : Steps p.tables e below (s₁.setTop (entryFrame m #[.ref b, .int (Int32.ofNat o), .ref d, .int (Int32.ofNat q), .int (Int32.ofNat len)] 7)) (Tl.setTop (mkF m 31 #[.val (.ref b), .val (.int (Int32.ofNat (o + i))), .val (.ref d), .val (.int (Int32.ofNat (q + i))), .val (.int (Int32.ofNat len)), .val (.int (Int32.ofNat i)), .val (.int (cv A (o + i)))] [.int (lo8 (cv A (o + i))), .int (Int32.ofNat (q + i)), .ref d])) := c5.trans (by
        refine XS.iload Xl.here hexec rfl (hb hbytes d15) rfl ?_
        refine sipushV Xl.here hexec rfl 255 (hb hbytes d17) (by decide) ?_
        refine XS.icmpYes Xl.here hexec rfl (pc0 := 20) rfl (hb hbytes d20) rfl (ii_le_t (hp i (by omega))) (by decide) rfl ?_
        refine XS.aloadN Xl.here hexec rfl (hb hbytes d26) rfl rfl ?_
        refine XS.iloadN Xl.here hexec rfl (hb hbytes d27) rfl ?_
        refine XS.iload Xl.here hexec rfl (hb hbytes d28) rfl ?_
        refine i2b Xl.here hexec rfl (hb hbytes d30) rfl ?_
        exact Steps.refl _)
      obtain ⟨T7, X7, p7, st7⟩ := Xl.aput hexec hBk rfl hlt rfl (fits_lo8 (cv A (o + i))) (g := (mkF m 31 #[.val (.ref b), .val (.int (Int32.ofNat (o + i))), .val (.ref d), .val (.int (Int32.ofNat (q + i))), .val (.int (Int32.ofNat len)), .val (.int (Int32.ofNat i)), .val (.int (cv A (o + i)))] [.int (lo8 (cv A (o + i))), .int (Int32.ofNat (q + i)), .ref d])) rfl (rest := []) rfl (hb hbytes d31)
      have c8 : Steps p.tables e below (s₁.setTop (entryFrame m #[.ref b, .int (Int32.ofNat o), .ref d, .int (Int32.ofNat q), .int (Int32.ofNat len)] 7)) (T7.setTop (mkF m 32 #[.val (.ref b), .val (.int (Int32.ofNat (o + i))), .val (.ref d), .val (.int (Int32.ofNat (q + i))), .val (.int (Int32.ofNat len)), .val (.int (Int32.ofNat i)), .val (.int (cv A (o + i)))] [])) := c6.trans (st7 _ (Steps.refl _))
      have c9 : Steps p.tables e below (s₁.setTop (entryFrame m #[.ref b, .int (Int32.ofNat o), .ref d, .int (Int32.ofNat q), .int (Int32.ofNat len)] 7)) (T7.setTop (mkF m 3 #[.val (.ref b), .val (.int (Int32.ofNat (o + i) + 1)), .val (.ref d), .val (.int (Int32.ofNat (q + i) + 1)), .val (.int (Int32.ofNat len)), .val (.int (Int32.ofNat i + 1)), .val (.int (cv A (o + i)))] [])) := c8.trans (by
        refine iincV X7.here hexec rfl 1 (hb hbytes d32) (by decide) rfl rfl ?_
        refine iincV X7.here hexec rfl 1 (hb hbytes d35) (by decide) rfl rfl ?_
        refine iincV X7.here hexec rfl 1 (hb hbytes d38) (by decide) rfl rfl ?_
        refine XS.goto X7.here hexec rfl (pc0 := 41) rfl (hb hbytes d41) (by decide) rfl ?_
        exact Steps.refl _)
      have c10 : Steps p.tables e below (s₁.setTop (entryFrame m #[.ref b, .int (Int32.ofNat o), .ref d, .int (Int32.ofNat q), .int (Int32.ofNat len)] 7)) (T7.setTop (mkF m 3 #[.val (.ref b), .val (.int (Int32.ofNat (o + (i + 1)))), .val (.ref d), .val (.int (Int32.ofNat (q + (i + 1)))), .val (.int (Int32.ofNat len)), .val (.int (Int32.ofNat (i + 1))), .val (.int (cv A (o + i)))] [])) := by
        have := c9
        rw [succ32, succ32, succ32] at this
        exact this
      exact ih (i + 1) (by omega) _ (Or.inr ⟨_, rfl, rfl⟩) T7 _ (by rw [copyLocs_step, ← List.append_assoc]; exact X7) (pl.trans p7) (fl.step (by omega) hlt (by simp)) c10
  obtain ⟨T9, B9, z9, X9, p9, f9, g9⟩ := loop len 0 (by omega) .unset (Or.inl rfl) s₁ B (by simpa [copyLocs] using X0) ⟨hB0.1, fun _ _ => rfl, rfl⟩ (Laid.zero _ _ _) c2
  have c11 : Steps p.tables e below (s₁.setTop (entryFrame m #[.ref b, .int (Int32.ofNat o), .ref d, .int (Int32.ofNat q), .int (Int32.ofNat len)] 7)) (T9.setTop (mkF m 46 #[.val (.ref b), .val (.int (Int32.ofNat (o + len))), .val (.ref d), .val (.int (Int32.ofNat (q + len))), .val (.int (Int32.ofNat len)), .val (.int (Int32.ofNat len)), z9] [.int (Int32.ofNat len)])) := g9.trans (by
    refine XS.iload X9.here hexec rfl (hb hbytes d3) rfl ?_
    refine XS.iload X9.here hexec rfl (hb hbytes d5) rfl ?_
    refine XS.icmpYes X9.here hexec rfl (pc0 := 7) rfl (hb hbytes d7) rfl (ii_ge_t (nlt32 (by omega) (Nat.le_refl _))) (by decide) rfl ?_
    refine XS.iload X9.here hexec rfl (hb hbytes d44) rfl ?_
    exact Steps.refl _)
  exact ⟨T9, some (.int (Int32.ofNat len)), _, _, _, X9, by simp, rfl, rfl, (fun h => by cases h), ⟨rfl, B9, p9.from hh0, f9⟩, fun fs hl => c11.trans (X9.ireturnOut hexec hret rfl (Or.inl rfl) (hb hbytes d46) hl)⟩
end Cmp5
namespace Cmp3
def yN : MethodName := ⟨"java/lang/StringUTF16", "compress", "([CII)[B"⟩
abbrev yB : ByteArray := jdk_52_method_16_code
theorem d0 : decode yB 0 = .ok (.iload_n 2, 1) := by decide +kernel
theorem d1 : decode yB 1 = .ok (.newarray .byte, 2) := by decide +kernel
theorem d3 : decode yB 3 = .ok (.astore_n 3, 1) := by decide +kernel
theorem d4 : decode yB 4 = .ok (.aload_n 0, 1) := by decide +kernel
theorem d5 : decode yB 5 = .ok (.iload_n 1, 1) := by decide +kernel
theorem d6 : decode yB 6 = .ok (.aload_n 3, 1) := by decide +kernel
theorem d7 : decode yB 7 = .ok (.iconst 0, 1) := by decide +kernel
theorem d8 : decode yB 8 = .ok (.iload_n 2, 1) := by decide +kernel
theorem d9 : decode yB 9 = .ok (.invokestatic 115, 3) := by decide +kernel
theorem d12 : decode yB 12 = .ok (.istore 4, 2) := by decide +kernel
theorem d14 : decode yB 14 = .ok (.iload 4, 2) := by decide +kernel
theorem d16 : decode yB 16 = .ok (.iload_n 2, 1) := by decide +kernel
theorem d17 : decode yB 17 = .ok (.if_icmp (.eq) 40, 3) := by decide +kernel
theorem d57 : decode yB 57 = .ok (.aload_n 3, 1) := by decide +kernel
theorem d58 : decode yB 58 = .ok (.areturn, 1) := by decide +kernel
def site : List Cond := [.arrayClass .byte, Cmp5.tab] ++ staticW U16 115 Cmp5.yN
def tab : Cond := tabOf yN yB 6 (some (.array .byte)) site
def P (b : Addr) (A : Cell) (o len : Nat) (args : Array Value) (s : State) : Prop := args = #[.ref b, .int (Int32.ofNat o), .int (Int32.ofNat len)] ∧ Ch b A s ∧ o + len ≤ A.slots.size ∧ len ≤ 536870912 ∧ ∀ i, i < len → ¬ 255 < cv A (o + i)
def E (b : Addr) (A : Cell) (o len : Nat) (r : Option Value) (s u : State) : Prop := NewArr .byte "[B" len (fun j => .int (lo8 (cv A (o + j)))) r s u ∧ u.heap.size = s.heap.size + 1
/-- no char of the range above 255: a new byte[] of their low bytes -/
theorem law (l : Launch) (b : Addr) (A : Cell) (o len : Nat) : Law l yN 3 3 1 18 yB 6 (some (.array .byte)) site (P b A o len) (E b A o len) [] 1 len := by
  refine Law.of_walk (plainFor_of_name (by decide +kernel)) (by decide +kernel) (by decide +kernel) (by decide) (fun _ _ h => by rw [h.1]; rfl) (fun _ U U' hal hh h => ⟨h.1, h.2.1.mv hal hh, h.2.2⟩) (fun r U U' V V' h1 hal h2 h => ⟨NewArr.mv r U U' V V' h1 hal h2 h.1, by rw [h1, h2]; exact h.2⟩) ?_
  intro p e s m args below meth c s₁ X0 hexec hbytes hml hret hlk hnm hown hh0 W hP
  obtain ⟨rfl, hA, l1, l2, hp⟩ := hP
  have a31 := hA.1.2.2.2
  have c1 : Steps p.tables e below (s₁.setTop (entryFrame m #[.ref b, .int (Int32.ofNat o), .int (Int32.ofNat len)] 6)) (s₁.setTop (mkF m 0 #[.val (.ref b), .val (.int (Int32.ofNat o)), .val (.int (Int32.ofNat len)), .unset, .unset, .unset] [])) := entry rfl
  have c2 : Steps p.tables e below (s₁.setTop (entryFrame m #[.ref b, .int (Int32.ofNat o), .int (Int32.ofNat len)] 6)) (s₁.setTop (mkF m 1 #[.val (.ref b), .val (.int (Int32.ofNat o)), .val (.int (Int32.ofNat len)), .unset, .unset, .unset] [.int (Int32.ofNat len)])) := c1.trans (by
    refine XS.iloadN X0.here hexec rfl (hb hbytes d0) rfl ?_
    exact Steps.refl _)
  obtain ⟨T3, B3, X3, ba3, bs3, bv3, bh3, bf3, st3⟩ := X0.anew hexec (atype := .byte) (wk W (.arrayClass .byte)) rfl (by show len * 1 ≤ _; omega) (by omega) (g := (mkF m 1 #[.val (.ref b), .val (.int (Int32.ofNat o)), .val (.int (Int32.ofNat len)), .unset, .unset, .unset] [.int (Int32.ofNat len)])) rfl (hb hbytes d1) (rest := []) rfl (Nat.le_refl _) (by show 0 + len ≤ len; omega)
  rw [hh0] at ba3 st3
  have kp3 : XT.Kept s T3 := (XT.Kept.of_eq hh0).push bh3
  have hA3 := hA.keep X3.warmed.alike (kp3 _ _ hA.1.1)
  have hne : b ≠ s.heap.size := hA.1.ne
  have c4 : Steps p.tables e below (s₁.setTop (entryFrame m #[.ref b, .int (Int32.ofNat o), .int (Int32.ofNat len)] 6)) (T3.setTop (mkF m 3 #[.val (.ref b), .val (.int (Int32.ofNat o)), .val (.int (Int32.ofNat len)), .unset, .unset, .unset] [.ref s.heap.size])) := c2.trans (st3 _ (Steps.refl _))
  have c5 : Steps p.tables e below (s₁.setTop (entryFrame m #[.ref b, .int (Int32.ofNat o), .int (Int32.ofNat len)] 6)) (T3.setTop (mkF m 9 #[.val (.ref b), .val (.int (Int32.ofNat o)), .val (.int (Int32.ofNat len)), .val (.ref s.heap.size), .unset, .unset] [.int (Int32.ofNat len), .int 0, .ref s.heap.size, .int (Int32.ofNat o), .ref b])) := c4.trans (by
    refine XS.astoreN X3.here hexec rfl (hb hbytes d3) rfl rfl rfl ?_
    refine XS.aloadN X3.here hexec rfl (hb hbytes d4) rfl rfl ?_
    refine XS.iloadN X3.here hexec rfl (hb hbytes d5) rfl ?_
    refine XS.aloadN X3.here hexec rfl (hb hbytes d6) rfl rfl ?_
    refine iconstV X3.here hexec rfl 0 (hb hbytes d7) (by decide) ?_
    refine XS.iloadN X3.here hexec rfl (hb hbytes d8) rfl ?_
    exact Steps.refl _)
  obtain ⟨v6, T6, X6, E6, g6⟩ := X3.callS hexec (Cmp5.law l b A s.heap.size B3 o 0 len) hown (wks W (staticW U16 115 Cmp5.yN)) (wk W Cmp5.tab) (W := 0) (Nat.le_of_ble_eq_true rfl) (Nat.le_of_ble_eq_true rfl) (Nat.le_refl _) (by show 0 + len + 0 ≤ len; omega) (g := (mkF m 9 #[.val (.ref b), .val (.int (Int32.ofNat o)), .val (.int (Int32.ofNat len)), .val (.ref s.heap.size), .unset, .unset] [.int (Int32.ofNat len), .int (Int32.ofNat 0), .ref s.heap.size, .int (Int32.ofNat o), .ref b])) rfl (by rw [hml]; rfl) c5 (argsL := [.ref b, .int (Int32.ofNat o), .ref s.heap.size, .int (Int32.ofNat 0), .int (Int32.ofNat len)]) (rest := []) rfl rfl (by show 2 * 0 + 0 ≤ _; decide) (hb hbytes d9) (⟨rfl, hA3, ba3, hne, l1, by rw [bs3]; simp, hp⟩)
  obtain ⟨rfl, B6, p6, f6⟩ := E6
  have c7 : Steps p.tables e below (s₁.setTop (entryFrame m #[.ref b, .int (Int32.ofNat o), .int (Int32.ofNat len)] 6)) (T6.setTop (mkF m 12 #[.val (.ref b), .val (.int (Int32.ofNat o)), .val (.int (Int32.ofNat len)), .val (.ref s.heap.size), .unset, .unset] [.int (Int32.ofNat len)])) := g6
  have c8 : Steps p.tables e below (s₁.setTop (entryFrame m #[.ref b, .int (Int32.ofNat o), .int (Int32.ofNat len)] 6)) (T6.setTop (mkF m 58 #[.val (.ref b), .val (.int (Int32.ofNat o)), .val (.int (Int32.ofNat len)), .val (.ref s.heap.size), .val (.int (Int32.ofNat len)), .unset] [.ref s.heap.size])) := c7.trans (by
    refine XS.istore X6.here hexec rfl (hb hbytes d12) rfl rfl ?_
    refine XS.iload X6.here hexec rfl (hb hbytes d14) rfl ?_
    refine XS.iloadN X6.here hexec rfl (hb hbytes d16) rfl ?_
    refine XS.icmpYes X6.here hexec rfl (pc0 := 17) rfl (hb hbytes d17) rfl (ii_eq_t rfl) (by decide) rfl ?_
    refine XS.aloadN X6.here hexec rfl (hb hbytes d57) rfl rfl ?_
    exact Steps.refl _)
  have X8 := X6.wide (L' := []) (cells' := 1) (slots' := len) (fun x hx hlt => by
    simp only [List.nil_append, copyLocs, List.mem_map, List.mem_range] at hx
    obtain ⟨i, -, rfl⟩ := hx
    exact absurd hlt (Nat.lt_irrefl _)) (Nat.le_refl _) (by omega)
  exact ⟨T6, some (.ref s.heap.size), _, _, _, X8, rfl, rfl, rfl, (fun h => by cases h), ⟨⟨rfl, B6, ba3.like (X3.warmed.alike.symm.trans X6.warmed.alike) p6.1 f6.1 f6.2.1 f6.2.2.1, f6.2.1.trans bv3, by rw [X6.warmed.alike.findClass, f6.1]; exact bf3, by rw [f6.2.2.1, bs3]; simp, fun j hj => by rw [f6.2.2.2 j, if_pos (by omega)]; rfl, kp3.put p6 (Nat.le_refl _)⟩, by rw [p6.2.2, bh3, hh0]; simp⟩, fun fs hl => c8.trans (X8.areturnOut hexec rfl hret rfl (hb hbytes d58) hl)⟩
end Cmp3
namespace CodL
def yN : MethodName := ⟨"java/lang/StringUTF16", "coderFromArrayLen", "([BI)B"⟩
abbrev yB : ByteArray := jdk_52_method_15_code
theorem d0 : decode yB 0 = .ok (.iload_n 1, 1) := by decide +kernel
theorem d1 : decode yB 1 = .ok (.aload_n 0, 1) := by decide +kernel
theorem d2 : decode yB 2 = .ok (.arraylength, 1) := by decide +kernel
theorem d3 : decode yB 3 = .ok (.isub, 1) := by decide +kernel
theorem d4 : decode yB 4 = .ok (.bipush 31, 2) := by decide +kernel
theorem d6 : decode yB 6 = .ok (.iushr, 1) := by decide +kernel
theorem d7 : decode yB 7 = .ok (.i2b, 1) := by decide +kernel
theorem d8 : decode yB 8 = .ok (.ireturn, 1) := by decide +kernel
def site : List Cond := []
def tab : Cond := tabOf yN yB 2 (some .byte) site
def P (d : Addr) (B : Cell) (args : Array Value) (s : State) : Prop := args = #[.ref d, .int (Int32.ofNat B.slots.size)] ∧ Arr .byte d B s
def E (r : Option Value) (s u : State) : Prop := XT.PureE (some (.int 0)) r s u
/-- an array as long as the number of chars: LATIN1 -/
theorem law (l : Launch) (d : Addr) (B : Cell) : Law l yN 2 2 0 0 yB 2 (some .byte) site (P d B) E [] 0 0 := by
  refine Law.of_walk (plainFor_of_name (by decide +kernel)) (by decide +kernel) (by decide +kernel) (by decide) (fun _ _ h => by rw [h.1]; rfl) (fun _ U U' hal hh h => ⟨h.1, h.2.mv hal hh⟩) (fun r U U' V V' h1 hal h2 h => XT.PureE.mv r U U' V V' h1 hal h2 h) ?_
  intro p e s m args below meth c s₁ X0 hexec hbytes hml hret hlk hnm hown hh0 W hP
  obtain ⟨rfl, hB⟩ := hP
  have hB0 := hB.mv X0.warmed.alike hh0
  have c1 : Steps p.tables e below (s₁.setTop (entryFrame m #[.ref d, .int (Int32.ofNat B.slots.size)] 2)) (s₁.setTop (mkF m 0 #[.val (.ref d), .val (.int (Int32.ofNat B.slots.size))] [])) := entry rfl
  have c2 : Steps p.tables e below (s₁.setTop (entryFrame m #[.ref d, .int (Int32.ofNat B.slots.size)] 2)) (s₁.setTop (mkF m 2 #[.val (.ref d), .val (.int (Int32.ofNat B.slots.size))] [.ref d, .int (Int32.ofNat B.slots.size)])) := c1.trans (by
    refine XS.iloadN X0.here hexec rfl (hb hbytes d0) rfl ?_
    refine XS.aloadN X0.here hexec rfl (hb hbytes d1) rfl rfl ?_
    exact Steps.refl _)
  have c3 : Steps p.tables e below (s₁.setTop (entryFrame m #[.ref d, .int (Int32.ofNat B.slots.size)] 2)) (s₁.setTop (mkF m 8 #[.val (.ref d), .val (.int (Int32.ofNat B.slots.size))] [.int (lo8 (ushr (Int32.ofNat B.slots.size - Int32.ofNat B.slots.size) 31))])) := c2.trans (by
    refine X0.alen hexec hB0 rfl rfl (hb hbytes d2) ?_
    refine XS.isub X0.here hexec rfl (hb hbytes d3) rfl ?_
    refine bipushV X0.here hexec rfl 31 (hb hbytes d4) (by decide) ?_
    refine iushr X0.here hexec rfl (hb hbytes d6) rfl ?_
    refine i2b X0.here hexec rfl (hb hbytes d7) rfl ?_
    exact Steps.refl _)
  have e0 : lo8 (ushr (Int32.ofNat B.slots.size - Int32.ofNat B.slots.size) 31) = 0 := by rw [Int32.sub_self]; decide
  rw [e0] at c3
  exact ⟨s₁, some (.int 0), _, _, _, X0, rfl, rfl, rfl, (fun h => by cases h), ⟨rfl, hh0⟩, fun fs hl => c3.trans (X0.ireturnOut hexec hret rfl (Or.inr (Or.inr (Or.inl rfl))) (hb hbytes d8) hl)⟩
end CodL
/-- the String at a is Latin-1 over a new byte[] (the heap's one new cell): the low bytes of the len chars of A from o on; every cell but a is kept -/
def Got (a : Addr) (D : Cell) (fV fC : Field) (A : Cell) (o len : Nat) (r : Option Value) (s u : State) : Prop := r = none ∧ ∃ D' V : Cell, Blank "java/lang/String" a D' u ∧ Same D D' [fV.slot, fC.slot] ∧ D'.slots[fV.slot]? = some (.ref s.heap.size) ∧ D'.slots[fC.slot]? = some (.int 0) ∧ Arr .byte s.heap.size V u ∧ V.vm = .none ∧ u.vm.findClass "[B" = some V.cls ∧ V.slots.size = len ∧ (∀ j, j < len → V.slots[j]? = some (.int (lo8 (cv A (o + j))))) ∧ (∀ (y : Addr) (c : Cell), y ≠ a → s.heap[y]? = some c → u.heap[y]? = some c) ∧ u.heap.size = s.heap.size + 1
theorem Got.mv {a : Addr} {D A : Cell} {fV fC : Field} {o len : Nat} : ∀ r (U U' V V' : State), U'.heap = U.heap → V.vm.Alike V'.vm → V'.heap = V.heap → Got a D fV fC A o len r U V → Got a D fV fC A o len r U' V' :=
  fun r U U' V V' h1 hal h2 ⟨e0, D', X, a1, a2, a3, a4, a5, a6, a7, a8, a9, a10, a11⟩ => ⟨e0, D', X, a1.mv hal h2, a2, by rw [h1]; exact a3, a4, by rw [h1]; exact a5.mv hal h2, a6, by rw [hal.findClass]; exact a7, a8, a9, by rw [h1, h2]; exact a10, by rw [h1, h2]; exact a11⟩
namespace New4
def yN : MethodName := ⟨"java/lang/String", "<init>", "([CIILjava/lang/Void;)V"⟩
abbrev yB : ByteArray := jdk_42_method_149_code
theorem d0 : decode yB 0 = .ok (.aload_n 0, 1) := by decide +kernel
theorem d1 : decode yB 1 = .ok (.invokespecial 1, 3) := by decide +kernel
theorem d4 : decode yB 4 = .ok (.iload_n 3, 1) := by decide +kernel
theorem d5 : decode yB 5 = .ok (.ifCond (.ne) 22, 3) := by decide +kernel
theorem d27 : decode yB 27 = .ok (.getstatic 38, 3) := by decide +kernel
theorem d30 : decode yB 30 = .ok (.ifCond (.eq) 28, 3) := by decide +kernel
theorem d33 : decode yB 33 = .ok (.aload_n 1, 1) := by decide +kernel
theorem d34 : decode yB 34 = .ok (.iload_n 2, 1) := by decide +kernel
theorem d35 : decode yB 35 = .ok (.iload_n 3, 1) := by decide +kernel
theorem d36 : decode yB 36 = .ok (.invokestatic 177, 3) := by decide +kernel
theorem d39 : decode yB 39 = .ok (.astore 5, 2) := by decide +kernel
theorem d41 : decode yB 41 = .ok (.aload_n 0, 1) := by decide +kernel
theorem d42 : decode yB 42 = .ok (.aload 5, 2) := by decide +kernel
theorem d44 : decode yB 44 = .ok (.iload_n 3, 1) := by decide +kernel
theorem d45 : decode yB 45 = .ok (.invokestatic 47, 3) := by decide +kernel
theorem d48 : decode yB 48 = .ok (.putfield 15, 3) := by decide +kernel
theorem d51 : decode yB 51 = .ok (.aload_n 0, 1) := by decide +kernel
theorem d52 : decode yB 52 = .ok (.aload 5, 2) := by decide +kernel
theorem d54 : decode yB 54 = .ok (.putfield 9, 3) := by decide +kernel
theorem d57 : decode yB 57 = .ok (.return_, 1) := by decide +kernel
def site : List Cond := [.fieldLink "java/lang/String" 38 "java/lang/String" "COMPACT_STRINGS" "Z", Cmp3.tab, CodL.tab, .laysFinal "java/lang/String" "java/lang/String" "value" "[B", .fieldLink "java/lang/String" 9 "java/lang/String" "value" "[B", .laysFinal "java/lang/String" "java/lang/String" "coder" "B", .fieldLink "java/lang/String" 15 "java/lang/String" "coder" "B"] ++ objW "java/lang/String" 1 ++ staticW "java/lang/String" 177 Cmp3.yN ++ staticW "java/lang/String" 47 CodL.yN
def tab : Cond := tabOf yN yB 6 none site
def P (a : Addr) (D : Cell) (fV fC : Field) (b : Addr) (A : Cell) (z : Int32) (o len : Nat) (args : Array Value) (s : State) : Prop := args = #[.ref a, .ref b, .int (Int32.ofNat o), .int (Int32.ofNat len), .null] ∧ Blank "java/lang/String" a D s ∧ Found "java/lang/String" "value" "[B" fV s ∧ Found "java/lang/String" "coder" "B" fC s ∧ Ch b A s ∧ StaticIs s "java/lang/String" "COMPACT_STRINGS" "Z" (.int z) ∧ ¬ z = 0 ∧ 0 < len ∧ o + len ≤ A.slots.size ∧ len ≤ 536870912 ∧ ∀ i, i < len → ¬ 255 < cv A (o + i)
def E (a : Addr) (D : Cell) (fV fC : Field) (A : Cell) (o len : Nat) (r : Option Value) (s u : State) : Prop := Got a D fV fC A o len r s u
/-- len > 0, no char of the range above 255: a Latin-1 String of their low bytes -/
theorem law (l : Launch) (a : Addr) (D : Cell) (fV fC : Field) (b : Addr) (A : Cell) (z : Int32) (o len : Nat) : Law l yN 5 4 2 35 yB 6 none site (P a D fV fC b A z o len) (E a D fV fC A o len) [⟨a, fC.slot⟩, ⟨a, fV.slot⟩] 1 len := by
  refine Law.of_walk (plainFor_of_name (by decide +kernel)) (by decide +kernel) (by decide +kernel) (by decide) (fun _ _ h => by rw [h.1]; rfl) (fun _ U U' hal hh h => ⟨h.1, h.2.1.mv hal hh, h.2.2.1.al hal, h.2.2.2.1.al hal, h.2.2.2.2.1.mv hal hh, h.2.2.2.2.2.1.there hal hh, h.2.2.2.2.2.2⟩) (fun r U U' V V' h1 hal h2 h => Got.mv r U U' V V' h1 hal h2 h) ?_
  intro p e s m args below meth c s₁ X0 hexec hbytes hml hret hlk hnm hown hh0 W hP
  obtain ⟨rfl, hB, f1, f2, hA, s1, hz, l0, l1, l2, hp⟩ := hP
  have a31 := hA.1.2.2.2
  have c1 : Steps p.tables e below (s₁.setTop (entryFrame m #[.ref a, .ref b, .int (Int32.ofNat o), .int (Int32.ofNat len), .null] 6)) (s₁.setTop (mkF m 0 #[.val (.ref a), .val (.ref b), .val (.int (Int32.ofNat o)), .val (.int (Int32.ofNat len)), .val .null, .unset] [])) := entry rfl
  have c2 : Steps p.tables e below (s₁.setTop (entryFrame m #[.ref a, .ref b, .int (Int32.ofNat o), .int (Int32.ofNat len), .null] 6)) (s₁.setTop (mkF m 1 #[.val (.ref a), .val (.ref b), .val (.int (Int32.ofNat o)), .val (.int (Int32.ofNat len)), .val .null, .unset] [.ref a])) := c1.trans (by
    refine XS.aloadN X0.here hexec rfl (hb hbytes d0) rfl rfl ?_
    exact Steps.refl _)
  obtain ⟨T3, X3, q3, st3⟩ := X0.oinit hexec hown (wks W (objW "java/lang/String" 1)) (g := (mkF m 1 #[.val (.ref a), .val (.ref b), .val (.int (Int32.ofNat o)), .val (.int (Int32.ofNat len)), .val .null, .unset] [.ref a])) rfl (by rw [hml]; rfl) (rest := []) rfl (hb hbytes d1) (W := 0) (by show 2 * 0 + 0 ≤ _; decide) (Nat.le_of_ble_eq_true rfl) (Nat.le_of_ble_eq_true rfl)
  have hh3 := q3.trans hh0
  have c4 : Steps p.tables e below (s₁.setTop (entryFrame m #[.ref a, .ref b, .int (Int32.ofNat o), .int (Int32.ofNat len), .null] 6)) (T3.setTop (mkF m 27 #[.val (.ref a), .val (.ref b), .val (.int (Int32.ofNat o)), .val (.int (Int32.ofNat len)), .val .null, .unset] [])) := (c2.trans (st3 _ (Steps.refl _))).trans (by
    refine XS.iloadN X3.here hexec rfl (hb hbytes d4) rfl ?_
    refine XS.ifYes X3.here hexec rfl (pc0 := 5) rfl (hb hbytes d5) rfl (i0_ne_t (nz32 (by omega) l0)) (by decide) rfl ?_
    exact Steps.refl _)
  obtain ⟨T5, X5, q5, st5⟩ := X3.sget hexec hown (wk W (.fieldLink "java/lang/String" 38 "java/lang/String" "COMPACT_STRINGS" "Z")) s1 (fun _ _ h => by rw [hh3]; exact h) (g := (mkF m 27 #[.val (.ref a), .val (.ref b), .val (.int (Int32.ofNat o)), .val (.int (Int32.ofNat len)), .val .null, .unset] [])) rfl (hb hbytes d27)
  have hh5 := q5.trans hh3
  have c6 : Steps p.tables e below (s₁.setTop (entryFrame m #[.ref a, .ref b, .int (Int32.ofNat o), .int (Int32.ofNat len), .null] 6)) (T5.setTop (mkF m 30 #[.val (.ref a), .val (.ref b), .val (.int (Int32.ofNat o)), .val (.int (Int32.ofNat len)), .val .null, .unset] [.int z])) := c4.trans (st5 _ (Steps.refl _))
  have c7 : Steps p.tables e below (s₁.setTop (entryFrame m #[.ref a, .ref b, .int (Int32.ofNat o), .int (Int32.ofNat len), .null] 6)) (T5.setTop (mkF m 36 #[.val (.ref a), .val (.ref b), .val (.int (Int32.ofNat o)), .val (.int (Int32.ofNat len)), .val .null, .unset] [.int (Int32.ofNat len), .int (Int32.ofNat o), .ref b])) := c6.trans (by
    refine XS.ifNo X5.here hexec rfl (hb hbytes d30) rfl (i0_eq_f hz) ?_
    refine XS.aloadN X5.here hexec rfl (hb hbytes d33) rfl rfl ?_
    refine XS.iloadN X5.here hexec rfl (hb hbytes d34) rfl ?_
    refine XS.iloadN X5.here hexec rfl (hb hbytes d35) rfl ?_
    exact Steps.refl _)
  obtain ⟨v8, T8, X8, E8, g8⟩ := X5.callS hexec (Cmp3.law l b A o len) hown (wks W (staticW "java/lang/String" 177 Cmp3.yN)) (wk W Cmp3.tab) (W := 0) (Nat.le_of_ble_eq_true rfl) (Nat.le_of_ble_eq_true rfl) (Nat.le_refl _) (by show 0 + len ≤ len; omega) (g := (mkF m 36 #[.val (.ref a), .val (.ref b), .val (.int (Int32.ofNat o)), .val (.int (Int32.ofNat len)), .val .null, .unset] [.int (Int32.ofNat len), .int (Int32.ofNat o), .ref b])) rfl (by rw [hml]; rfl) c7 (argsL := [.ref b, .int (Int32.ofNat o), .int (Int32.ofNat len)]) (rest := []) rfl rfl (by show 2 * 0 + 0 ≤ _; decide) (hb hbytes d36) (⟨rfl, hA.mv X5.warmed.alike hh5, l1, l2, hp⟩)
  obtain ⟨e8, z8⟩ := E8
  obtain ⟨rfl, N, n1, n2, n3, n4, n5, n6⟩ := NewArr.mv _ T5 s _ _ hh5.symm (Vm.Alike.refl _) rfl e8
  rw [hh5] at z8
  have hB1 := hB.keep X8.warmed.alike (n6 _ _ hB.1)
  have hne : s.heap.size ≠ a := (Nat.ne_of_lt (Array.getElem?_eq_some_iff.mp hB.1).1).symm
  have c9 : Steps p.tables e below (s₁.setTop (entryFrame m #[.ref a, .ref b, .int (Int32.ofNat o), .int (Int32.ofNat len), .null] 6)) (T8.setTop (mkF m 39 #[.val (.ref a), .val (.ref b), .val (.int (Int32.ofNat o)), .val (.int (Int32.ofNat len)), .val .null, .unset] [.ref s.heap.size])) := g8
  have c10 : Steps p.tables e below (s₁.setTop (entryFrame m #[.ref a, .ref b, .int (Int32.ofNat o), .int (Int32.ofNat len), .null] 6)) (T8.setTop (mkF m 45 #[.val (.ref a), .val (.ref b), .val (.int (Int32.ofNat o)), .val (.int (Int32.ofNat len)), .val .null, .val (.ref s.heap.size)] [.int (Int32.ofNat N.slots.size), .ref s.heap.size, .ref a])) := by
    have hc : Steps p.tables e below (s₁.setTop (entryFrame m #[.ref a, .ref b, .int (Int32.ofNat o), .int (Int32.ofNat len), .null] 6)) (T8.setTop (mkF m 45 #[.val (.ref a), .val (.ref b), .val (.int (Int32.ofNat o)), .val (.int (Int32.ofNat len)), .val .null, .val (.ref s.heap.size)] [.int (Int32.ofNat len), .ref s.heap.size, .ref a])) := c9.trans (by
      refine XS.astore X8.here hexec rfl (hb hbytes d39) rfl rfl rfl ?_
      refine XS.aloadN X8.here hexec rfl (hb hbytes d41) rfl rfl ?_
      refine XS.aload X8.here hexec rfl (hb hbytes d42) rfl rfl ?_
      refine XS.iloadN X8.here hexec rfl (hb hbytes d44) rfl ?_
      exact Steps.refl _)
    rw [n4]; exact hc
  obtain ⟨v11, T11, X11, E11, g11⟩ := X8.callS hexec (CodL.law l s.heap.size N) hown (wks W (staticW "java/lang/String" 47 CodL.yN)) (wk W CodL.tab) (W := 1) (Nat.le_of_ble_eq_true rfl) (Nat.le_of_ble_eq_true rfl) (Nat.le_refl _) (by show 0 + len + 0 ≤ len; omega) (g := (mkF m 45 #[.val (.ref a), .val (.ref b), .val (.int (Int32.ofNat o)), .val (.int (Int32.ofNat len)), .val .null, .val (.ref s.heap.size)] [.int (Int32.ofNat N.slots.size), .ref s.heap.size, .ref a])) rfl (by rw [hml]; rfl) c10 (argsL := [.ref s.heap.size, .int (Int32.ofNat N.slots.size)]) (rest := [.ref a]) rfl rfl (by show 2 * 0 + (1 + 0) ≤ _; decide) (hb hbytes d45) (⟨rfl, n1⟩)
  obtain ⟨rfl, q11⟩ := E11
  have hB11 := hB1.mv (X8.warmed.alike.symm.trans X11.warmed.alike) q11
  have c12 : Steps p.tables e below (s₁.setTop (entryFrame m #[.ref a, .ref b, .int (Int32.ofNat o), .int (Int32.ofNat len), .null] 6)) (T11.setTop (mkF m 48 #[.val (.ref a), .val (.ref b), .val (.int (Int32.ofNat o)), .val (.int (Int32.ofNat len)), .val .null, .val (.ref s.heap.size)] [.int 0, .ref a])) := g11
  obtain ⟨T13, X13, p13, bl13, sl13, st13⟩ := X11.finit hexec hown (wk W (.fieldLink "java/lang/String" 15 "java/lang/String" "coder" "B")) (Or.inr ⟨_, (wk W (.laysFinal "java/lang/String" "java/lang/String" "coder" "B"))⟩) (Or.inl ⟨rfl, hnm⟩) f2 (Or.inl rfl) hB11 (t := .byte) (by decide +kernel) rfl (g := (mkF m 48 #[.val (.ref a), .val (.ref b), .val (.int (Int32.ofNat o)), .val (.int (Int32.ofNat len)), .val .null, .val (.ref s.heap.size)] [.int 0, .ref a])) rfl (rest := []) rfl (hb hbytes d48)
  have c14 : Steps p.tables e below (s₁.setTop (entryFrame m #[.ref a, .ref b, .int (Int32.ofNat o), .int (Int32.ofNat len), .null] 6)) (T13.setTop (mkF m 54 #[.val (.ref a), .val (.ref b), .val (.int (Int32.ofNat o)), .val (.int (Int32.ofNat len)), .val .null, .val (.ref s.heap.size)] [.ref s.heap.size, .ref a])) := (c12.trans (st13 _ (Steps.refl _))).trans (by
    refine XS.aloadN X13.here hexec rfl (hb hbytes d51) rfl rfl ?_
    refine XS.aload X13.here hexec rfl (hb hbytes d52) rfl rfl ?_
    exact Steps.refl _)
  obtain ⟨T15, X15, p15, bl15, sl15, st15⟩ := X13.finit hexec hown (wk W (.fieldLink "java/lang/String" 9 "java/lang/String" "value" "[B")) (Or.inr ⟨_, (wk W (.laysFinal "java/lang/String" "java/lang/String" "value" "[B"))⟩) (Or.inl ⟨rfl, hnm⟩) f1 (Or.inl rfl) bl13 (t := (.array .byte)) (by decide +kernel) rfl (g := (mkF m 54 #[.val (.ref a), .val (.ref b), .val (.int (Int32.ofNat o)), .val (.int (Int32.ofNat len)), .val .null, .val (.ref s.heap.size)] [.ref s.heap.size, .ref a])) rfl (rest := []) rfl (hb hbytes d54)
  have c16 : Steps p.tables e below (s₁.setTop (entryFrame m #[.ref a, .ref b, .int (Int32.ofNat o), .int (Int32.ofNat len), .null] 6)) (T15.setTop (mkF m 57 #[.val (.ref a), .val (.ref b), .val (.int (Int32.ofNat o)), .val (.int (Int32.ofNat len)), .val .null, .val (.ref s.heap.size)] [])) := c14.trans (st15 _ (Steps.refl _))
  have ap := apart (Or.inr ⟨_, (wk W (.laysFinal "java/lang/String" "java/lang/String" "value" "[B"))⟩) (Or.inr ⟨_, (wk W (.laysFinal "java/lang/String" "java/lang/String" "coder" "B"))⟩) f1 f2 (t₁ := .array .byte) (t₂ := .byte) (by decide +kernel) (by decide +kernel) (by decide)
  have al := X8.warmed.alike.symm.trans X15.warmed.alike
  have n7 : T11.heap[s.heap.size]? = some N := by rw [q11]; exact n1.1
  exact ⟨T15, none, _, _, _, X15, by simp, rfl, by omega, (fun _ => rfl), ⟨rfl, _, N, bl15, ((Same.refl D _).set _ (by simp)).set _ (by simp), sl15, (Cell.slots_setSlot_ne _ ap).trans sl13, n1.keep al (p15.other hne (p13.other hne n7)), n2, by rw [al.findClass]; exact n3, n4, n5, fun y c h1 h2 => p15.other h1 (p13.other h1 (by rw [q11]; exact n6 y c h2)), by rw [p15.2.2, p13.2.2, q11]; exact z8⟩, fun fs hl => c16.trans (X15.returnOut hexec hret (hb hbytes d57) hl)⟩
end New4
namespace New1
def yN : MethodName := ⟨"java/lang/String", "<init>", "([C)V"⟩
abbrev yB : ByteArray := jdk_42_method_3_code
theorem d0 : decode yB 0 = .ok (.aload_n 0, 1) := by decide +kernel
theorem d1 : decode yB 1 = .ok (.aload_n 1, 1) := by decide +kernel
theorem d2 : decode yB 2 = .ok (.iconst 0, 1) := by decide +kernel
theorem d3 : decode yB 3 = .ok (.aload_n 1, 1) := by decide +kernel
theorem d4 : decode yB 4 = .ok (.arraylength, 1) := by decide +kernel
theorem d5 : decode yB 5 = .ok (.aconst_null, 1) := by decide +kernel
theorem d6 : decode yB 6 = .ok (.invokespecial 27, 3) := by decide +kernel
theorem d9 : decode yB 9 = .ok (.return_, 1) := by decide +kernel
def site : List Cond := [New4.tab] ++ initW "java/lang/String" 27 New4.yN
def tab : Cond := tabOf yN yB 2 none site
def P (a : Addr) (D : Cell) (fV fC : Field) (b : Addr) (A : Cell) (z : Int32) (args : Array Value) (s : State) : Prop := args = #[.ref a, .ref b] ∧ Blank "java/lang/String" a D s ∧ Found "java/lang/String" "value" "[B" fV s ∧ Found "java/lang/String" "coder" "B" fC s ∧ Ch b A s ∧ StaticIs s "java/lang/String" "COMPACT_STRINGS" "Z" (.int z) ∧ ¬ z = 0 ∧ 0 < A.slots.size ∧ A.slots.size ≤ 536870912 ∧ ∀ i, i < A.slots.size → ¬ 255 < cv A i
def E (a : Addr) (D : Cell) (fV fC : Field) (A : Cell) (r : Option Value) (s u : State) : Prop := Got a D fV fC A 0 A.slots.size r s u
/-- new String(chars), not empty, no char above 255: a Latin-1 String of their low bytes -/
theorem law (l : Launch) (a : Addr) (D : Cell) (fV fC : Field) (b : Addr) (A : Cell) (z : Int32) : Law l yN 2 1 3 52 yB 2 none site (P a D fV fC b A z) (E a D fV fC A) [⟨a, fC.slot⟩, ⟨a, fV.slot⟩] 1 A.slots.size := by
  refine Law.of_walk (plainFor_of_name (by decide +kernel)) (by decide +kernel) (by decide +kernel) (by decide) (fun _ _ h => by rw [h.1]; rfl) (fun _ U U' hal hh h => ⟨h.1, h.2.1.mv hal hh, h.2.2.1.al hal, h.2.2.2.1.al hal, h.2.2.2.2.1.mv hal hh, h.2.2.2.2.2.1.there hal hh, h.2.2.2.2.2.2⟩) (fun r U U' V V' h1 hal h2 h => Got.mv r U U' V V' h1 hal h2 h) ?_
  intro p e s m args below meth c s₁ X0 hexec hbytes hml hret hlk hnm hown hh0 W hP
  obtain ⟨rfl, hB, f1, f2, hA, s1, hz, l0, l2, hp⟩ := hP
  have c1 : Steps p.tables e below (s₁.setTop (entryFrame m #[.ref a, .ref b] 2)) (s₁.setTop (mkF m 0 #[.val (.ref a), .val (.ref b)] [])) := entry rfl
  have c2 : Steps p.tables e below (s₁.setTop (entryFrame m #[.ref a, .ref b] 2)) (s₁.setTop (mkF m 6 #[.val (.ref a), .val (.ref b)] [.null, .int (Int32.ofNat A.slots.size), .int 0, .ref b, .ref a])) := c1.trans (by
    refine XS.aloadN X0.here hexec rfl (hb hbytes d0) rfl rfl ?_
    refine XS.aloadN X0.here hexec rfl (hb hbytes d1) rfl rfl ?_
    refine iconstV X0.here hexec rfl 0 (hb hbytes d2) (by decide) ?_
    refine XS.aloadN X0.here hexec rfl (hb hbytes d3) rfl rfl ?_
    refine X0.alen hexec (hA.1.mv X0.warmed.alike hh0) rfl rfl (hb hbytes d4) ?_
    refine XS.aconstNull X0.here hexec rfl (hb hbytes d5) ?_
    exact Steps.refl _)
  obtain ⟨v3, T3, X3, E3, g3⟩ := X0.callN hexec (New4.law l a D fV fC b A z 0 A.slots.size) rfl hown (wks W (initW "java/lang/String" 27 New4.yN)) (W New4.tab (by simp only [site, List.mem_cons, List.mem_append, true_or, or_true])) (W := 0) (Nat.le_of_ble_eq_true rfl) (Nat.le_of_ble_eq_true rfl) (Nat.le_refl _) (by show 0 + A.slots.size ≤ A.slots.size; omega) (g := (mkF m 6 #[.val (.ref a), .val (.ref b)] [.null, .int (Int32.ofNat A.slots.size), .int (Int32.ofNat 0), .ref b, .ref a])) rfl (by rw [hml]; rfl) c2 (argsL := [.ref b, .int (Int32.ofNat 0), .int (Int32.ofNat A.slots.size), .null]) (rest := []) rfl rfl (by show 2 * 0 + 0 ≤ _; decide) (hb hbytes d6) (⟨rfl, hB.mv X0.warmed.alike hh0, f1.al X0.warmed.alike, f2.al X0.warmed.alike, hA.mv X0.warmed.alike hh0, s1.there X0.warmed.alike hh0, hz, l0, by omega, l2, fun i hi => by rw [Nat.zero_add]; exact hp i hi⟩)
  have e0 := Got.mv _ s₁ s _ _ hh0.symm (Vm.Alike.refl _) rfl E3
  obtain rfl := e0.1
  have c4 : Steps p.tables e below (s₁.setTop (entryFrame m #[.ref a, .ref b] 2)) (T3.setTop (mkF m 9 #[.val (.ref a), .val (.ref b)] [])) := g3
  exact ⟨T3, none, _, _, _, X3, by simp, rfl, by omega, (fun _ => rfl), e0, fun fs hl => c4.trans (X3.returnOut hexec hret (hb hbytes d9) hl)⟩
theorem pays {l : Launch} {R : Room} {p : Program} {e : Env} {below : List Frame} {s : State} {sargs : Array Value} {len W : Nat} (a : Addr) (D : Cell) (fV fC : Field) (b : Addr) (A : Cell) (z : Int32) (htab : tab.before sargs s = true) (hfr : 4 ≤ R.frames) (hlo : W + 65 ≤ R.locals) :
    Back l R p e below s sargs yN len W (fun A₁ a₁ => A₁.cells + 1 ≤ R.cells ∧ A₁.slots + A.slots.size ≤ R.slots ∧ P a D fV fC b A z a₁ A₁.U) (fun A₁ _ v₁ B₁ => E a D fV fC A v₁ A₁.U B₁.U ∧ B₁.locs = A₁.locs ++ [⟨a, fC.slot⟩, ⟨a, fV.slot⟩] ∧ B₁.cells = A₁.cells + 1 ∧ B₁.slots = A₁.slots + A.slots.size) :=
  (law l a D fV fC b A z).pays htab hfr (by omega)
end New1
end StrChars
namespace StrChars.Road
open Jvm Sem ClassFile Op Lib Jvm.Stand Jvm.Free Jvm.Free.XT
open Jvm.Lib.Cold (StaticIs)
abbrev ST : String := "java/lang/String"
/-- every table word that New1's law asks, flat -/
abbrev words : List Jvm.Cond := [.code New1.yN New1.yB 2 none, .initialized ST, .methodLink ST 27 New4.yN, .instanceMethod New4.yN,
  .code New4.yN New4.yB 6 none, .fieldLink ST 38 ST "COMPACT_STRINGS" "Z", .laysFinal ST ST "value" "[B", .fieldLink ST 9 ST "value" "[B", .laysFinal ST ST "coder" "B", .fieldLink ST 15 ST "coder" "B",
  .methodLink ST 1 Lib.objectInit, .instanceMethod Lib.objectInit, .code Lib.objectInit ⟨#[0xb1]⟩ 1 none, .methodLink ST 177 Cmp3.yN, .static Cmp3.yN, .methodLink ST 47 CodL.yN, .static CodL.yN,
  .code Cmp3.yN Cmp3.yB 6 (some (.array .byte)), .initialized U16, .arrayClass .byte, .methodLink U16 115 Cmp5.yN, .static Cmp5.yN, .code Cmp5.yN Cmp5.yB 7 (some .int), .code CodL.yN CodL.yB 2 (some .byte)]
theorem tab_of {a : Array Value} {s : State} (h : ∀ w ∈ words, w.before a s = true) : New1.tab.before a s = true := by
  have h5 : Cmp5.tab.before a s = true := unparts (wk h (.code Cmp5.yN Cmp5.yB 7 (some .int))) (wks h (.initialized Cmp5.yN.cls :: Cmp5.site))
  have hc : CodL.tab.before a s = true := unparts (wk h (.code CodL.yN CodL.yB 2 (some .byte))) (wks h (.initialized CodL.yN.cls :: CodL.site))
  have q5 : ∀ w ∈ Cmp5.tab :: words, w.before a s = true := fun w hw => (List.mem_cons.mp hw).elim (fun e => e ▸ h5) (h w)
  have h3 : Cmp3.tab.before a s = true := unparts (wk q5 (.code Cmp3.yN Cmp3.yB 6 (some (.array .byte)))) (wks q5 (.initialized Cmp3.yN.cls :: Cmp3.site))
  have q3 : ∀ w ∈ Cmp3.tab :: CodL.tab :: words, w.before a s = true := fun w hw => (List.mem_cons.mp hw).elim (fun e => e ▸ h3) fun hw => (List.mem_cons.mp hw).elim (fun e => e ▸ hc) (h w)
  have h4 : New4.tab.before a s = true := unparts (wk q3 (.code New4.yN New4.yB 6 none)) (wks q3 (.initialized New4.yN.cls :: New4.site))
  have q4 : ∀ w ∈ New4.tab :: words, w.before a s = true := fun w hw => (List.mem_cons.mp hw).elim (fun e => e ▸ h4) (h w)
  exact unparts (wk q4 (.code New1.yN New1.yB 2 none)) (wks q4 (.initialized New1.yN.cls :: New1.site))
/-- the words ride from the start Z to the walk's own state -/
theorem moved {Z s : State} {a0 args : Array Value} (hZ : Z.Warmed39 s.vm) (hw : ∀ d ∈ words, d.before a0 Z = true) : ∀ d ∈ words, d.before args s = true := fun d hd => by
  have q := hw d hd
  have t : ∀ d ∈ words, d = .arrayClass .byte ∨ (d.onTables && d.keepsFace) = true := by decide +kernel
  rcases t d hd with rfl | t
  · exact RoadKit.mvA hZ q
  · exact RoadKit.mv hZ q t
/-- WHAT COMES BACK, over the tables of the start Z: h the heap at the call, h' behind it -/
def Q (Z : State) (x : Addr) (A : Cell) (h : Heap) (v : Option Value) (h' : Heap) (L : List Loc) : Prop := v = none ∧ (∀ y ∈ L, y.base = x) ∧ RoadKit.Keep h h' [x] ∧ h'.size = h.size + 1 ∧ RoadKit.Exa Z h' x ST ∧ RoadKit.Fld Z h' x ST "value" "[B" (.ref h.size) ∧ RoadKit.Fld Z h' x ST "coder" "B" (.int 0) ∧
  (∃ V : Cell, RoadKit.Arr Z h' h.size V .byte ∧ V.vm = .none ∧ Z.vm.findClass "[B" = some V.cls ∧ V.slots.size = A.slots.size ∧ ∀ j, j < A.slots.size → V.slots[j]? = some (.int (lo8 (cv A j)))) ∧
  ∀ (O n d : String) (w : Value), RoadKit.Fld Z h x O n d w → RoadKit.slotOf Z O n d ≠ RoadKit.slotOf Z ST "value" "[B" → RoadKit.slotOf Z O n d ≠ RoadKit.slotOf Z ST "coder" "B" → RoadKit.Fld Z h' x O n d w
/-- **new String(chars) AT A CALL, IN THE ROAD'S FORM**: for specialBack behind newO: x the fresh String, b the char[] with the cell A -/
theorem back {p : Program} {l : Launch} {e : Env} {R : Room} {s : State} {args : Array Value} {below : List Frame} {len W : Nat} {Z : State} {a0 : Array Value} {h : Heap} (hZ : Z.Warmed39 s.vm) (hw : ∀ d ∈ words, d.before a0 Z = true) {kI : Nat} (wi : (Jvm.Cond.instantiable ST kI).before a0 Z = true)
    {x b : Addr} {A : Cell} {z : Int32} {v0 c0 : Value} (E : RoadKit.Exa Z h x ST) (V : RoadKit.Fld Z h x ST "value" "[B" v0) (C : RoadKit.Fld Z h x ST "coder" "B" c0) (K : RoadKit.Arr Z h b A .char) (hty : Typed .char A) (S : RoadKit.Sta Z h ST "COMPACT_STRINGS" "Z" (.int z)) (hz : ¬ z = 0)
    (l0 : 0 < A.slots.size) (l2 : A.slots.size ≤ 536870912) (hp : ∀ i, i < A.slots.size → ¬ 255 < cv A i) (hfr : 4 ≤ R.frames) (hlo : W + 65 ≤ R.locals) :
    Back l R p e below s args New1.yN len W (fun P a => a = #[.ref x, .ref b] ∧ P.U.heap = h ∧ P.cells + 1 ≤ R.cells ∧ P.slots + A.slots.size ≤ R.slots)
      (fun P _ v B => ∃ L, Q Z x A h v B.U.heap L ∧ B.locs = P.locs ++ L ∧ B.cells = P.cells + 1 ∧ B.slots = P.slots + A.slots.size) := by
  intro m meth c P g ig mk a X hg hsize hdg hW hn hp'
  obtain ⟨rfl, rfl, r1, r2⟩ := hp'
  have al : Z.vm.Alike P.U.vm := hZ.alike.trans X.warmed.alike
  obtain ⟨D, cfV, kV, iV, fV, hD, gV, stV, knV, obV, asV, slV⟩ := id V
  obtain ⟨D', cfC, kC, iC, fC, hD', gC, stC, -, -, asC, slC⟩ := id C
  cases hD.symm.trans hD'
  obtain ⟨D2, kD, e1, e2, e3, e4, e5⟩ := id E
  cases hD.symm.trans e1
  obtain ⟨c2, k2, i1, i2, i3, -⟩ := Cond.instantiable_spec wi
  cases e2.symm.trans i1
  cases e3.symm.trans i2
  obtain ⟨kU, u1, u2⟩ := al.2.2 _ _ e3
  have hB : Blank ST x D P.U := ⟨hD, ⟨knV, fun q hq => by rw [hq] at obV; cases obV⟩, by rw [al.findClass]; exact e2, kU, u1, by rw [u2]; exact i3, by rw [u2]; exact e5 i3⟩
  have F1 : Found ST "value" "[B" fV P.U := ⟨SBG.found_only al ⟨cfV, kV, iV, gV⟩, stV⟩
  have F2 : Found ST "coder" "B" fC P.U := ⟨SBG.found_only al ⟨cfC, kC, iC, gC⟩, stC⟩
  have hA : Ch b A P.U := ⟨⟨K.1, State.isArrayOf_alike al K.2.1, K.2.2, by omega⟩, hty⟩
  have hS : StaticIs P.U ST "COMPACT_STRINGS" "Z" (.int z) := by
    obtain ⟨cfS, iS, kS, fS, st, cS, t1, t2, t3, t4, t5, t6, t7⟩ := S
    exact StaticIs.there (s := { Z with heap := P.U.heap }) ⟨cfS, iS, kS, fS, st, cS, t1, t2, t3, t4, t5, (fun q => by rw [q] at t6; cases t6), t7⟩ al rfl
  obtain ⟨v, B, X', ⟨⟨hv, E', V', q1, q2, q3, q4, q5, q6, q7, q8, q9, q10, q11⟩, hl, hc, hs⟩, st⟩ := New1.pays x D fV fC b A z (tab_of (moved hZ hw)) hfr hlo m meth c P g ig mk _ X hg hsize hdg hW hn ⟨r1, r2, rfl, hB, F1, F2, hA, hS, hz, l0, l2, hp⟩
  have al' : Z.vm.Alike B.U.vm := hZ.alike.trans X'.warmed.alike
  have hsz : E'.slots.size = D.slots.size := by
    obtain ⟨-, -, -, kB, w1, w2, w3⟩ := q1
    obtain ⟨kB', y1, y2⟩ := al'.2.2 _ _ e3
    rw [q2.2.1] at w1
    cases w1.symm.trans y1
    rw [w3, e5 i3, y2]
  refine ⟨v, B, X', ⟨_, ⟨hv, ?_, ⟨by omega, fun y cy hy hn' => q10 y cy (by simpa using hn') hy, fun y cy hy => ?_⟩, q11, ⟨E', _, q1.1, by rw [q2.2.1]; exact e2, by rw [q2.2.1]; exact e3, by rw [q2.1]; exact obV, fun _ => by rw [hsz]; exact e5 i3⟩,
    ⟨E', cfV, kV, iV, fV, q1.1, gV, stV, by rw [q2.1]; exact knV, by rw [q2.1]; exact obV, by rw [q2.2.1]; exact asV, q3⟩, ⟨E', cfC, kC, iC, fC, q1.1, gC, stC, by rw [q2.1]; exact knV, by rw [q2.1]; exact obV, by rw [q2.2.1]; exact asC, q4⟩,
    ⟨V', ⟨q5.1, State.isArrayOf_alike al'.symm q5.2.1, q5.2.2.1⟩, q6, by rw [← al'.findClass]; exact q7, q8, fun j hj => by have := q9 j hj; rwa [Nat.zero_add] at this⟩, fun O n d w F n1 n2 => ?_⟩, hl, hc, hs⟩, st⟩
  · intro y hy
    simp only [List.mem_cons, List.not_mem_nil, or_false] at hy
    rcases hy with rfl | rfl <;> rfl
  · by_cases q : y = x
    · subst q
      cases hD.symm.trans hy
      exact ⟨E', q1.1, q2.2.1, q2.1, hsz⟩
    · exact ⟨cy, q10 y cy q hy, rfl, rfl, rfl⟩
  · obtain ⟨D3, cf, k, i, f, g1, g2, g3, g4, g5, g6, g7⟩ := F
    cases hD.symm.trans g1
    simp only [RoadKit.slotOf, g2, gV, gC, Option.map_some, Option.getD_some] at n1 n2
    exact ⟨E', cf, k, i, f, q1.1, g2, g3, by rw [q2.1]; exact g4, by rw [q2.1]; exact g5, by rw [q2.2.1]; exact g6, by rw [q2.2.2 f.slot (by simp [n1, n2])]; exact g7⟩
end StrChars.Road
namespace StrChars.Road
open Jvm Sem ClassFile Op Lib Jvm.Stand Jvm.Free Jvm.Free.XT
/-- WHAT COMES BACK, the byte[] as a list of values -/
def QA (Z : State) (x : Addr) (zn : Int32) (cs : List Int32) (h : Heap) (v : Option Value) (h' : Heap) (L : List Loc) : Prop := v = none ∧ (∀ y ∈ L, y.base = x) ∧ RoadKit.Keep h h' [x] ∧ h'.size = h.size + 1 ∧ RoadKit.Exa Z h' x ST ∧ RoadKit.Fld Z h' x ST "value" "[B" (.ref h.size) ∧ RoadKit.Fld Z h' x ST "coder" "B" (.int 0) ∧
  (∃ kb, Z.vm.findClass "[B" = some kb ∧ RoadKit.Arv Z h' h.size kb .byte zn (cs.map fun c => .int (lo8 c)) (.int 0)) ∧
  ∀ (O n d : String) (w : Value), RoadKit.Fld Z h x O n d w → RoadKit.slotOf Z O n d ≠ RoadKit.slotOf Z ST "value" "[B" → RoadKit.slotOf Z O n d ≠ RoadKit.slotOf Z ST "coder" "B" → RoadKit.Fld Z h' x O n d w
/-- **new String(chars) AT A CALL, THE ARRAYS AS LISTS**: the char[] at b holds cs, not empty, no char above 255 -/
theorem backArv {p : Program} {l : Launch} {e : Env} {R : Room} {s : State} {args : Array Value} {below : List Frame} {len W : Nat} {Z : State} {a0 : Array Value} {h : Heap} (hZ : Z.Warmed39 s.vm) (hw : ∀ d ∈ words, d.before a0 Z = true) {kI : Nat} (wi : (Jvm.Cond.instantiable ST kI).before a0 Z = true)
    {x b : Addr} {k : ClassId} {zn z : Int32} {cs : List Int32} {dv v0 c0 : Value} (E : RoadKit.Exa Z h x ST) (V : RoadKit.Fld Z h x ST "value" "[B" v0) (C : RoadKit.Fld Z h x ST "coder" "B" c0) (K : RoadKit.Arv Z h b k .char zn (cs.map Value.int) dv) (S : RoadKit.Sta Z h ST "COMPACT_STRINGS" "Z" (.int z)) (hz : ¬ z = 0)
    (hlen : zn.toNatClampNeg = cs.length) (h0 : 0 < cs.length) (hbig : cs.length ≤ 536870912) (hall : ∀ c ∈ cs, ¬ 255 < c) (hfr : 4 ≤ R.frames) (hlo : W + 65 ≤ R.locals) :
    Back l R p e below s args New1.yN len W (fun P a => a = #[.ref x, .ref b] ∧ P.U.heap = h ∧ P.cells + 1 ≤ R.cells ∧ P.slots + cs.length ≤ R.slots)
      (fun P _ v B => ∃ L, QA Z x zn cs h v B.U.heap L ∧ B.locs = P.locs ++ L ∧ B.cells = P.cells + 1 ∧ B.slots = P.slots + cs.length) := by
  obtain ⟨A, K1, K2, K3, K4, K5, K6⟩ := K
  have e : A.slots.size = cs.length := K3.trans hlen
  have hat : ∀ (i : Nat) (hi : i < cs.length), A.slots[i]? = some (.int cs[i]) := fun i hi => by rw [K5 i (by omega)]; simp [List.getD_eq_getElem?_getD, hi]
  have hcv : ∀ (i : Nat) (hi : i < cs.length), cv A i = cs[i] := fun i hi => by unfold cv; rw [hat i hi]
  have hty : Typed .char A := fun i v hv => by
    have hi : i < A.slots.size := (Array.getElem?_eq_some_iff.mp hv).1
    have q := K5 i hi
    rw [hv] at q
    rw [Option.some.inj q]
    exact K6 i hi
  refine Back.mono (back hZ hw wi E V C K1 hty S hz (by omega) (by omega) (fun i hi => by rw [hcv i (by omega)]; exact hall _ (List.getElem_mem _)) hfr hlo) (fun P a hp => ⟨hp.1, hp.2.1, hp.2.2.1, by rw [e]; exact hp.2.2.2⟩) (fun P a v B hp hq => ?_)
  obtain ⟨L, ⟨q1, q2, q3, q4, q5, q6, q7, ⟨V', v1, v2, v3, v4, v5⟩, q9⟩, hl, hc, hs⟩ := hq
  refine ⟨L, ⟨q1, q2, q3, q4, q5, q6, q7, ⟨V'.cls, v3, V', v1, rfl, by rw [v4, e, hlen], K4, fun i hi => ?_, fun i hi => ?_⟩, q9⟩, hl, hc, by rw [hs, e]⟩
  · have hi' : i < cs.length := by omega
    rw [v5 i (by omega), hcv i hi']; simp [List.getD_eq_getElem?_getD, hi']
  · have hi' : i < cs.length := by omega
    simp only [List.getD_eq_getElem?_getD, List.getElem?_map, List.getElem?_eq_getElem hi', Option.map_some, Option.getD_some]
    exact fits_lo8 _
end StrChars.Road
namespace StrChars.Road
open Jvm Sem ClassFile Op Lib Jvm.Stand Jvm.Free Jvm.Free.XT
/-- WHAT COMES BACK, in the writer's own shape -/
def QV (Z : State) (x : Addr) (N : Int32) (bs : List Int32) (h : Heap) (n0 : Nat) (v : Option Value) (h' : Heap) (L : List Loc) : Prop := v = none ∧ RoadKit.Fr n0 L ∧ RoadKit.Keep h h' [x] ∧ RoadKit.Exa Z h' x ST ∧ RoadKit.Fld Z h' x ST "coder" "B" (.int 0) ∧
  ∃ (t : Addr) (kb : ClassId), n0 ≤ t ∧ h.size ≤ t ∧ ¬ t = x ∧ RoadKit.Fld Z h' x ST "value" "[B" (.ref t) ∧ RoadKit.Arv Z h' t kb .byte N (bs.map Value.int) (.int 0)
/-- **new String(chars) AT A CALL, FOR THE WRITER**: a char[] of n known ints, each 0 to 255 -/
theorem backV {p : Program} {l : Launch} {e : Env} {R : Room} {s : State} {args : Array Value} {below : List Frame} {len W : Nat} {Z : State} {a0 : Array Value} {h : Heap} (hZ : Z.Warmed39 s.vm) (hw : ∀ d ∈ words, d.before a0 Z = true) {kI : Nat} (wi : (Jvm.Cond.instantiable ST kI).before a0 Z = true)
    {x b : Addr} {kC : ClassId} {cs bs : List Int32} {d v0 c0 : Value} {z N : Int32} {n n0 : Nat} (hx0 : n0 ≤ x) (hh0 : n0 ≤ h.size) (E : RoadKit.Exa Z h x ST) (V : RoadKit.Fld Z h x ST "value" "[B" v0) (C : RoadKit.Fld Z h x ST "coder" "B" c0) (K : RoadKit.Arv Z h b kC .char N (cs.map Value.int) d) (S : RoadKit.Sta Z h ST "COMPACT_STRINGS" "Z" (.int z)) (hz : ¬ z = 0)
    (hn : cs.length = n) (hN : N = Int32.ofNat n) (l0 : 0 < n) (l2 : n ≤ 4000) (hp : ∀ c ∈ cs, ¬ c < 0 ∧ ¬ (255 : Int32) < c) (hb : bs = cs.map (fun c => c.toInt8.toInt32)) (hfr : 4 ≤ R.frames) (hlo : W + 65 ≤ R.locals) :
    Back l R p e below s args (⟨"java/lang/String", "<init>", "([C)V"⟩ : MethodName) len W (fun P a => a = #[.ref x, .ref b] ∧ P.U.heap = h ∧ P.cells + 1 ≤ R.cells ∧ P.slots + n ≤ R.slots)
      (fun P _ v B => ∃ L, QV Z x N bs h n0 v B.U.heap L ∧ B.locs = P.locs ++ L ∧ B.cells = P.cells + 1 ∧ B.slots = P.slots + n) := by
  subst hn hN hb
  refine Back.mono (backArv hZ hw wi E V C K S hz (n32 (by omega)) l0 (by omega) (fun c hc => (hp c hc).2) hfr hlo) (fun P a hp => hp) (fun P a v B hp hq => ?_)
  obtain ⟨L, ⟨q1, q2, q3, q4, q5, q6, q7, ⟨kb, v1, v2⟩, q9⟩, hl, hc, hs⟩ := hq
  exact ⟨L, ⟨q1, fun y hy => by rw [q2 y hy]; exact hx0, q3, q5, q7, h.size, kb, hh0, Nat.le_refl _, Nat.ne_of_gt E.lt, q6, by rw [List.map_map]; exact v2⟩, hl, hc, hs⟩
end StrChars.Road
namespace StrChars
open Jvm Sem ClassFile Op Lib Jvm.Stand Jvm.Free.XT Jvm.Free.ALB Jvm.Free.JM Jvm.Free
open Jvm.Lib.Cold (StaticIs)
def hi8 (x : Int32) : Int32 := lo8 (x >>> ((8 : Int32) &&& 31))
theorem shr0 (c : Int32) : c >>> ((0 : Int32) &&& 31) = c := by
  have e : ((0 : Int32) &&& 31) = 0 := by decide
  rw [e]
  apply Int32.toBitVec_inj.mp
  rw [Int32.toBitVec_shiftRight]
  have e1 : ((0 : Int32).toBitVec.smod 32) = 0#32 := by decide
  rw [e1, BitVec.sshiftRight_eq']
  exact BitVec.sshiftRight_zero
end StrChars
namespace StrChars
open Jvm Sem ClassFile Op Lib Jvm.Stand Jvm.Free.XT Jvm.Free.ALB Jvm.Free.JM Jvm.Free
open Jvm.Lib.Cold (StaticIs)
theorem shr1 {n : Nat} (h : 2 * n < 2 ^ 31) : Int32.ofNat (2 * n) >>> ((1 : Int32) &&& 31) = Int32.ofNat n := by
  have e : ((1 : Int32) &&& 31) = 1 := by decide
  rw [e]
  apply Int32.toBitVec_inj.mp
  rw [Int32.toBitVec_shiftRight]
  have e1 : ((1 : Int32).toBitVec.smod 32) = 1#32 := by decide
  have hm : (BitVec.ofNat 32 (2 * n)).toNat = 2 * n := by rw [BitVec.toNat_ofNat, Nat.mod_eq_of_lt (by omega)]
  rw [e1, BitVec.sshiftRight_eq']
  apply BitVec.eq_of_toNat_eq
  show ((BitVec.ofNat 32 (2 * n)).sshiftRight 1).toNat = (BitVec.ofNat 32 n).toNat
  rw [BitVec.toNat_sshiftRight_of_msb_false (by rw [BitVec.msb_eq_false_iff_two_mul_lt, hm]; omega), hm, BitVec.toNat_ofNat, Nat.shiftRight_eq_div_pow]
  omega
/-- the array's cell V codes the n chars f 0 .. f (n - 1) by the coder cd, as the JDK does: coder 1 just where some char is above 255 -/
def Cod (cd : Int32) (n : Nat) (f : Nat → Int32) (V : Cell) : Prop := (cd = 0 ∧ V.slots.size = n ∧ ∀ j, j < n → V.slots[j]? = some (.int (lo8 (f j))) ∧ ¬ 255 < f j) ∨ (cd = 1 ∧ V.slots.size = 2 * n ∧ (∀ j, j < n → V.slots[2 * j]? = some (.int (lo8 (f j))) ∧ V.slots[2 * j + 1]? = some (.int (hi8 (f j)))) ∧ ∃ j, j < n ∧ 255 < f j)
theorem Cod.cd {cd : Int32} {n : Nat} {f : Nat → Int32} {V : Cell} (h : Cod cd n f V) : cd = 0 ∨ cd = 1 := h.imp (fun q => q.1) fun q => q.1
theorem Cod.len {cd : Int32} {n : Nat} {f : Nat → Int32} {V : Cell} (h : Cod cd n f V) (hs : V.slots.size < 2 ^ 31) : Int32.ofNat V.slots.size >>> (cd &&& 31) = Int32.ofNat n := by
  rcases h with ⟨rfl, h, -⟩ | ⟨rfl, h, -⟩
  · rw [shr0, h]
  · rw [h, shr1 (by omega)]
/-- **x is a String of the n chars f 0 .. f (n - 1)**, Latin-1 or UTF-16; its array at t has the cell V -/
def Txt (x t : Addr) (V : Cell) (cd : Int32) (n : Nat) (f : Nat → Int32) (U : State) : Prop := Exact "java/lang/String" x U ∧ Has x "java/lang/String" "value" "[B" (.ref t) U ∧ Has x "java/lang/String" "coder" "B" (.int cd) U ∧ XT.Arr .byte t V U ∧ Cod cd n f V ∧ ∀ j, j < n → ¬ f j < 0 ∧ ¬ 65535 < f j
theorem Txt.mv {x t : Addr} {V : Cell} {cd : Int32} {n : Nat} {f : Nat → Int32} {U U' : State} (h : Txt x t V cd n f U) (hal : U.vm.Alike U'.vm) (hh : U'.heap = U.heap) : Txt x t V cd n f U' := ⟨h.1.mv hal hh, h.2.1.mv hal hh, h.2.2.1.mv hal hh, h.2.2.2.1.mv hal hh, h.2.2.2.2⟩
namespace Cdr
def yN : MethodName := ⟨"java/lang/String", "coder", "()B"⟩
abbrev yB : ByteArray := jdk_42_method_152_code
theorem d0 : decode yB 0 = .ok (.getstatic 38, 3) := by decide +kernel
theorem d3 : decode yB 3 = .ok (.ifCond (.eq) 10, 3) := by decide +kernel
theorem d6 : decode yB 6 = .ok (.aload_n 0, 1) := by decide +kernel
theorem d7 : decode yB 7 = .ok (.getfield 15, 3) := by decide +kernel
theorem d10 : decode yB 10 = .ok (.goto 4, 3) := by decide +kernel
theorem d14 : decode yB 14 = .ok (.ireturn, 1) := by decide +kernel
def site : List Cond := [.fieldLink "java/lang/String" 38 "java/lang/String" "COMPACT_STRINGS" "Z", .fieldLink "java/lang/String" 15 "java/lang/String" "coder" "B"]
def tab : Cond := tabOf yN yB 1 (some .byte) site
def P (x : Addr) (cd z : Int32) (args : Array Value) (s : State) : Prop := args = #[.ref x] ∧ Has x "java/lang/String" "coder" "B" (.int cd) s ∧ (cd = 0 ∨ cd = 1) ∧ StaticIs s "java/lang/String" "COMPACT_STRINGS" "Z" (.int z) ∧ ¬ z = 0
def E (cd : Int32) (r : Option Value) (s u : State) : Prop := XT.PureE (some (.int cd)) r s u
theorem law (l : Launch) (x : Addr) (cd z : Int32) : Law l yN 1 0 0 0 yB 1 (some .byte) site (P x cd z) (E cd) [] 0 0 := by
  refine Law.of_walk (plainFor_of_name (by decide +kernel)) (by decide +kernel) (by decide +kernel) (by decide) (fun _ _ h => by rw [h.1]; rfl) (fun _ U U' hal hh h => ⟨h.1, h.2.1.mv hal hh, h.2.2.1, h.2.2.2.1.there hal hh, h.2.2.2.2⟩) (fun r U U' V V' h1 hal h2 h => XT.PureE.mv r U U' V V' h1 hal h2 h) ?_
  intro p e s m args below meth c s₁ X0 hexec hbytes hml hret hlk hnm hown hh0 W hP
  obtain ⟨rfl, hx, hc, s1, hz⟩ := hP
  have c1 : Steps p.tables e below (s₁.setTop (entryFrame m #[.ref x] 1)) (s₁.setTop (mkF m 0 #[.val (.ref x)] [])) := entry rfl
  obtain ⟨T2, X2, q2, st2⟩ := X0.sget hexec hown (wk W (.fieldLink "java/lang/String" 38 "java/lang/String" "COMPACT_STRINGS" "Z")) s1 (fun _ _ h => by rw [hh0]; exact h) (g := (mkF m 0 #[.val (.ref x)] [])) rfl (hb hbytes d0)
  have hh2 := q2.trans hh0
  have c3 : Steps p.tables e below (s₁.setTop (entryFrame m #[.ref x] 1)) (T2.setTop (mkF m 7 #[.val (.ref x)] [.ref x])) := (c1.trans (st2 _ (Steps.refl _))).trans (by
    refine XS.ifNo X2.here hexec rfl (hb hbytes d3) rfl (i0_eq_f hz) ?_
    refine XS.aloadN X2.here hexec rfl (hb hbytes d6) rfl rfl ?_
    exact Steps.refl _)
  obtain ⟨T4, X4, q4, st4⟩ := X2.hget hexec hown (wk W (.fieldLink "java/lang/String" 15 "java/lang/String" "coder" "B")) (hx.mv X2.warmed.alike hh2) (g := (mkF m 7 #[.val (.ref x)] [.ref x])) rfl (rest := []) rfl (hb hbytes d7)
  have c5 : Steps p.tables e below (s₁.setTop (entryFrame m #[.ref x] 1)) (T4.setTop (mkF m 14 #[.val (.ref x)] [.int cd])) := (c3.trans (st4 _ (Steps.refl _))).trans (by
    refine XS.goto X4.here hexec rfl (pc0 := 10) rfl (hb hbytes d10) (by decide) rfl ?_
    exact Steps.refl _)
  exact ⟨T4, some (.int cd), _, _, _, X4, rfl, rfl, rfl, (fun h => by cases h), ⟨rfl, q4.trans hh2⟩, fun fs hl => c5.trans (X4.ireturnOut hexec hret (by rcases hc with rfl | rfl <;> rfl) (Or.inr (Or.inr (Or.inl rfl))) (hb hbytes d14) hl)⟩
end Cdr
namespace Len
def yN : MethodName := ⟨"java/lang/String", "length", "()I"⟩
abbrev yB : ByteArray := jdk_42_method_54_code
theorem d0 : decode yB 0 = .ok (.aload_n 0, 1) := by decide +kernel
theorem d1 : decode yB 1 = .ok (.getfield 9, 3) := by decide +kernel
theorem d4 : decode yB 4 = .ok (.arraylength, 1) := by decide +kernel
theorem d5 : decode yB 5 = .ok (.aload_n 0, 1) := by decide +kernel
theorem d6 : decode yB 6 = .ok (.invokevirtual 335, 3) := by decide +kernel
theorem d9 : decode yB 9 = .ok (.ishr, 1) := by decide +kernel
theorem d10 : decode yB 10 = .ok (.ireturn, 1) := by decide +kernel
def site : List Cond := [.fieldLink "java/lang/String" 9 "java/lang/String" "value" "[B", Cdr.tab] ++ virtW "java/lang/String" 335 "java/lang/String" Cdr.yN Cdr.yN
def tab : Cond := tabOf yN yB 1 (some .int) site
def P (x t : Addr) (V : Cell) (cd : Int32) (n : Nat) (f : Nat → Int32) (z : Int32) (args : Array Value) (s : State) : Prop := args = #[.ref x] ∧ Txt x t V cd n f s ∧ StaticIs s "java/lang/String" "COMPACT_STRINGS" "Z" (.int z) ∧ ¬ z = 0
def E (n : Nat) (r : Option Value) (s u : State) : Prop := XT.PureE (some (.int (Int32.ofNat n))) r s u
/-- length() of a String of n chars, in either coding -/
theorem law (l : Launch) (x t : Addr) (V : Cell) (cd : Int32) (n : Nat) (f : Nat → Int32) (z : Int32) : Law l yN 1 0 1 13 yB 1 (some .int) site (P x t V cd n f z) (E n) [] 0 0 := by
  refine Law.of_walk (plainFor_of_name (by decide +kernel)) (by decide +kernel) (by decide +kernel) (by decide) (fun _ _ h => by rw [h.1]; rfl) (fun _ U U' hal hh h => ⟨h.1, h.2.1.mv hal hh, h.2.2.1.there hal hh, h.2.2.2⟩) (fun r U U' V V' h1 hal h2 h => XT.PureE.mv r U U' V V' h1 hal h2 h) ?_
  intro p e s m args below meth c s₁ X0 hexec hbytes hml hret hlk hnm hown hh0 W hP
  obtain ⟨rfl, hx, s1, hz⟩ := hP
  have v31 := hx.2.2.2.1.2.2.2
  have c1 : Steps p.tables e below (s₁.setTop (entryFrame m #[.ref x] 1)) (s₁.setTop (mkF m 1 #[.val (.ref x)] [.ref x])) := Steps.trans (entry rfl) (by
    show Steps p.tables e below (s₁.setTop (mkF m 0 #[.val (.ref x)] [])) _
    refine XS.aloadN X0.here hexec rfl (hb hbytes d0) rfl rfl ?_
    exact Steps.refl _)
  obtain ⟨T2, X2, q2, st2⟩ := X0.hget hexec hown (wk W (.fieldLink "java/lang/String" 9 "java/lang/String" "value" "[B")) (hx.mv X0.warmed.alike hh0).2.1 (g := (mkF m 1 #[.val (.ref x)] [.ref x])) rfl (rest := []) rfl (hb hbytes d1)
  have hh2 := q2.trans hh0
  have hx2 := hx.mv X2.warmed.alike hh2
  have c3 : Steps p.tables e below (s₁.setTop (entryFrame m #[.ref x] 1)) (T2.setTop (mkF m 6 #[.val (.ref x)] [.ref x, .int (Int32.ofNat V.slots.size)])) := (c1.trans (st2 _ (Steps.refl _))).trans (by
    refine X2.alen hexec hx2.2.2.2.1 rfl rfl (hb hbytes d4) ?_
    refine XS.aloadN X2.here hexec rfl (hb hbytes d5) rfl rfl ?_
    exact Steps.refl _)
  obtain ⟨v4, T4, X4, E4, g4⟩ := X2.callV hexec (Cdr.law l x cd z) hown (wks W (virtW "java/lang/String" 335 "java/lang/String" Cdr.yN Cdr.yN)) rfl (by decide) (wk W Cdr.tab) (W := 1) (Nat.le_of_ble_eq_true rfl) (Nat.le_of_ble_eq_true rfl) (Nat.le_refl _) (Nat.le_refl _) (hx2.1.fc X2.warmed.alike) hx2.1.is (g := (mkF m 6 #[.val (.ref x)] [.ref x, .int (Int32.ofNat V.slots.size)])) rfl (by rw [hml]; rfl) c3 (argsL := []) (rest := [.int (Int32.ofNat V.slots.size)]) rfl rfl (by show 2 * 0 + (1 + 0) ≤ _; decide) (hb hbytes d6) (⟨rfl, hx2.2.2.1, hx.2.2.2.2.1.cd, s1.there X2.warmed.alike hh2, hz⟩)
  obtain ⟨rfl, q4⟩ := E4
  have c5 : Steps p.tables e below (s₁.setTop (entryFrame m #[.ref x] 1)) (T4.setTop (mkF m 10 #[.val (.ref x)] [.int (Int32.ofNat V.slots.size >>> (cd &&& 31))])) := Steps.trans g4 (by
    refine ishr X4.here hexec rfl (hb hbytes d9) rfl ?_
    exact Steps.refl _)
  rw [hx.2.2.2.2.1.len v31] at c5
  exact ⟨T4, some (.int (Int32.ofNat n)), _, _, _, X4, rfl, rfl, rfl, (fun h => by cases h), ⟨rfl, q4.trans hh2⟩, fun fs hl => c5.trans (X4.ireturnOut hexec hret rfl (Or.inl rfl) (hb hbytes d10) hl)⟩
theorem pays {l : Launch} {R : Room} {p : Program} {e : Env} {below : List Frame} {s : State} {sargs : Array Value} {len W : Nat} (x t : Addr) (V : Cell) (cd : Int32) (n : Nat) (f : Nat → Int32) (z : Int32) (htab : tab.before sargs s = true) (hfr : 2 ≤ R.frames) (hlo : W + 25 ≤ R.locals) :
    Back l R p e below s sargs yN len W (fun A₁ a₁ => A₁.cells + 0 ≤ R.cells ∧ A₁.slots + 0 ≤ R.slots ∧ P x t V cd n f z a₁ A₁.U) (fun A₁ _ v₁ B₁ => E n v₁ A₁.U B₁.U ∧ B₁.locs = A₁.locs ++ [] ∧ B₁.cells = A₁.cells + 0 ∧ B₁.slots = A₁.slots + 0) :=
  (law l x t V cd n f z).pays htab hfr (by omega)
end Len
end StrChars
namespace StrChars.Road
open Jvm Sem ClassFile Op Lib Jvm.Stand Jvm.Free Jvm.Free.XT
open Jvm.Lib.Cold (StaticIs)
theorem consq {a : Array Value} {s : State} {c : Jvm.Cond} {L : List Jvm.Cond} (h0 : c.before a s = true) (h : ∀ w ∈ L, w.before a s = true) : ∀ w ∈ c :: L, w.before a s = true := fun w hw => (List.mem_cons.mp hw).elim (fun e => e ▸ h0) (h w)
/-- the words of String.length(), either coding -/
abbrev wordsLen : List Jvm.Cond := [.code Len.yN Len.yB 1 (some .int), .initialized ST, .fieldLink ST 9 ST "value" "[B", .fieldLink ST 38 ST "COMPACT_STRINGS" "Z", .fieldLink ST 15 ST "coder" "B", .code Cdr.yN Cdr.yB 1 (some .byte), .methodLink ST 335 Cdr.yN, .declares Cdr.yN, .selects ST Cdr.yN Cdr.yN, .instanceMethod Cdr.yN]
theorem tabLen_of {a : Array Value} {s : State} (h : ∀ w ∈ wordsLen, w.before a s = true) : Len.tab.before a s = true := by
  have hc : Cdr.tab.before a s = true := unparts (wk h (.code Cdr.yN Cdr.yB 1 (some .byte))) (wks h (.initialized Cdr.yN.cls :: Cdr.site))
  have q := consq hc h
  exact unparts (wk q (.code Len.yN Len.yB 1 (some .int))) (wks q (.initialized Len.yN.cls :: Len.site))
theorem movedLen {Z s : State} {a0 args : Array Value} (hZ : Z.Warmed39 s.vm) (hw : ∀ d ∈ wordsLen, d.before a0 Z = true) : ∀ d ∈ wordsLen, d.before args s = true := fun d hd => by
  have q := hw d hd
  have t : ∀ d ∈ wordsLen, d = .arrayClass .byte ∨ (d.onTables && d.keepsFace) = true := by decide +kernel
  rcases t d hd with rfl | t
  · exact RoadKit.mvA hZ q
  · exact RoadKit.mv hZ q t
/-- the bytes of the chars cs, low before high -/
def wideBytes : List Int32 → List Value
  | [] => []
  | c :: cs => .int (lo8 c) :: .int (hi8 c) :: wideBytes cs
theorem wide_lo (d : Value) : ∀ (cs : List Int32) (j : Nat), j < cs.length → (wideBytes cs).getD (2 * j) d = .int (lo8 (cs.getD j 0))
  | [], j, h => absurd h (Nat.not_lt_zero j)
  | c :: cs, 0, _ => rfl
  | c :: cs, j + 1, h => by
    have q := wide_lo d cs j (by simpa using h)
    rw [show 2 * (j + 1) = 2 * j + 1 + 1 from by omega]
    simpa [wideBytes] using q
theorem wide_hi (d : Value) : ∀ (cs : List Int32) (j : Nat), j < cs.length → (wideBytes cs).getD (2 * j + 1) d = .int (hi8 (cs.getD j 0))
  | [], j, h => absurd h (Nat.not_lt_zero j)
  | c :: cs, 0, _ => rfl
  | c :: cs, j + 1, h => by
    have q := wide_hi d cs j (by simpa using h)
    rw [show 2 * (j + 1) + 1 = 2 * j + 1 + 1 + 1 from by omega]
    simpa [wideBytes] using q
theorem low_at (d : Value) (cs : List Int32) (j : Nat) (h : j < cs.length) : (cs.map fun c => Value.int (lo8 c)).getD j d = .int (lo8 (cs.getD j 0)) := by
  simp [List.getD_eq_getElem?_getD, h]
/-- an array of N2 bytes vs codes the chars cs by the coder cd -/
def CodA (cs : List Int32) (cd N2 : Int32) (vs : List Value) : Prop := (cd = 0 ∧ N2 = Int32.ofNat cs.length ∧ vs = (cs.map fun c => Value.int (lo8 c)) ∧ ∀ c ∈ cs, ¬ 255 < c) ∨ (cd = 1 ∧ N2 = Int32.ofNat (2 * cs.length) ∧ vs = wideBytes cs ∧ ∃ c ∈ cs, 255 < c)
theorem CodA.cod {cs : List Int32} {cd N2 : Int32} {vs : List Value} {V : Cell} (h : CodA cs cd N2 vs) (hn : 2 * cs.length < 2 ^ 31) (hs : V.slots.size = N2.toNatClampNeg) (hv : RoadKit.Has V vs (.int 0)) : Cod cd cs.length (fun j => cs.getD j 0) V := by
  rcases h with ⟨rfl, rfl, rfl, h⟩ | ⟨rfl, rfl, rfl, c, hc, hw⟩
  · rw [n32 (by omega)] at hs
    exact Or.inl ⟨rfl, hs, fun j hj => ⟨by rw [hv j (by omega), low_at _ _ _ hj], by
      have e : cs.getD j 0 = cs[j] := by simp [List.getD_eq_getElem?_getD, hj]
      show ¬ 255 < cs.getD j 0
      rw [e]; exact h _ (List.getElem_mem _)⟩⟩
  · rw [n32 (by omega)] at hs
    obtain ⟨j, hj, rfl⟩ := List.getElem_of_mem hc
    exact Or.inr ⟨rfl, hs, fun j hj => ⟨by rw [hv _ (by omega), wide_lo _ _ _ hj], by rw [hv _ (by omega), wide_hi _ _ _ hj]⟩, j, hj, by
      have e : cs.getD j 0 = cs[j] := by simp [List.getD_eq_getElem?_getD, hj]
      show 255 < cs.getD j 0
      rw [e]; exact hw⟩
/-- an object of exactly java/lang/String, its two fields found: as the laws ask it -/
theorem strObj {Z U : State} {a0 : Array Value} {kI : Nat} (wi : (Jvm.Cond.instantiable ST kI).before a0 Z = true) (al : Z.vm.Alike U.vm) {x : Addr} {v0 c0 : Value} (E : RoadKit.Exa Z U.heap x ST) (V : RoadKit.Fld Z U.heap x ST "value" "[B" v0) (C : RoadKit.Fld Z U.heap x ST "coder" "B" c0) :
    ∃ (D : Cell) (fV fC : Field), Blank ST x D U ∧ Found ST "value" "[B" fV U ∧ Found ST "coder" "B" fC U ∧ D.slots[fV.slot]? = some v0 ∧ D.slots[fC.slot]? = some c0 ∧ RoadKit.slotOf Z ST "value" "[B" = fV.slot ∧ RoadKit.slotOf Z ST "coder" "B" = fC.slot := by
  obtain ⟨D, cfV, kV, iV, fV, hD, gV, stV, knV, obV, asV, slV⟩ := V
  obtain ⟨D', cfC, kC, iC, fC, hD', gC, stC, -, -, asC, slC⟩ := C
  cases hD.symm.trans hD'
  obtain ⟨D2, kD, e1, e2, e3, e4, e5⟩ := E
  cases hD.symm.trans e1
  obtain ⟨c2, k2, i1, i2, i3, -⟩ := Cond.instantiable_spec wi
  cases e2.symm.trans i1
  cases e3.symm.trans i2
  obtain ⟨kU, u1, u2⟩ := al.2.2 _ _ e3
  exact ⟨D, fV, fC, ⟨hD, ⟨knV, fun q hq => by rw [hq] at obV; cases obV⟩, by rw [al.findClass]; exact e2, kU, u1, by rw [u2]; exact i3, by rw [u2]; exact e5 i3⟩, ⟨SBG.found_only al ⟨cfV, kV, iV, gV⟩, stV⟩, ⟨SBG.found_only al ⟨cfC, kC, iC, gC⟩, stC⟩, slV, slC, by simp [RoadKit.slotOf, gV], by simp [RoadKit.slotOf, gC]⟩
theorem sta_is {Z U : State} (al : Z.vm.Alike U.vm) {C n d : String} {v : Value} (S : RoadKit.Sta Z U.heap C n d v) : StaticIs U C n d v := by
  obtain ⟨cfS, iS, kS, fS, st, cS, t1, t2, t3, t4, t5, t6, t7⟩ := S
  exact StaticIs.there (s := { Z with heap := U.heap }) ⟨cfS, iS, kS, fS, st, cS, t1, t2, t3, t4, t5, (fun q => by rw [q] at t6; cases t6), t7⟩ al rfl
/-- **length() OF SUCH A STRING** -/
theorem lenW {p : Program} {l : Launch} {e : Env} {R : Room} {s : State} {args : Array Value} {below : List Frame} {len W : Nat} {Z : State} {a0 : Array Value} {h : Heap} (hZ : Z.Warmed39 s.vm) (hw : ∀ d ∈ wordsLen, d.before a0 Z = true) {kI : Nat} (wi : (Jvm.Cond.instantiable ST kI).before a0 Z = true)
    {x t : Addr} {kb : ClassId} {cs : List Int32} {cd N2 z : Int32} {vs : List Value} (E : RoadKit.Exa Z h x ST) (V : RoadKit.Fld Z h x ST "value" "[B" (.ref t)) (C : RoadKit.Fld Z h x ST "coder" "B" (.int cd)) (K : RoadKit.Arv Z h t kb .byte N2 vs (.int 0)) (hc : CodA cs cd N2 vs) (hb : ∀ c ∈ cs, ¬ c < 0 ∧ ¬ (65535 : Int32) < c)
    (S : RoadKit.Sta Z h ST "COMPACT_STRINGS" "Z" (.int z)) (hz : ¬ z = 0) (l2 : cs.length ≤ 4000) (hfr : 2 ≤ R.frames) (hlo : W + 25 ≤ R.locals) :
    Back l R p e below s args (⟨"java/lang/String", "length", "()I"⟩ : MethodName) len W (fun P a => a = #[.ref x] ∧ P.U.heap = h ∧ P.cells + 0 ≤ R.cells ∧ P.slots + 0 ≤ R.slots)
      (fun P _ v B => ∃ L, (v = some (.int (Int32.ofNat cs.length)) ∧ L = [] ∧ B.U.heap = h) ∧ B.locs = P.locs ++ L ∧ B.cells = P.cells + 0 ∧ B.slots = P.slots + 0) := by
  obtain ⟨A, K1, K2, K3, K4, K5, K6⟩ := K
  have hcod := hc.cod (by omega) K3 K5
  intro m meth c P g ig mk a X hg hsize hdg hW hn hp'
  obtain ⟨rfl, rfl, r1, r2⟩ := hp'
  have al : Z.vm.Alike P.U.vm := hZ.alike.trans X.warmed.alike
  obtain ⟨D, fV, fC, hB, F1, F2, g1, g2, -, -⟩ := strObj wi al E V C
  have hx : Txt x t A cd cs.length (fun j => cs.getD j 0) P.U := ⟨⟨_, hB.2.2.1, D, hB.1, rfl, by cases q : D.vm <;> first | rfl | exact absurd q (hB.2.1.2 _)⟩, Has.of hB F1 g1, Has.of hB F2 g2, ⟨K1.1, State.isArrayOf_alike al K1.2.1, K1.2.2, by rcases hcod with ⟨-, q, -⟩ | ⟨-, q, -⟩ <;> omega⟩, hcod, fun j hj => by
    have e : cs.getD j 0 = cs[j] := by simp [List.getD_eq_getElem?_getD, hj]
    show ¬ cs.getD j 0 < 0 ∧ ¬ 65535 < cs.getD j 0
    rw [e]; exact hb _ (List.getElem_mem _)⟩
  obtain ⟨v, B, X', ⟨⟨hv, hh⟩, hl, hk, hs⟩, st⟩ := Len.pays x t A cd cs.length (fun j => cs.getD j 0) z (tabLen_of (movedLen hZ hw)) hfr hlo m meth c P g ig mk _ X hg hsize hdg hW hn ⟨r1, r2, rfl, hx, sta_is al S, hz⟩
  exact ⟨v, B, X', ⟨[], ⟨hv, rfl, hh⟩, hl, hk, hs⟩, st⟩
end StrChars.Road
namespace StrChars.Road
open Jvm Sem ClassFile Op Lib Jvm.Stand Jvm.Free Jvm.Free.XT
open Jvm.Lib.Cold (StaticIs)
/-- what backV says of its String, as the contracts of this text ask it: cs's low bytes, coder 0 -/
theorem codOf {cs : List Int32} {n : Nat} (hn : cs.length = n) (hb : ∀ c ∈ cs, ¬ 255 < c) : CodA cs 0 (Int32.ofNat n) ((cs.map lo8).map Value.int) := Or.inl ⟨rfl, by rw [hn], by simp [List.map_map, Function.comp_def], hb⟩
end StrChars.Road
end Jvm.Pilot.@@N@@

namespace Jvm.Pilot.@@N@@
open Jvm Jvm.ClassFile Sem Op Lib Jvm.Free Jvm.Stand Jvm.LawKit Jvm.RoadKit Bundle Jvm.Pilot.@@N@@.Jvm.D
theorem own_and255 (x : Int32) : ∃ k : Fin 256, x &&& 255 = Int32.ofNat k.val := by
  have h : (x &&& 255).toBitVec.toNat < 256 := by
    simp only [Int32.toBitVec_and, BitVec.toNat_and]
    exact Nat.lt_succ_of_le Nat.and_le_right
  refine ⟨⟨_, h⟩, ?_⟩
  apply Int32.toBitVec_inj.mp
  show _ = BitVec.ofNat 32 _
  rw [BitVec.ofNat_toNat]; simp
theorem own_lat (x : Int32) : ¬ (((x &&& (255 : Int32))).toUInt32.toUInt16.toUInt32.toInt32) < 0 ∧ ¬ (255 : Int32) < (((x &&& (255 : Int32))).toUInt32.toUInt16.toUInt32.toInt32) := by
  obtain ⟨k, e⟩ := own_and255 x
  have t : ∀ k : Fin 256, ¬ ((Int32.ofNat k.val).toUInt32.toUInt16.toUInt32.toInt32) < 0 ∧ ¬ (255 : Int32) < ((Int32.ofNat k.val).toUInt32.toUInt16.toUInt32.toInt32) := by decide +kernel
  rw [e]; exact t k
theorem own_lat7 (x : Int32) : ¬ (((x &&& (127 : Int32))).toUInt32.toUInt16.toUInt32.toInt32) < 0 ∧ ¬ (255 : Int32) < (((x &&& (127 : Int32))).toUInt32.toUInt16.toUInt32.toInt32) := by
  have e : x &&& (127 : Int32) = (x &&& (127 : Int32)) &&& 255 := by rw [Int32.and_assoc]; rfl
  rw [e]; exact own_lat _
theorem own_nar_i2c (x : Int32) : nar .char (x.toUInt32.toUInt16.toUInt32.toInt32) = x.toUInt32.toUInt16.toUInt32.toInt32 := by simp only [nar, UInt32.toUInt32_toInt32, UInt16.toUInt16_toUInt32]
theorem own_nar_i2b (x : Int32) : nar .byte (x.toInt8.toInt32) = x.toInt8.toInt32 := by simp [nar]
theorem own_nar_lat {x : Int32} (h : ¬ x < 0 ∧ ¬ (255 : Int32) < x) : nar .char x = x := by
  have e0 : (0 : Int32).toInt = 0 := rfl
  have e1 : (255 : Int32).toInt = 255 := rfl
  have h1 := h.1
  have h2 := h.2
  rw [Int32.lt_iff_toInt_lt, e0] at h1
  rw [Int32.lt_iff_toInt_lt, e1] at h2
  have e : x = Int32.ofNat x.toInt.toNat := by
    apply Int32.toInt_inj.mp
    rw [Int32.toInt_ofNat_small (by omega)]; omega
  have t : ∀ k : Fin 256, nar .char (Int32.ofNat k.val) = Int32.ofNat k.val := by decide +kernel
  rw [e]; exact t ⟨x.toInt.toNat, by omega⟩
theorem own_up (cs : List Int32) (h : ∀ c ∈ cs, ¬ c < 0 ∧ ¬ (255 : Int32) < c) : ∀ c ∈ cs, ¬ c < 0 ∧ ¬ (65535 : Int32) < c := fun c hc => ⟨(h c hc).1, fun q => (h c hc).2 (by rw [Int32.lt_iff_toInt_lt] at q ⊢; have e1 : (65535 : Int32).toInt = 65535 := rfl; have e2 : (255 : Int32).toInt = 255 := rfl; omega)⟩
theorem own_and3 (x : Int32) : x &&& (3 : Int32) = 0 ∨ x &&& (3 : Int32) = 1 ∨ x &&& (3 : Int32) = 2 ∨ x &&& (3 : Int32) = 3 := by
  have h : (x &&& 3).toBitVec.toNat < 4 := by
    simp only [Int32.toBitVec_and, BitVec.toNat_and]
    exact Nat.lt_succ_of_le Nat.and_le_right
  have e : x &&& 3 = Int32.ofNat (x &&& 3).toBitVec.toNat := by
    apply Int32.toBitVec_inj.mp
    show _ = BitVec.ofNat 32 _
    rw [BitVec.ofNat_toNat]; simp
  rw [e]
  generalize (x &&& 3).toBitVec.toNat = n at h
  have : n = 0 ∨ n = 1 ∨ n = 2 ∨ n = 3 := by omega
  rcases this with rfl | rfl | rfl | rfl <;> simp
theorem own_three3 {x : Int32} (h0 : ¬ (x &&& (3 : Int32)) = (0 : Int32)) (h1 : ¬ (x &&& (3 : Int32)) = (1 : Int32)) (h2 : ¬ (x &&& (3 : Int32)) = (2 : Int32)) : (x &&& (3 : Int32)) = (3 : Int32) := by
  rcases own_and3 x with h | h | h | h
  · exact absurd h h0
  · exact absurd h h1
  · exact absurd h h2
  · exact h
theorem own_nf {s : State} {args : Array Value} {y x z : MethodName} {C : String} (h : (Cond.selects C x z).before args s = true) (e : z.cls = y.cls) : NotFace s y := fun r0 h0 => by
  obtain ⟨c2, r2, m2, q1, q2, q3, q4, kP, hkP, hkPi⟩ := Cond.selects_spec h
  have h1 := findClass_of_methodNamed q3
  have h2 := findClass_of_methodNamed h0
  rw [e] at h1
  have e2 : m2.cls = r0.cls := Option.some.inj (h1.symm.trans h2)
  exact ⟨kP, e2 ▸ hkP, hkPi⟩
theorem own_same {s : State} {args : Array Value} {y x z : MethodName} {C : String} (hi : (Cond.instanceMethod y).before args s = true) (h : (Cond.selects C x z).before args s = true) (e : z.cls = y.cls) (hy : y.cls ≠ "java/lang/invoke/MethodHandle" ∧ y.cls ≠ "java/lang/invoke/VarHandle") : (Cond.sameMethod y.cls y.cls y.name y.desc).before args s = true := by
  obtain ⟨mk, methM, hnamed, hmethM, -, -⟩ := Cond.instanceMethod_spec hi
  have hfound : s.methodFound? y.cls y.name y.desc = some mk := State.methodFound?_of_named hnamed hy
  obtain ⟨kr, k1, k2⟩ := own_nf (y := y) h e mk hnamed
  have hc := findClass_of_methodNamed hnamed
  have hn : s.methodNamed? ⟨y.cls, y.name, y.desc⟩ = some mk := hnamed
  simp [Cond.before, Cond.holds, Cond.value, hc, hfound, hn, k1, k2]
theorem own_ws {a0 : Array Value} {Z : State} (hw : ∀ d ∈ tables_1, d.before a0 Z = true) : ∀ d ∈ StrChars.Road.words, d.before a0 Z = true := fun d hd => hw d ((by decide +kernel : ∀ d ∈ StrChars.Road.words, d ∈ tables_1) d hd)
theorem own_wl {a0 : Array Value} {Z : State} (hw : ∀ d ∈ tables_1, d.before a0 Z = true) : ∀ d ∈ StrChars.Road.wordsLen, d.before a0 Z = true := fun d hd => hw d ((by decide +kernel : ∀ d ∈ StrChars.Road.wordsLen, d ∈ tables_1) d hd)
theorem own_wS {a0 : Array Value} {Z : State} (hw : ∀ d ∈ tables_1, d.before a0 Z = true) : ∀ d ∈ Bundle.stringAtoms, d.before a0 Z = true := fun d hd => hw d ((by decide +kernel : ∀ d ∈ Bundle.stringAtoms, d ∈ tables_1) d hd)
theorem own_safe_null {Z : State} {EL : List (String × Nat)} {vm : Vm} {h : Heap} {x : Addr} (hal : Z.vm.Alike vm) (E : Exa Z h x "java/lang/String") (F : Fld Z h x "java/lang/String" "value" "[B" .null) : Safe Z EL vm h x := fun B => by
  obtain ⟨cell, k, e1, e2, e3, -, -⟩ := E
  obtain ⟨cell', cf, k', i, f, f1, f2, f3, -, -, -, f7⟩ := F
  cases e1.symm.trans f1
  obtain ⟨p, -, u, a, -, q, -, G, rfl | rfl⟩ := B
  · cases (show h[q.sa]? = some q.sC from G.ha).symm.trans e1
    obtain ⟨cS, ⟨⟨s1, s2, s3, ⟨cv, kv, iv, s4, s4'⟩, -, s6, s7, s8, -⟩, -, -⟩, -⟩ := G
    obtain ⟨kv', z4⟩ := ff_back (U := Wst Z vm h) hal s4
    cases z4.symm.trans f2
    rw [s8] at f7
    cases f7
  · cases (show h[q.sd]? = some q.SA from G.hd).symm.trans e1
    obtain ⟨cS, -, -, hB, -⟩ := G
    have hB : vm.findClass "[B" = some q.SA.cls := hB
    rw [hal.findClass] at hB
    obtain ⟨k1, q1, q2⟩ := Vm.findClass_spec hB
    obtain ⟨k2, q3, q4⟩ := Vm.findClass_spec e2
    cases q1.symm.trans q3
    exact absurd (q2.symm.trans q4) (by decide)
theorem own_EW {a0 : Array Value} {Z : State} (hw : ∀ d ∈ tables_1, d.before a0 Z = true) : EW Z a0 consts_1 := (EW.cons (own := "java/lang/String") (index := 7) (text := "") (hw _ (List.mem_of_getElem? (i := 91) rfl)) (by decide) EW.nil)
def own_HasE (args : Array Value) (s : State) (t : Term) : Nat → List Value → Prop
  | _, [] => True
  | i, v :: r => (Term.elem t (.int (Int32.ofNat i))).eval args s none [] s = some v ∧ own_HasE args s t (i + 1) r
theorem own_eqv_r {s : State} {args : Array Value} {X F : Term} {a : Addr} (hF : F.eval args s none [] s = some (.ref a)) (h : (Cond.eq X F).value args s none s [] = some true) : X.eval args s none [] s = some (.ref a) := by
  obtain ⟨x, y', e1, e2, k1, k2⟩ := cmp_v (Or.inl h)
  cases hF.symm.trans e2
  have hx : x.isRef = true := k2.2
  exact e1.trans (congrArg some (gotT (eq_R e1 e2 hx rfl) h))
theorem own_hasL {args : Array Value} {s : State} {t : Term} {a : Addr} {c : Cell} (ev : t.eval args s none [] s = some (.ref a)) (hc : s.heap[a]? = some c) : ∀ (vs : List Value) (i : Nat), i + vs.length < 2 ^ 31 → own_HasE args s t i vs → HasL c i vs
  | [], _, _, _ => trivial
  | v :: r, i, hi, ⟨h1, h2⟩ => by
    have hi' : i < 2 ^ 31 := by simp only [List.length_cons] at hi; omega
    have e1 : (Int32.ofNat i).toNatClampNeg = i := by
      have := Int32.toInt_ofNat_small (n := i) (by omega)
      simp only [Int32.toNatClampNeg]; omega
    have q := (elem_in h1 ev rfl hc).2
    rw [e1] at q
    exact ⟨q, own_hasL ev hc r (i + 1) (by simp only [List.length_cons] at hi; omega) h2⟩
theorem own_arr {s : State} {args : Array Value} (hf : Fit s) {t : Term} {a : Addr} {ty : FieldType} {n : Int32} {vs : List Value} {dv : Value} (ev : t.eval args s none [] s = some (.ref a)) (h1 : (Cond.arrayOf t ty).value args s none s [] = some true)
    (h2 : (Term.length t).eval args s none [] s = some (.int n)) (hn : ¬ n < 0) (hl : n.toNatClampNeg = vs.length) (he : own_HasE args s t 0 vs) : ∃ k, Arv s s.heap a k ty n vs dv := by
  obtain ⟨c, A⟩ := Arr.start ev h1
  have ha := A.fin (Vm.Alike.refl _)
  obtain ⟨a', c', e1, e2, e3⟩ := Term.length_spec h2
  cases ev.symm.trans e1
  cases ha.symm.trans e2
  have hsz : c.slots.size < 2 ^ 31 := by
    refine Nat.lt_of_not_le fun q => ?_
    simp [Term.eval, ev, ha, Nat.not_lt.mpr q] at h2
  have hb := (back32 hn).2
  exact ⟨_, Arv.start hf A hsz (Value.int.inj e3).symm hn hl (own_hasL ev A.1 vs 0 (by omega) he)⟩
def OwnEN (Z : State) (g_HTTP_STATUS : Addr) : Prop := Sta Z Z.heap "com/example/foreground_courier/foregroundcourier/Failure$Kind" "HTTP_STATUS" "Lcom/example/foreground_courier/foregroundcourier/Failure$Kind;" (.ref g_HTTP_STATUS) ∧ Exa Z Z.heap g_HTTP_STATUS "com/example/foreground_courier/foregroundcourier/Failure$Kind"
theorem ef0 (m : MethodId) (x0 : Int32) (x1 : Int32) (x2 : Int32) : entryFrame m #[(.int x0), (.int x1), (.int x2)] maxLocals = mkF m 0 #[.val (.int x0), .val (.int x1), .val (.int x2), .unset, .unset, .unset, .unset] [] := by first | (simp [entryFrame, mkF, argsToLocals, Value.category, maxLocals]; done) | rfl
theorem pn0 : plainName "com/example/foreground_courier/foregroundcourier/FailureHttpStatusPinLaw" = true := by first | (simp [plainName, overriddenIn]; done) | decide +kernel
theorem ef1 (m : MethodId) (x0 : Int32) (x1 : Int32) : entryFrame m #[(.int x0), (.int x1)] 5 = mkF m 0 #[.val (.int x0), .val (.int x1), .unset, .unset, .unset] [] := by first | (simp [entryFrame, mkF, argsToLocals, Value.category]; done) | rfl
theorem d0_0 : decode method_3_code 0 = .ok (.iload_n 0, 1) := by decide +kernel
theorem d0_1 : decode method_3_code 1 = .ok (.sipush 255, 3) := by decide +kernel
theorem d0_4 : decode method_3_code 4 = .ok (.iand, 1) := by decide +kernel
theorem d0_5 : decode method_3_code 5 = .ok (.i2c, 1) := by decide +kernel
theorem d0_6 : decode method_3_code 6 = .ok (.istore_n 2, 1) := by decide +kernel
theorem d0_7 : decode method_3_code 7 = .ok (.iload_n 0, 1) := by decide +kernel
theorem d0_8 : decode method_3_code 8 = .ok (.bipush 8, 2) := by decide +kernel
theorem d0_10 : decode method_3_code 10 = .ok (.iushr, 1) := by decide +kernel
theorem d0_11 : decode method_3_code 11 = .ok (.sipush 255, 3) := by decide +kernel
theorem d0_14 : decode method_3_code 14 = .ok (.iand, 1) := by decide +kernel
theorem d0_15 : decode method_3_code 15 = .ok (.i2c, 1) := by decide +kernel
theorem d0_16 : decode method_3_code 16 = .ok (.istore_n 3, 1) := by decide +kernel
theorem d0_17 : decode method_3_code 17 = .ok (.iload_n 0, 1) := by decide +kernel
theorem d0_18 : decode method_3_code 18 = .ok (.bipush 16, 2) := by decide +kernel
theorem d0_20 : decode method_3_code 20 = .ok (.iushr, 1) := by decide +kernel
theorem d0_21 : decode method_3_code 21 = .ok (.sipush 255, 3) := by decide +kernel
theorem d0_24 : decode method_3_code 24 = .ok (.iand, 1) := by decide +kernel
theorem d0_25 : decode method_3_code 25 = .ok (.i2c, 1) := by decide +kernel
theorem d0_26 : decode method_3_code 26 = .ok (.istore 4, 2) := by decide +kernel
theorem d0_28 : decode method_3_code 28 = .ok (.iload_n 1, 1) := by decide +kernel
theorem d0_29 : decode method_3_code 29 = .ok (.ifCond .ne 14, 3) := by decide +kernel
theorem d0_32 : decode method_3_code 32 = .ok (.new 38, 3) := by decide +kernel
theorem d0_35 : decode method_3_code 35 = .ok (.dup, 1) := by decide +kernel
theorem d0_36 : decode method_3_code 36 = .ok (.iconst 0, 1) := by decide +kernel
theorem d0_37 : decode method_3_code 37 = .ok (.newarray .char, 2) := by decide +kernel
theorem d0_39 : decode method_3_code 39 = .ok (.invokespecial 50, 3) := by decide +kernel
theorem ef2 (m : MethodId) (x0 : Addr) (x1 : Addr) : entryFrame m #[(.ref x0), (.ref x1)] 2 = mkF m 0 #[.val (.ref x0), .val (.ref x1)] [] := by first | (simp [entryFrame, mkF, argsToLocals, Value.category]; done) | rfl
theorem pn1 : plainName "java/lang/String" = true := by first | (simp [plainName, overriddenIn]; done) | decide +kernel
theorem d1_0 : decode jdk_42_method_3_code 0 = .ok (.aload_n 0, 1) := by decide +kernel
theorem d1_1 : decode jdk_42_method_3_code 1 = .ok (.aload_n 1, 1) := by decide +kernel
theorem d1_2 : decode jdk_42_method_3_code 2 = .ok (.iconst 0, 1) := by decide +kernel
theorem d1_3 : decode jdk_42_method_3_code 3 = .ok (.aload_n 1, 1) := by decide +kernel
theorem d1_4 : decode jdk_42_method_3_code 4 = .ok (.arraylength, 1) := by decide +kernel
theorem d1_5 : decode jdk_42_method_3_code 5 = .ok (.aconst_null, 1) := by decide +kernel
theorem d1_6 : decode jdk_42_method_3_code 6 = .ok (.invokespecial 27, 3) := by decide +kernel
theorem ef3 (m : MethodId) (x0 : Addr) (x1 : Addr) (x2 : Int32) (x3 : Int32) : entryFrame m #[(.ref x0), (.ref x1), (.int x2), (.int x3), .null] 6 = mkF m 0 #[.val (.ref x0), .val (.ref x1), .val (.int x2), .val (.int x3), .val .null, .unset] [] := by first | (simp [entryFrame, mkF, argsToLocals, Value.category]; done) | rfl
theorem d2_0 : decode jdk_42_method_149_code 0 = .ok (.aload_n 0, 1) := by decide +kernel
theorem d2_1 : decode jdk_42_method_149_code 1 = .ok (.invokespecial 1, 3) := by decide +kernel
theorem d2_4 : decode jdk_42_method_149_code 4 = .ok (.iload_n 3, 1) := by decide +kernel
theorem d2_5 : decode jdk_42_method_149_code 5 = .ok (.ifCond .ne 22, 3) := by decide +kernel
theorem d2_8 : decode jdk_42_method_149_code 8 = .ok (.aload_n 0, 1) := by decide +kernel
theorem d2_9 : decode jdk_42_method_149_code 9 = .ok (.ldc 7, 2) := by decide +kernel
theorem d2_11 : decode jdk_42_method_149_code 11 = .ok (.getfield 9, 3) := by decide +kernel
theorem d2_14 : decode jdk_42_method_149_code 14 = .ok (.putfield 9, 3) := by decide +kernel
theorem d2_17 : decode jdk_42_method_149_code 17 = .ok (.aload_n 0, 1) := by decide +kernel
theorem d2_18 : decode jdk_42_method_149_code 18 = .ok (.ldc 7, 2) := by decide +kernel
theorem d2_20 : decode jdk_42_method_149_code 20 = .ok (.getfield 15, 3) := by decide +kernel
theorem d2_23 : decode jdk_42_method_149_code 23 = .ok (.putfield 15, 3) := by decide +kernel
theorem d2_26 : decode jdk_42_method_149_code 26 = .ok (.return_, 1) := by decide +kernel
-- java/lang/String.<init>([CIILjava/lang/Void;)V
def Q1 (Z : State) (qa1 : Addr) (qa2 : Addr) (h0 : Heap) (n0 : Nat) (v : Option Value) (h : Heap) (L : List Loc) : Prop := ∃ t2 : Addr, ∃ c2 : ClassId, v = none ∧ Fr n0 L ∧ Keep h0 h [qa1] ∧ Exa Z h qa1 "java/lang/String" ∧ Fld Z h qa1 "java/lang/String" "value" "[B" (.ref t2) ∧ Fld Z h qa1 "java/lang/String" "coder" "B" (.int (0 : Int32)) ∧ Arv Z h t2 c2 .byte (0 : Int32) [] (.int 0)
set_option maxRecDepth 65536 in
set_option maxHeartbeats 40000000 in
theorem rm1 (l : Launch) (Z : State) (a0 : Array Value) (hw : ∀ d ∈ tables_1, d.before a0 Z = true) (ws : List Jvm.Cond) (qa1 : Addr) (qa2 : Addr) (h0 : Heap) (n0 : Nat) (X00 : Old Z n0 h0) (E_qa1 : Exa Z h0 qa1 "java/lang/String") (F_qa1_value : Fld Z h0 qa1 "java/lang/String" "value" "[B" .null) (g_qa1 : n0 ≤ qa1) (F_qa1_coder : Fld Z h0 qa1 "java/lang/String" "coder" "B" (.int (0 : Int32))) :
    MetFree l (⟨"java/lang/String", "<init>", "([CIILjava/lang/Void;)V"⟩ : MethodName) (head1 (Jvm.Cond.code (⟨"java/lang/String", "<init>", "([CIILjava/lang/Void;)V"⟩ : MethodName) jdk_42_method_149_code 6 none :: ws) ({ frames := 1, cells := 4, slots := 8, locals := 12 } : Room)) (fun a U => a = #[(.ref qa1), (.ref qa2), (.int (0 : Int32)), (.int (0 : Int32)), .null] ∧ Z.Warmed39 U.vm ∧ U.heap = h0 ∧ CHv Z consts_1 U.vm h0) (fun _ _ _ _ _ => True) (fun _ U o U' => ∃ v L, o = .returned v ∧ Q1 Z qa1 qa2 h0 n0 v U'.heap L ∧ CHr Z consts_1 U.vm U.heap U'.vm U'.heap ∧ ReturnedEndW U o U' L ({ frames := 1, cells := 4, slots := 8, locals := 12 } : Room).cells ({ frames := 1, cells := 4, slots := 8, locals := 12 } : Room).slots) := by
  refine MetFree.of_bodySF (plainFor_of_name pn1) hisR ?_
  intro p e s m args below meth c s₁ Bd hml0 hP hK
  obtain ⟨rfl, hZ, hh, hC0⟩ := hP
  have hx := Bd.exec
  have hby := Bd.bytes
  have hml : c.maxLocals = 6 := hml0
  have hown : s.vm.findClass "java/lang/String" = some m.cls := findClass_of_methodNamed Bd.named
  have hnm := (name_of_methodNamed Bd.named Bd.method).1
  have X0 : Stand p l e ({ frames := 1, cells := 4, slots := 8, locals := 12 } : Room) (s.setVm s.vm) m #[(.ref qa1), (.ref qa2), (.int (0 : Int32)), (.int (0 : Int32)), .null] below meth c s₁ [] 0 0 := Stand.of_body Bd
  have e0 : s₁.heap = h0 := by rw [← hh, Bd.state]; rfl
  have N0 := Fr.nil n0
  have pre0 : ∀ t, Steps p.tables e below (s₁.setTop (mkF m 0 #[.val (.ref qa1), .val (.ref qa2), .val (.int (0 : Int32)), .val (.int (0 : Int32)), .val .null, .unset] [])) t → Steps p.tables e below (s₁.setTop (entryFrame m #[(.ref qa1), (.ref qa2), (.int (0 : Int32)), (.int (0 : Int32)), .null] 6)) t := fun t k => castTop (ef3 m qa1 qa2 (0 : Int32) (0 : Int32)) k
  have hS0 : s.Since s.vm h0.size := (State.WarmedH.refl s).since _
  have hk0 : h0.size ≤ h0.size := Nat.le_refl _
  have hR0 : CHr Z consts_1 s.vm h0 s.vm h0 := CHr.refl hC0
  have hEL := own_EW hw
  have hwS := own_wS hw
  obtain ⟨T1, X1, e1, st1⟩ := initO X0 hx hZ hown (hw _ (List.mem_of_getElem? (i := 15) rfl)) (hw _ (List.mem_of_getElem? (i := 16) rfl)) (hw _ (List.mem_of_getElem? (i := 17) rfl)) e0 (g := (mkF m 1 #[.val (.ref qa1), .val (.ref qa2), .val (.int (0 : Int32)), .val (.int (0 : Int32)), .val .null, .unset] [(.ref qa1)])) rfl (by rw [hml]; rfl) rfl (hb hby d2_1) (by decide) (W := 0) (by show 2 * 0 + _ ≤ _; exact Nat.le_of_eq rfl) (by decide)
  obtain ⟨b2, T2, h2, k2, t2, c2, X2, e2, E2, hS2, hk2, hZ2, ho2, Ex2, Fc2, Fv2, Av2, lb2, lt2, CR2, -, sf2, st2⟩ := ldcCH (text := "") (EL := consts_1) X1 hx hZ hown (hw _ (List.mem_of_getElem? (i := 91) rfl)) hwS e1 hS0 hk0 hEL (by decide) hC0 (vs := []) (z := (0 : Int32)) ⟨by decide, by decide⟩ (by decide) (by decide) (g := (mkF m 9 #[.val (.ref qa1), .val (.ref qa2), .val (.int (0 : Int32)), .val (.int (0 : Int32)), .val .null, .unset] [(.ref qa1)])) rfl (hb hby d2_9) (n := 0) (by decide) (by decide) (by decide) (by decide)
  have K3 : Keep h0 h2 [qa1] := (Keep.refl h0 [qa1]).ext E2
  have R5 : CHr Z consts_1 s.vm h0 T2.vm h2 := hR0.trans CR2
  obtain ⟨T6, X6, e6, st6⟩ := getF X2 hx hZ2 ho2 (host := "") (Or.inl (hw _ (List.mem_of_getElem? (i := 32) rfl))) Via.refl e2 Fv2 (g := (mkF m 11 #[.val (.ref qa1), .val (.ref qa2), .val (.int (0 : Int32)), .val (.int (0 : Int32)), .val .null, .unset] [(.ref b2), (.ref qa1)])) rfl rfl (hb hby d2_11)
  have F7_ : Fld Z h2 qa1 "java/lang/String" "value" "[B" .null := F_qa1_value.ext E2
  have E8_ : Exa Z h2 qa1 "java/lang/String" := E_qa1.ext E2
  obtain ⟨T9, h9, X9, e9, W9, st9⟩ := putF X6 hx hZ2 ho2 (host := "") (Or.inl (hw _ (List.mem_of_getElem? (i := 32) rfl))) Via.refl e6 F7_ E8_ (Or.inr ⟨(hw _ (List.mem_of_getElem? (i := 33) rfl)), rfl, hnm⟩) (hw _ (List.mem_of_getElem? (i := 5) rfl)) (ty := (.array .byte)) (by decide) rfl rfl (g := (mkF m 14 #[.val (.ref qa1), .val (.ref qa2), .val (.int (0 : Int32)), .val (.int (0 : Int32)), .val .null, .unset] [(.ref t2), (.ref qa1)])) rfl rfl (hb hby d2_14)
  have N9 := Fr.snoc X9 N0 g_qa1
  have K10 : Keep h0 h9 [qa1] := K3.wr W9 (Or.inl (List.mem_of_getElem? (i := 0) rfl))
  have f12 : Safe Z consts_1 T2.vm h2 qa1 := CR2.safe E_qa1.lt (own_safe_null hZ.alike E_qa1 F_qa1_value)
  have C11 : CHv Z consts_1 T2.vm h9 := CHv.wr W9 f12 CR2.1
  have R13 : CHr Z consts_1 s.vm h0 T2.vm h9 := R5.trans (CHr.wr W9 f12 CR2.1)
  have F14_ : Fld Z h9 qa1 "java/lang/String" "value" "[B" (.ref t2) := F7_.same W9
  have hk16' : _ ≤ h9.size := (Nat.le_trans hk2 (Nat.le_of_eq W9.size.symm))
  obtain ⟨b15, T15, h15, k15, t15, c15, X15, e15, E15, hS15, hk15, hZ15, ho15, Ex15, Fc15, Fv15, Av15, lb15, lt15, CR15, -, sf15, st15⟩ := ldcCH (text := "") (EL := consts_1) X9 hx hZ2 ho2 (hw _ (List.mem_of_getElem? (i := 91) rfl)) hwS e9 hS2 hk16' hEL (by decide) C11 (vs := []) (z := (0 : Int32)) ⟨by decide, by decide⟩ (by decide) (by decide) (g := (mkF m 18 #[.val (.ref qa1), .val (.ref qa2), .val (.int (0 : Int32)), .val (.int (0 : Int32)), .val .null, .unset] [(.ref qa1)])) rfl (hb hby d2_18) (n := 0) (by decide) (by decide) (by decide) (by decide)
  have K17 : Keep h0 h15 [qa1] := K10.ext E15
  have R19 : CHr Z consts_1 s.vm h0 T15.vm h15 := R13.trans CR15
  obtain ⟨T20, X20, e20, st20⟩ := getF X15 hx hZ15 ho15 (host := "") (Or.inl (hw _ (List.mem_of_getElem? (i := 30) rfl))) Via.refl e15 Fc15 (g := (mkF m 20 #[.val (.ref qa1), .val (.ref qa2), .val (.int (0 : Int32)), .val (.int (0 : Int32)), .val .null, .unset] [(.ref b15), (.ref qa1)])) rfl rfl (hb hby d2_20)
  have F21_ : Fld Z h2 qa1 "java/lang/String" "coder" "B" (.int (0 : Int32)) := F_qa1_coder.ext E2
  have F22_ : Fld Z h9 qa1 "java/lang/String" "coder" "B" (.int (0 : Int32)) := F21_.other W9 (Or.inr (slot_ne (Or.inr (hw _ (List.mem_of_getElem? (i := 31) rfl))) (Or.inr (hw _ (List.mem_of_getElem? (i := 33) rfl))) (by decide) (t := .byte) (t' := (.array .byte)) (by decide) (by decide)))
  have F23_ : Fld Z h15 qa1 "java/lang/String" "coder" "B" (.int (0 : Int32)) := F22_.ext E15
  have E24_ : Exa Z h9 qa1 "java/lang/String" := E8_.wr W9
  have E25_ : Exa Z h15 qa1 "java/lang/String" := E24_.ext E15
  obtain ⟨T26, h26, X26, e26, W26, st26⟩ := putF X20 hx hZ15 ho15 (host := "") (Or.inl (hw _ (List.mem_of_getElem? (i := 30) rfl))) Via.refl e20 F23_ E25_ (Or.inr ⟨(hw _ (List.mem_of_getElem? (i := 31) rfl)), rfl, hnm⟩) (hw _ (List.mem_of_getElem? (i := 5) rfl)) (ty := .byte) (by decide) rfl rfl (g := (mkF m 23 #[.val (.ref qa1), .val (.ref qa2), .val (.int (0 : Int32)), .val (.int (0 : Int32)), .val .null, .unset] [(.int (0 : Int32)), (.ref qa1)])) rfl rfl (hb hby d2_23)
  have N26 := Fr.snoc X26 N9 g_qa1
  have K27 : Keep h0 h26 [qa1] := K17.wr W26 (Or.inl (List.mem_of_getElem? (i := 0) rfl))
  have f29 : Safe Z consts_1 T2.vm h9 qa1 := Safe.wr W9 f12 CR2.1 f12
  have f30 : Safe Z consts_1 T15.vm h15 qa1 := CR15.safe (Nat.lt_of_lt_of_le E_qa1.lt (Nat.le_trans E2.1 (Nat.le_of_eq W9.size.symm))) f29
  have C28 : CHv Z consts_1 T15.vm h26 := CHv.wr W26 f30 CR15.1
  have R31 : CHr Z consts_1 s.vm h0 T15.vm h26 := R19.trans (CHr.wr W26 f30 CR15.1)
  have F32_ : Fld Z h26 qa1 "java/lang/String" "coder" "B" (.int (0 : Int32)) := F23_.same W26
  have E33_ : Exa Z h26 qa1 "java/lang/String" := E25_.wr W26
  have F34_ : Fld Z h15 qa1 "java/lang/String" "value" "[B" (.ref t2) := F14_.ext E15
  have F35_ : Fld Z h26 qa1 "java/lang/String" "value" "[B" (.ref t2) := F34_.other W26 (Or.inr (slot_ne (Or.inr (hw _ (List.mem_of_getElem? (i := 33) rfl))) (Or.inr (hw _ (List.mem_of_getElem? (i := 31) rfl))) (by decide) (t := (.array .byte)) (t' := .byte) (by decide) (by decide)))
  have A36_ : Arv Z h9 t2 c2 .byte (0 : Int32) [] (.int 0) := Av2.other W9 (Ne.symm (sf2 qa1 f12).2)
  have A37_ : Arv Z h15 t2 c2 .byte (0 : Int32) [] (.int 0) := A36_.ext E15
  have A38_ : Arv Z h26 t2 c2 .byte (0 : Int32) [] (.int 0) := A37_.other W26 (Ne.symm (sf2 qa1 f12).2)
  have hk39' : _ ≤ h26.size := (Nat.le_trans hk15 (Nat.le_of_eq W26.size.symm))
  obtain ⟨fs, hr, hrun, hended, hEnd⟩ := X26.leaveW (s := s) hS15 (by rw [show T26.heap = h26 from e26]; exact hk39') (v := none) (fun _ => rfl)
  have hCe : CHr Z consts_1 s.vm h0 T26.vm h26 := R31.trans (CHv.at X26 hZ15 hEL C28)
  refine ⟨_, _, pre0 _ ?_, hrun, hended, _, _, rfl, ?_, ?_, hEnd.1, hEnd.2.1, hEnd.2.2.1, hEnd.2.2.2.mono (by decide) (by decide)⟩
  · show Steps p.tables e below (s₁.setTop (mkF m 0 #[.val (.ref qa1), .val (.ref qa2), .val (.int (0 : Int32)), .val (.int (0 : Int32)), .val .null, .unset] [])) _
    refine XS.aloadN X0.here hx rfl (hb hby d2_0) rfl rfl ?_
    show Steps p.tables e below (s₁.setTop (mkF m 1 #[.val (.ref qa1), .val (.ref qa2), .val (.int (0 : Int32)), .val (.int (0 : Int32)), .val .null, .unset] [(.ref qa1)])) _
    refine st1 _ ?_
    show Steps p.tables e below (T1.setTop (mkF m 4 #[.val (.ref qa1), .val (.ref qa2), .val (.int (0 : Int32)), .val (.int (0 : Int32)), .val .null, .unset] [])) _
    refine XS.iloadN X1.here hx rfl (hb hby d2_4) rfl ?_
    show Steps p.tables e below (T1.setTop (mkF m 5 #[.val (.ref qa1), .val (.ref qa2), .val (.int (0 : Int32)), .val (.int (0 : Int32)), .val .null, .unset] [(.int (0 : Int32))])) _
    refine XS.ifNo X1.here hx rfl (hb hby d2_5) rfl (XT.i0_ne_f ((by decide) : (0 : Int32) = (0 : Int32))) ?_
    show Steps p.tables e below (T1.setTop (mkF m 8 #[.val (.ref qa1), .val (.ref qa2), .val (.int (0 : Int32)), .val (.int (0 : Int32)), .val .null, .unset] [])) _
    refine XS.aloadN X1.here hx rfl (hb hby d2_8) rfl rfl ?_
    show Steps p.tables e below (T1.setTop (mkF m 9 #[.val (.ref qa1), .val (.ref qa2), .val (.int (0 : Int32)), .val (.int (0 : Int32)), .val .null, .unset] [(.ref qa1)])) _
    refine st2 _ ?_
    show Steps p.tables e below (T2.setTop (mkF m 11 #[.val (.ref qa1), .val (.ref qa2), .val (.int (0 : Int32)), .val (.int (0 : Int32)), .val .null, .unset] [(.ref b2), (.ref qa1)])) _
    refine st6 _ ?_
    show Steps p.tables e below (T6.setTop (mkF m 14 #[.val (.ref qa1), .val (.ref qa2), .val (.int (0 : Int32)), .val (.int (0 : Int32)), .val .null, .unset] [(.ref t2), (.ref qa1)])) _
    refine st9 _ ?_
    show Steps p.tables e below (T9.setTop (mkF m 17 #[.val (.ref qa1), .val (.ref qa2), .val (.int (0 : Int32)), .val (.int (0 : Int32)), .val .null, .unset] [])) _
    refine XS.aloadN X9.here hx rfl (hb hby d2_17) rfl rfl ?_
    show Steps p.tables e below (T9.setTop (mkF m 18 #[.val (.ref qa1), .val (.ref qa2), .val (.int (0 : Int32)), .val (.int (0 : Int32)), .val .null, .unset] [(.ref qa1)])) _
    refine st15 _ ?_
    show Steps p.tables e below (T15.setTop (mkF m 20 #[.val (.ref qa1), .val (.ref qa2), .val (.int (0 : Int32)), .val (.int (0 : Int32)), .val .null, .unset] [(.ref b15), (.ref qa1)])) _
    refine st20 _ ?_
    show Steps p.tables e below (T20.setTop (mkF m 23 #[.val (.ref qa1), .val (.ref qa2), .val (.int (0 : Int32)), .val (.int (0 : Int32)), .val .null, .unset] [(.int (0 : Int32)), (.ref qa1)])) _
    refine st26 _ ?_
    show Steps p.tables e below (T26.setTop (mkF m 26 #[.val (.ref qa1), .val (.ref qa2), .val (.int (0 : Int32)), .val (.int (0 : Int32)), .val .null, .unset] [])) _
    exact X26.returnOut hx Bd.returns (hb hby d2_26) hr
  · show Q1 Z qa1 qa2 h0 n0 _ T26.heap _
    rw [show T26.heap = h26 from e26]
    exact ⟨t2, c2, rfl, N26, K27, E33_, F35_, F32_, A38_⟩
  · show CHr Z consts_1 s.vm s.heap T26.vm T26.heap
    rw [hh]
    rw [show T26.heap = h26 from e26]
    exact hCe
theorem pd0 : parseMethodDescriptor "([CIILjava/lang/Void;)V" = some ⟨[(.array .char), .int, .int, (.object "java/lang/Void")], none⟩ := by decide +kernel
theorem d1_9 : decode jdk_42_method_3_code 9 = .ok (.return_, 1) := by decide +kernel
-- java/lang/String.<init>([C)V
def Q2 (Z : State) (qa1 : Addr) (qa2 : Addr) (qk3 : ClassId) (h0 : Heap) (n0 : Nat) (v : Option Value) (h : Heap) (L : List Loc) : Prop := ∃ b3 : Addr, ∃ c4_ : ClassId, v = none ∧ Fr n0 L ∧ Keep h0 h [qa1] ∧ Exa Z h qa1 "java/lang/String" ∧ Fld Z h qa1 "java/lang/String" "value" "[B" (.ref b3) ∧ Fld Z h qa1 "java/lang/String" "coder" "B" (.int (0 : Int32)) ∧ Arv Z h b3 c4_ .byte (0 : Int32) [] (.int 0)
set_option maxRecDepth 65536 in
set_option maxHeartbeats 40000000 in
theorem rm2 (l : Launch) (Z : State) (a0 : Array Value) (hw : ∀ d ∈ tables_1, d.before a0 Z = true) (ws : List Jvm.Cond) (qa1 : Addr) (qa2 : Addr) (qk3 : ClassId) (h0 : Heap) (n0 : Nat) (X00 : Old Z n0 h0) (A_qa2 : Arv Z h0 qa2 qk3 .char (0 : Int32) [] (.int (0 : Int32))) (E_qa1 : Exa Z h0 qa1 "java/lang/String") (F_qa1_value : Fld Z h0 qa1 "java/lang/String" "value" "[B" .null) (g_qa1 : n0 ≤ qa1) (F_qa1_coder : Fld Z h0 qa1 "java/lang/String" "coder" "B" (.int (0 : Int32))) :
    MetFree l (⟨"java/lang/String", "<init>", "([C)V"⟩ : MethodName) (head1 (Jvm.Cond.code (⟨"java/lang/String", "<init>", "([C)V"⟩ : MethodName) jdk_42_method_3_code 2 none :: ws) ({ frames := 2, cells := 4, slots := 8, locals := 29 } : Room)) (fun a U => a = #[(.ref qa1), (.ref qa2)] ∧ Z.Warmed39 U.vm ∧ U.heap = h0 ∧ CHv Z consts_1 U.vm h0) (fun _ _ _ _ _ => True) (fun _ U o U' => ∃ v L, o = .returned v ∧ Q2 Z qa1 qa2 qk3 h0 n0 v U'.heap L ∧ CHr Z consts_1 U.vm U.heap U'.vm U'.heap ∧ ReturnedEndW U o U' L ({ frames := 2, cells := 4, slots := 8, locals := 29 } : Room).cells ({ frames := 2, cells := 4, slots := 8, locals := 29 } : Room).slots) := by
  refine MetFree.of_bodySF (plainFor_of_name pn1) hisR ?_
  intro p e s m args below meth c s₁ Bd hml0 hP hK
  obtain ⟨rfl, hZ, hh, hC0⟩ := hP
  have hx := Bd.exec
  have hby := Bd.bytes
  have hml : c.maxLocals = 2 := hml0
  have hown : s.vm.findClass "java/lang/String" = some m.cls := findClass_of_methodNamed Bd.named
  have hnm := (name_of_methodNamed Bd.named Bd.method).1
  have X0 : Stand p l e ({ frames := 2, cells := 4, slots := 8, locals := 29 } : Room) (s.setVm s.vm) m #[(.ref qa1), (.ref qa2)] below meth c s₁ [] 0 0 := Stand.of_body Bd
  have e0 : s₁.heap = h0 := by rw [← hh, Bd.state]; rfl
  have N0 := Fr.nil n0
  have pre0 : ∀ t, Steps p.tables e below (s₁.setTop (mkF m 0 #[.val (.ref qa1), .val (.ref qa2)] [])) t → Steps p.tables e below (s₁.setTop (entryFrame m #[(.ref qa1), (.ref qa2)] 2)) t := fun t k => castTop (ef2 m qa1 qa2) k
  have hS0 : s.Since s.vm h0.size := (State.WarmedH.refl s).since _
  have hk0 : h0.size ≤ h0.size := Nat.le_refl _
  have hR0 : CHr Z consts_1 s.vm h0 s.vm h0 := CHr.refl hC0
  have hEL := own_EW hw
  have hwS := own_wS hw
  have av1 := A_qa2
  obtain ⟨cl1, Ar1, q1, S1, N1, H1, G1⟩ := av1
  obtain ⟨_, _, ⟨T2, L2, k2, n2⟩, -, X2, hS2, hgr2, ⟨Lc2, hQ2, l2, y2, z2, CR2⟩, st2⟩ := X0.specialBackS hx (y := (⟨"java/lang/String", "<init>", "([CIILjava/lang/Void;)V"⟩ : MethodName)) rfl hown (mvT hZ (hw _ (List.mem_of_getElem? (i := 11) rfl))) (mvT hZ (hw _ (List.mem_of_getElem? (i := 12) rfl))) (mvT hZ (hw _ (List.mem_of_getElem? (i := 14) rfl))) (by decide) (backOfSH (W := 0) (EL := consts_1) (s := s) (rm1 l Z a0 hw []  qa1 qa2 h0 n0 X00 E_qa1 F_qa1_value g_qa1 F_qa1_coder) hZ (hw _ (List.mem_of_getElem? (i := 14) rfl)) (hw _ (List.mem_of_getElem? (i := 6) rfl)) (by decide) (by decide) hEL hC0) (g := (mkF m 6 #[.val (.ref qa1), .val (.ref qa2)] [.null, (.int (0 : Int32)), (.int (0 : Int32)), (.ref qa2), (.ref qa1)])) rfl (by rw [hml]; rfl) (Steps.refl _) (a := qa1) (argsL := [(.ref qa2), (.int (0 : Int32)), (.int (0 : Int32)), .null]) (rest := []) (lenOf pd0 rfl) rfl (by show 2 * 0 + _ ≤ _; exact Nat.le_of_eq rfl) (hb hby d1_6) (fun _ _ => ⟨rfl, e0, (by decide : 0 + 4 ≤ _), (by decide : 0 + 8 ≤ _)⟩)
  dsimp only [Pt.U, Pt.locs, Pt.cells, Pt.slots] at X2 l2 y2 z2 st2 hQ2 CR2 hS2 hgr2
  subst l2 y2 z2
  obtain ⟨b3, c4_, rfl, N2q, K2q, w5, w6, w7, w8⟩ := hQ2
  have N2 := Fr.app N0 N2q
  have hS2_ : s.Since T2.vm T2.heap.size := hS0.trans hS2 (Nat.le_trans hk0 (show h0.size ≤ T2.heap.size from (e0 ▸ hgr2)))
  have hZ2 : Z.Warmed39 T2.vm := State.Warmed39.trans (t := s.setVm s.vm) hZ hS2.1
  have ho2 : T2.vm.findClass "java/lang/String" = some m.cls := by rw [hS2.1.alike.findClass]; exact hown
  have X2_ : Stand p l e ({ frames := 2, cells := 4, slots := 8, locals := 29 } : Room) (s.setVm T2.vm) m #[(.ref qa1), (.ref qa2)] below meth c T2 _ _ _ := X2
  have hk2 : T2.heap.size ≤ T2.heap.size := Nat.le_refl _
  have K9 : Keep h0 T2.heap [qa1] := (Keep.refl h0 [qa1]).trans K2q (allS (Or.inl (List.mem_of_getElem? (i := 0) rfl)) all0)
  have R11 : CHr Z consts_1 s.vm h0 T2.vm T2.heap := hR0.trans CR2
  have E12_ : Exa Z T2.heap qa1 "java/lang/String" := E_qa1.keep K2q
  obtain ⟨fs, hr, hrun, hended, hEnd⟩ := X2_.leaveW (s := s) hS2_ (by rw [show T2.heap = T2.heap from rfl]; exact hk2) (v := none) (fun _ => rfl)
  have hCe : CHr Z consts_1 s.vm h0 T2.vm T2.heap := R11.trans (CHv.at X2_ hZ2 hEL CR2.1)
  refine ⟨_, _, pre0 _ ?_, hrun, hended, _, _, rfl, ?_, ?_, hEnd.1, hEnd.2.1, hEnd.2.2.1, hEnd.2.2.2.mono (by decide) (by decide)⟩
  · show Steps p.tables e below (s₁.setTop (mkF m 0 #[.val (.ref qa1), .val (.ref qa2)] [])) _
    refine XS.aloadN X0.here hx rfl (hb hby d1_0) rfl rfl ?_
    show Steps p.tables e below (s₁.setTop (mkF m 1 #[.val (.ref qa1), .val (.ref qa2)] [(.ref qa1)])) _
    refine XS.aloadN X0.here hx rfl (hb hby d1_1) rfl rfl ?_
    show Steps p.tables e below (s₁.setTop (mkF m 2 #[.val (.ref qa1), .val (.ref qa2)] [(.ref qa2), (.ref qa1)])) _
    refine XS.iconst X0.here hx rfl (hb hby d1_2) ?_
    show Steps p.tables e below (s₁.setTop (mkF m 3 #[.val (.ref qa1), .val (.ref qa2)] [(.int (0 : Int32)), (.ref qa2), (.ref qa1)])) _
    refine XS.aloadN X0.here hx rfl (hb hby d1_3) rfl rfl ?_
    show Steps p.tables e below (s₁.setTop (mkF m 4 #[.val (.ref qa1), .val (.ref qa2)] [(.ref qa2), (.int (0 : Int32)), (.ref qa2), (.ref qa1)])) _
    refine X0.arraylength hx (by rw [e0]; exact Ar1.1) (State.isArrayOf_alike hZ.alike Ar1.2.1) (g := (mkF m 4 #[.val (.ref qa1), .val (.ref qa2)] [(.ref qa2), (.int (0 : Int32)), (.ref qa2), (.ref qa1)])) rfl rfl (hb hby d1_4) _ ?_
    rw [len_of S1 N1]
    show Steps p.tables e below (s₁.setTop (mkF m 5 #[.val (.ref qa1), .val (.ref qa2)] [(.int (0 : Int32)), (.int (0 : Int32)), (.ref qa2), (.ref qa1)])) _
    refine XS.aconstNull X0.here hx rfl (hb hby d1_5) ?_
    show Steps p.tables e below (s₁.setTop (mkF m 6 #[.val (.ref qa1), .val (.ref qa2)] [.null, (.int (0 : Int32)), (.int (0 : Int32)), (.ref qa2), (.ref qa1)])) _
    refine st2.trans ?_
    show Steps p.tables e below (T2.setTop (mkF m 9 #[.val (.ref qa1), .val (.ref qa2)] [])) _
    exact X2_.returnOut hx Bd.returns (hb hby d1_9) hr
  · show Q2 Z qa1 qa2 qk3 h0 n0 _ T2.heap _
    exact ⟨b3, c4_, rfl, N2, K9, E12_, w6, w7, w8⟩
  · show CHr Z consts_1 s.vm s.heap T2.vm T2.heap
    rw [hh]
    exact hCe
theorem pd1 : parseMethodDescriptor "([C)V" = some ⟨[(.array .char)], none⟩ := by decide +kernel
theorem d0_42 : decode method_3_code 42 = .ok (.areturn, 1) := by decide +kernel
-- com/example/foreground_courier/foregroundcourier/FailureHttpStatusPinLaw.makeBody(II)Ljava/lang/String;
def Q3 (Z : State) (qi1 : Int32) (qi2 : Int32) (h0 : Heap) (n0 : Nat) (v : Option Value) (h : Heap) (L : List Loc) : Prop := ∃ b2 : Addr, ∃ b19 : Addr, ∃ c20_ : ClassId, v = some (.ref b2) ∧ Fr n0 L ∧ Keep h0 h [] ∧ h0.size ≤ b2 ∧ Exa Z h b2 "java/lang/String" ∧ Fld Z h b2 "java/lang/String" "value" "[B" (.ref b19) ∧ Fld Z h b2 "java/lang/String" "coder" "B" (.int (0 : Int32)) ∧ Arv Z h b19 c20_ .byte (0 : Int32) [] (.int 0)
set_option maxRecDepth 65536 in
set_option maxHeartbeats 40000000 in
theorem rm3 (l : Launch) (Z : State) (a0 : Array Value) (hw : ∀ d ∈ tables_1, d.before a0 Z = true) (ws : List Jvm.Cond) (qi1 : Int32) (qi2 : Int32) (h0 : Heap) (n0 : Nat) (X00 : Old Z n0 h0) (hc1 : qi2 = (0 : Int32)) :
    MetFree l (⟨"com/example/foreground_courier/foregroundcourier/FailureHttpStatusPinLaw", "makeBody", "(II)Ljava/lang/String;"⟩ : MethodName) (head1 (Jvm.Cond.code (⟨"com/example/foreground_courier/foregroundcourier/FailureHttpStatusPinLaw", "makeBody", "(II)Ljava/lang/String;"⟩ : MethodName) method_3_code 5 (some (.object "java/lang/String")) :: ws) ({ frames := 3, cells := 6, slots := 12, locals := 43 } : Room)) (fun a U => a = #[(.int qi1), (.int qi2)] ∧ Z.Warmed39 U.vm ∧ U.heap = h0 ∧ CHv Z consts_1 U.vm h0) (fun _ _ _ _ _ => True) (fun _ U o U' => ∃ v L, o = .returned v ∧ Q3 Z qi1 qi2 h0 n0 v U'.heap L ∧ CHr Z consts_1 U.vm U.heap U'.vm U'.heap ∧ ReturnedEndW U o U' L ({ frames := 3, cells := 6, slots := 12, locals := 43 } : Room).cells ({ frames := 3, cells := 6, slots := 12, locals := 43 } : Room).slots) := by
  refine MetFree.of_bodySF (plainFor_of_name pn0) hisR ?_
  intro p e s m args below meth c s₁ Bd hml0 hP hK
  obtain ⟨rfl, hZ, hh, hC0⟩ := hP
  have hx := Bd.exec
  have hby := Bd.bytes
  have hml : c.maxLocals = 5 := hml0
  have hown : s.vm.findClass "com/example/foreground_courier/foregroundcourier/FailureHttpStatusPinLaw" = some m.cls := findClass_of_methodNamed Bd.named
  have hnm := (name_of_methodNamed Bd.named Bd.method).1
  have X0 : Stand p l e ({ frames := 3, cells := 6, slots := 12, locals := 43 } : Room) (s.setVm s.vm) m #[(.int qi1), (.int qi2)] below meth c s₁ [] 0 0 := Stand.of_body Bd
  have e0 : s₁.heap = h0 := by rw [← hh, Bd.state]; rfl
  have N0 := Fr.nil n0
  have pre0 : ∀ t, Steps p.tables e below (s₁.setTop (mkF m 0 #[.val (.int qi1), .val (.int qi2), .unset, .unset, .unset] [])) t → Steps p.tables e below (s₁.setTop (entryFrame m #[(.int qi1), (.int qi2)] 5)) t := fun t k => castTop (ef1 m qi1 qi2) k
  have hS0 : s.Since s.vm h0.size := (State.WarmedH.refl s).since _
  have hk0 : h0.size ≤ h0.size := Nat.le_refl _
  have hR0 : CHr Z consts_1 s.vm h0 s.vm h0 := CHr.refl hC0
  have hEL := own_EW hw
  have hwS := own_wS hw
  obtain ⟨T2, h2, X2, e2, E2, A2, D2, -, st2⟩ := newO X0 hx hZ hown (hw _ (List.mem_of_getElem? (i := 4) rfl)) (hw _ (List.mem_of_getElem? (i := 5) rfl)) (hw _ (List.mem_of_getElem? (i := 6) rfl)) e0 (g := (mkF m 32 #[.val (.int qi1), .val (.int qi2), .val (.int (((qi1 &&& (255 : Int32))).toUInt32.toUInt16.toUInt32.toInt32)), .val (.int ((((((qi1).toUInt32 >>> ((8 : Int32) &&& 31).toUInt32).toInt32) &&& (255 : Int32))).toUInt32.toUInt16.toUInt32.toInt32)), .val (.int ((((((qi1).toUInt32 >>> ((16 : Int32) &&& 31).toUInt32).toInt32) &&& (255 : Int32))).toUInt32.toUInt16.toUInt32.toInt32))] [])) rfl (hb hby d0_32) (by decide) (by decide)
  obtain ⟨b2, g2⟩ : ∃ z, z = h0.size := ⟨_, rfl⟩
  rw [← g2] at A2 D2 st2
  have K3 : Keep h0 h2 [] := (Keep.refl h0 []).ext E2
  have C4 : CHv Z consts_1 s.vm h2 := CHv.ext E2 hC0
  have R5 : CHr Z consts_1 s.vm h0 s.vm h2 := hR0.trans (CHr.ext E2 hC0)
  have F6_ : Fld Z h2 b2 "java/lang/String" "coder" "B" (.int (0 : Int32)) := D2 (Or.inr (hw _ (List.mem_of_getElem? (i := 31) rfl))) (ty := .byte) (by decide)
  have F7_ : Fld Z h2 b2 "java/lang/String" "value" "[B" .null := D2 (Or.inr (hw _ (List.mem_of_getElem? (i := 33) rfl))) (ty := (.array .byte)) (by decide)
  obtain ⟨T8, h8, c8, X8, e8, E8, A8, st8⟩ := newP X2 hx hZ (hw _ (List.mem_of_getElem? (i := 7) rfl)) e2 (g := (mkF m 37 #[.val (.int qi1), .val (.int qi2), .val (.int (((qi1 &&& (255 : Int32))).toUInt32.toUInt16.toUInt32.toInt32)), .val (.int ((((((qi1).toUInt32 >>> ((8 : Int32) &&& 31).toUInt32).toInt32) &&& (255 : Int32))).toUInt32.toUInt16.toUInt32.toInt32)), .val (.int ((((((qi1).toUInt32 >>> ((16 : Int32) &&& 31).toUInt32).toInt32) &&& (255 : Int32))).toUInt32.toUInt16.toUInt32.toInt32))] [(.int (0 : Int32)), (.ref b2), (.ref b2)])) rfl (hb hby d0_37) rfl (by decide) (cap := 0) (by decide) (by decide) (by decide) (by decide)
  obtain ⟨b8, g8⟩ : ∃ z, z = h2.size := ⟨_, rfl⟩
  rw [← g8] at A8 st8
  have K9 : Keep h0 h8 [] := K3.ext E8
  have C10 : CHv Z consts_1 s.vm h8 := CHv.ext E8 C4
  have R11 : CHr Z consts_1 s.vm h0 s.vm h8 := R5.trans (CHr.ext E8 C4)
  have A12_ : Arv Z h8 b8 c8 .char (0 : Int32) [] (.int (0 : Int32)) := (Arv.new A8 (by decide)).pad (pad_rep [] (.int (0 : Int32)) 0)
  have E14_ : Exa Z h8 b2 "java/lang/String" := A2.ext E8
  have F15_ : Fld Z h8 b2 "java/lang/String" "value" "[B" .null := F7_.ext E8
  have g_b2 : n0 ≤ b2 := Nat.le_trans (Nat.le_trans (Nat.le_of_eq X00.1.symm) X00.2.1) (Nat.le_of_eq g2.symm)
  have F16_ : Fld Z h8 b2 "java/lang/String" "coder" "B" (.int (0 : Int32)) := F6_.ext E8
  have O17 : Old Z n0 h2 := X00.ext E2
  have O18 : Old Z n0 h8 := O17.ext E8
  obtain ⟨_, _, ⟨T13, L13, k13, n13⟩, -, X13, hS13, hgr13, ⟨Lc13, hQ13, l13, y13, z13, CR13⟩, st13⟩ := X8.specialBackS hx (y := (⟨"java/lang/String", "<init>", "([C)V"⟩ : MethodName)) rfl hown (mvT hZ (hw _ (List.mem_of_getElem? (i := 8) rfl))) (mvT hZ (hw _ (List.mem_of_getElem? (i := 9) rfl))) (mvT hZ (hw _ (List.mem_of_getElem? (i := 10) rfl))) (by decide) (backOfSH (W := 1) (EL := consts_1) (s := s) (rm2 l Z a0 hw []  b2 b8 c8 h8 n0 O18 A12_ E14_ F15_ g_b2 F16_) hZ (hw _ (List.mem_of_getElem? (i := 10) rfl)) (hw _ (List.mem_of_getElem? (i := 6) rfl)) (by decide) (by decide) hEL C10) (g := (mkF m 39 #[.val (.int qi1), .val (.int qi2), .val (.int (((qi1 &&& (255 : Int32))).toUInt32.toUInt16.toUInt32.toInt32)), .val (.int ((((((qi1).toUInt32 >>> ((8 : Int32) &&& 31).toUInt32).toInt32) &&& (255 : Int32))).toUInt32.toUInt16.toUInt32.toInt32)), .val (.int ((((((qi1).toUInt32 >>> ((16 : Int32) &&& 31).toUInt32).toInt32) &&& (255 : Int32))).toUInt32.toUInt16.toUInt32.toInt32))] [(.ref b8), (.ref b2), (.ref b2)])) rfl (by rw [hml]; rfl) (Steps.refl _) (a := b2) (argsL := [(.ref b8)]) (rest := [(.ref b2)]) (lenOf pd1 rfl) rfl (by show 2 * 0 + _ ≤ _; exact Nat.le_of_eq rfl) (hb hby d0_39) (fun _ _ => ⟨rfl, e8, (by decide : 2 + 4 ≤ _), (by decide : 4 + 8 ≤ _)⟩)
  dsimp only [Pt.U, Pt.locs, Pt.cells, Pt.slots] at X13 l13 y13 z13 st13 hQ13 CR13 hS13 hgr13
  subst l13 y13 z13
  obtain ⟨b19, c20_, rfl, N13q, K13q, w21, w22, w23, w24⟩ := hQ13
  have N13 := Fr.app N0 N13q
  have hk25' : _ ≤ h8.size := (Nat.le_trans (Nat.le_trans hk0 E2.1) E8.1)
  have hS13_ : s.Since T13.vm T13.heap.size := hS0.trans hS13 (Nat.le_trans hk25' (show h8.size ≤ T13.heap.size from (e8 ▸ hgr13)))
  have hZ13 : Z.Warmed39 T13.vm := State.Warmed39.trans (t := s.setVm s.vm) hZ hS13.1
  have ho13 : T13.vm.findClass "com/example/foreground_courier/foregroundcourier/FailureHttpStatusPinLaw" = some m.cls := by rw [hS13.1.alike.findClass]; exact hown
  have X13_ : Stand p l e ({ frames := 3, cells := 6, slots := 12, locals := 43 } : Room) (s.setVm T13.vm) m #[(.int qi1), (.int qi2)] below meth c T13 _ _ _ := X13
  have hk13 : T13.heap.size ≤ T13.heap.size := Nat.le_refl _
  have sz_b2 : h0.size ≤ b2 := (Nat.le_of_eq g2.symm)
  have K26 : Keep h0 T13.heap [] := K9.trans K13q (allS (Or.inr sz_b2) all0)
  have R28 : CHr Z consts_1 s.vm h0 T13.vm T13.heap := R11.trans CR13
  have E29_ : Exa Z T13.heap b2 "java/lang/String" := E14_.keep K13q
  obtain ⟨fs, hr, hrun, hended, hEnd⟩ := X13_.leaveW (s := s) hS13_ (by rw [show T13.heap = T13.heap from rfl]; exact hk13) (v := (some (.ref b2))) (fun h => by rw [Bd.returns] at h; cases h)
  have hCe : CHr Z consts_1 s.vm h0 T13.vm T13.heap := R28.trans (CHv.at X13_ hZ13 hEL CR13.1)
  refine ⟨_, _, pre0 _ ?_, hrun, hended, _, _, rfl, ?_, ?_, hEnd.1, hEnd.2.1, hEnd.2.2.1, hEnd.2.2.2.mono (by decide) (by decide)⟩
  · show Steps p.tables e below (s₁.setTop (mkF m 0 #[.val (.int qi1), .val (.int qi2), .unset, .unset, .unset] [])) _
    refine XS.iloadN X0.here hx rfl (hb hby d0_0) rfl ?_
    show Steps p.tables e below (s₁.setTop (mkF m 1 #[.val (.int qi1), .val (.int qi2), .unset, .unset, .unset] [(.int qi1)])) _
    refine XS.sipush X0.here hx rfl (hb hby d0_1) ?_
    show Steps p.tables e below (s₁.setTop (mkF m 4 #[.val (.int qi1), .val (.int qi2), .unset, .unset, .unset] [(.int (255 : Int32)), (.int qi1)])) _
    refine XS.iand X0.here hx rfl (hb hby d0_4) rfl ?_
    show Steps p.tables e below (s₁.setTop (mkF m 5 #[.val (.int qi1), .val (.int qi2), .unset, .unset, .unset] [(.int (qi1 &&& (255 : Int32)))])) _
    refine XS.i2c X0.here hx rfl (hb hby d0_5) rfl ?_
    show Steps p.tables e below (s₁.setTop (mkF m 6 #[.val (.int qi1), .val (.int qi2), .unset, .unset, .unset] [(.int (((qi1 &&& (255 : Int32))).toUInt32.toUInt16.toUInt32.toInt32))])) _
    refine XS.istoreN X0.here hx rfl (hb hby d0_6) rfl (l' := #[.val (.int qi1), .val (.int qi2), .val (.int (((qi1 &&& (255 : Int32))).toUInt32.toUInt16.toUInt32.toInt32)), .unset, .unset]) rfl ?_
    show Steps p.tables e below (s₁.setTop (mkF m 7 #[.val (.int qi1), .val (.int qi2), .val (.int (((qi1 &&& (255 : Int32))).toUInt32.toUInt16.toUInt32.toInt32)), .unset, .unset] [])) _
    refine XS.iloadN X0.here hx rfl (hb hby d0_7) rfl ?_
    show Steps p.tables e below (s₁.setTop (mkF m 8 #[.val (.int qi1), .val (.int qi2), .val (.int (((qi1 &&& (255 : Int32))).toUInt32.toUInt16.toUInt32.toInt32)), .unset, .unset] [(.int qi1)])) _
    refine XS.bipush X0.here hx rfl (hb hby d0_8) ?_
    show Steps p.tables e below (s₁.setTop (mkF m 10 #[.val (.int qi1), .val (.int qi2), .val (.int (((qi1 &&& (255 : Int32))).toUInt32.toUInt16.toUInt32.toInt32)), .unset, .unset] [(.int (8 : Int32)), (.int qi1)])) _
    refine XS.iushr X0.here hx rfl (hb hby d0_10) rfl ?_
    show Steps p.tables e below (s₁.setTop (mkF m 11 #[.val (.int qi1), .val (.int qi2), .val (.int (((qi1 &&& (255 : Int32))).toUInt32.toUInt16.toUInt32.toInt32)), .unset, .unset] [(.int (((qi1).toUInt32 >>> ((8 : Int32) &&& 31).toUInt32).toInt32))])) _
    refine XS.sipush X0.here hx rfl (hb hby d0_11) ?_
    show Steps p.tables e below (s₁.setTop (mkF m 14 #[.val (.int qi1), .val (.int qi2), .val (.int (((qi1 &&& (255 : Int32))).toUInt32.toUInt16.toUInt32.toInt32)), .unset, .unset] [(.int (255 : Int32)), (.int (((qi1).toUInt32 >>> ((8 : Int32) &&& 31).toUInt32).toInt32))])) _
    refine XS.iand X0.here hx rfl (hb hby d0_14) rfl ?_
    show Steps p.tables e below (s₁.setTop (mkF m 15 #[.val (.int qi1), .val (.int qi2), .val (.int (((qi1 &&& (255 : Int32))).toUInt32.toUInt16.toUInt32.toInt32)), .unset, .unset] [(.int ((((qi1).toUInt32 >>> ((8 : Int32) &&& 31).toUInt32).toInt32) &&& (255 : Int32)))])) _
    refine XS.i2c X0.here hx rfl (hb hby d0_15) rfl ?_
    show Steps p.tables e below (s₁.setTop (mkF m 16 #[.val (.int qi1), .val (.int qi2), .val (.int (((qi1 &&& (255 : Int32))).toUInt32.toUInt16.toUInt32.toInt32)), .unset, .unset] [(.int ((((((qi1).toUInt32 >>> ((8 : Int32) &&& 31).toUInt32).toInt32) &&& (255 : Int32))).toUInt32.toUInt16.toUInt32.toInt32))])) _
    refine XS.istoreN X0.here hx rfl (hb hby d0_16) rfl (l' := #[.val (.int qi1), .val (.int qi2), .val (.int (((qi1 &&& (255 : Int32))).toUInt32.toUInt16.toUInt32.toInt32)), .val (.int ((((((qi1).toUInt32 >>> ((8 : Int32) &&& 31).toUInt32).toInt32) &&& (255 : Int32))).toUInt32.toUInt16.toUInt32.toInt32)), .unset]) rfl ?_
    show Steps p.tables e below (s₁.setTop (mkF m 17 #[.val (.int qi1), .val (.int qi2), .val (.int (((qi1 &&& (255 : Int32))).toUInt32.toUInt16.toUInt32.toInt32)), .val (.int ((((((qi1).toUInt32 >>> ((8 : Int32) &&& 31).toUInt32).toInt32) &&& (255 : Int32))).toUInt32.toUInt16.toUInt32.toInt32)), .unset] [])) _
    refine XS.iloadN X0.here hx rfl (hb hby d0_17) rfl ?_
    show Steps p.tables e below (s₁.setTop (mkF m 18 #[.val (.int qi1), .val (.int qi2), .val (.int (((qi1 &&& (255 : Int32))).toUInt32.toUInt16.toUInt32.toInt32)), .val (.int ((((((qi1).toUInt32 >>> ((8 : Int32) &&& 31).toUInt32).toInt32) &&& (255 : Int32))).toUInt32.toUInt16.toUInt32.toInt32)), .unset] [(.int qi1)])) _
    refine XS.bipush X0.here hx rfl (hb hby d0_18) ?_
    show Steps p.tables e below (s₁.setTop (mkF m 20 #[.val (.int qi1), .val (.int qi2), .val (.int (((qi1 &&& (255 : Int32))).toUInt32.toUInt16.toUInt32.toInt32)), .val (.int ((((((qi1).toUInt32 >>> ((8 : Int32) &&& 31).toUInt32).toInt32) &&& (255 : Int32))).toUInt32.toUInt16.toUInt32.toInt32)), .unset] [(.int (16 : Int32)), (.int qi1)])) _
    refine XS.iushr X0.here hx rfl (hb hby d0_20) rfl ?_
    show Steps p.tables e below (s₁.setTop (mkF m 21 #[.val (.int qi1), .val (.int qi2), .val (.int (((qi1 &&& (255 : Int32))).toUInt32.toUInt16.toUInt32.toInt32)), .val (.int ((((((qi1).toUInt32 >>> ((8 : Int32) &&& 31).toUInt32).toInt32) &&& (255 : Int32))).toUInt32.toUInt16.toUInt32.toInt32)), .unset] [(.int (((qi1).toUInt32 >>> ((16 : Int32) &&& 31).toUInt32).toInt32))])) _
    refine XS.sipush X0.here hx rfl (hb hby d0_21) ?_
    show Steps p.tables e below (s₁.setTop (mkF m 24 #[.val (.int qi1), .val (.int qi2), .val (.int (((qi1 &&& (255 : Int32))).toUInt32.toUInt16.toUInt32.toInt32)), .val (.int ((((((qi1).toUInt32 >>> ((8 : Int32) &&& 31).toUInt32).toInt32) &&& (255 : Int32))).toUInt32.toUInt16.toUInt32.toInt32)), .unset] [(.int (255 : Int32)), (.int (((qi1).toUInt32 >>> ((16 : Int32) &&& 31).toUInt32).toInt32))])) _
    refine XS.iand X0.here hx rfl (hb hby d0_24) rfl ?_
    show Steps p.tables e below (s₁.setTop (mkF m 25 #[.val (.int qi1), .val (.int qi2), .val (.int (((qi1 &&& (255 : Int32))).toUInt32.toUInt16.toUInt32.toInt32)), .val (.int ((((((qi1).toUInt32 >>> ((8 : Int32) &&& 31).toUInt32).toInt32) &&& (255 : Int32))).toUInt32.toUInt16.toUInt32.toInt32)), .unset] [(.int ((((qi1).toUInt32 >>> ((16 : Int32) &&& 31).toUInt32).toInt32) &&& (255 : Int32)))])) _
    refine XS.i2c X0.here hx rfl (hb hby d0_25) rfl ?_
    show Steps p.tables e below (s₁.setTop (mkF m 26 #[.val (.int qi1), .val (.int qi2), .val (.int (((qi1 &&& (255 : Int32))).toUInt32.toUInt16.toUInt32.toInt32)), .val (.int ((((((qi1).toUInt32 >>> ((8 : Int32) &&& 31).toUInt32).toInt32) &&& (255 : Int32))).toUInt32.toUInt16.toUInt32.toInt32)), .unset] [(.int ((((((qi1).toUInt32 >>> ((16 : Int32) &&& 31).toUInt32).toInt32) &&& (255 : Int32))).toUInt32.toUInt16.toUInt32.toInt32))])) _
    refine XS.istore X0.here hx rfl (hb hby d0_26) rfl (l' := #[.val (.int qi1), .val (.int qi2), .val (.int (((qi1 &&& (255 : Int32))).toUInt32.toUInt16.toUInt32.toInt32)), .val (.int ((((((qi1).toUInt32 >>> ((8 : Int32) &&& 31).toUInt32).toInt32) &&& (255 : Int32))).toUInt32.toUInt16.toUInt32.toInt32)), .val (.int ((((((qi1).toUInt32 >>> ((16 : Int32) &&& 31).toUInt32).toInt32) &&& (255 : Int32))).toUInt32.toUInt16.toUInt32.toInt32))]) rfl ?_
    show Steps p.tables e below (s₁.setTop (mkF m 28 #[.val (.int qi1), .val (.int qi2), .val (.int (((qi1 &&& (255 : Int32))).toUInt32.toUInt16.toUInt32.toInt32)), .val (.int ((((((qi1).toUInt32 >>> ((8 : Int32) &&& 31).toUInt32).toInt32) &&& (255 : Int32))).toUInt32.toUInt16.toUInt32.toInt32)), .val (.int ((((((qi1).toUInt32 >>> ((16 : Int32) &&& 31).toUInt32).toInt32) &&& (255 : Int32))).toUInt32.toUInt16.toUInt32.toInt32))] [])) _
    refine XS.iloadN X0.here hx rfl (hb hby d0_28) rfl ?_
    show Steps p.tables e below (s₁.setTop (mkF m 29 #[.val (.int qi1), .val (.int qi2), .val (.int (((qi1 &&& (255 : Int32))).toUInt32.toUInt16.toUInt32.toInt32)), .val (.int ((((((qi1).toUInt32 >>> ((8 : Int32) &&& 31).toUInt32).toInt32) &&& (255 : Int32))).toUInt32.toUInt16.toUInt32.toInt32)), .val (.int ((((((qi1).toUInt32 >>> ((16 : Int32) &&& 31).toUInt32).toInt32) &&& (255 : Int32))).toUInt32.toUInt16.toUInt32.toInt32))] [(.int qi2)])) _
    refine XS.ifNo X0.here hx rfl (hb hby d0_29) rfl (XT.i0_ne_f (hc1 : qi2 = (0 : Int32))) ?_
    show Steps p.tables e below (s₁.setTop (mkF m 32 #[.val (.int qi1), .val (.int qi2), .val (.int (((qi1 &&& (255 : Int32))).toUInt32.toUInt16.toUInt32.toInt32)), .val (.int ((((((qi1).toUInt32 >>> ((8 : Int32) &&& 31).toUInt32).toInt32) &&& (255 : Int32))).toUInt32.toUInt16.toUInt32.toInt32)), .val (.int ((((((qi1).toUInt32 >>> ((16 : Int32) &&& 31).toUInt32).toInt32) &&& (255 : Int32))).toUInt32.toUInt16.toUInt32.toInt32))] [])) _
    refine st2 _ ?_
    show Steps p.tables e below (T2.setTop (mkF m 35 #[.val (.int qi1), .val (.int qi2), .val (.int (((qi1 &&& (255 : Int32))).toUInt32.toUInt16.toUInt32.toInt32)), .val (.int ((((((qi1).toUInt32 >>> ((8 : Int32) &&& 31).toUInt32).toInt32) &&& (255 : Int32))).toUInt32.toUInt16.toUInt32.toInt32)), .val (.int ((((((qi1).toUInt32 >>> ((16 : Int32) &&& 31).toUInt32).toInt32) &&& (255 : Int32))).toUInt32.toUInt16.toUInt32.toInt32))] [(.ref b2)])) _
    refine XS.dup X2.here hx rfl (hb hby d0_35) rfl rfl ?_
    show Steps p.tables e below (T2.setTop (mkF m 36 #[.val (.int qi1), .val (.int qi2), .val (.int (((qi1 &&& (255 : Int32))).toUInt32.toUInt16.toUInt32.toInt32)), .val (.int ((((((qi1).toUInt32 >>> ((8 : Int32) &&& 31).toUInt32).toInt32) &&& (255 : Int32))).toUInt32.toUInt16.toUInt32.toInt32)), .val (.int ((((((qi1).toUInt32 >>> ((16 : Int32) &&& 31).toUInt32).toInt32) &&& (255 : Int32))).toUInt32.toUInt16.toUInt32.toInt32))] [(.ref b2), (.ref b2)])) _
    refine XS.iconst X2.here hx rfl (hb hby d0_36) ?_
    show Steps p.tables e below (T2.setTop (mkF m 37 #[.val (.int qi1), .val (.int qi2), .val (.int (((qi1 &&& (255 : Int32))).toUInt32.toUInt16.toUInt32.toInt32)), .val (.int ((((((qi1).toUInt32 >>> ((8 : Int32) &&& 31).toUInt32).toInt32) &&& (255 : Int32))).toUInt32.toUInt16.toUInt32.toInt32)), .val (.int ((((((qi1).toUInt32 >>> ((16 : Int32) &&& 31).toUInt32).toInt32) &&& (255 : Int32))).toUInt32.toUInt16.toUInt32.toInt32))] [(.int (0 : Int32)), (.ref b2), (.ref b2)])) _
    refine st8 _ ?_
    show Steps p.tables e below (T8.setTop (mkF m 39 #[.val (.int qi1), .val (.int qi2), .val (.int (((qi1 &&& (255 : Int32))).toUInt32.toUInt16.toUInt32.toInt32)), .val (.int ((((((qi1).toUInt32 >>> ((8 : Int32) &&& 31).toUInt32).toInt32) &&& (255 : Int32))).toUInt32.toUInt16.toUInt32.toInt32)), .val (.int ((((((qi1).toUInt32 >>> ((16 : Int32) &&& 31).toUInt32).toInt32) &&& (255 : Int32))).toUInt32.toUInt16.toUInt32.toInt32))] [(.ref b8), (.ref b2), (.ref b2)])) _
    refine st13.trans ?_
    show Steps p.tables e below (T13.setTop (mkF m 42 #[.val (.int qi1), .val (.int qi2), .val (.int (((qi1 &&& (255 : Int32))).toUInt32.toUInt16.toUInt32.toInt32)), .val (.int ((((((qi1).toUInt32 >>> ((8 : Int32) &&& 31).toUInt32).toInt32) &&& (255 : Int32))).toUInt32.toUInt16.toUInt32.toInt32)), .val (.int ((((((qi1).toUInt32 >>> ((16 : Int32) &&& 31).toUInt32).toInt32) &&& (255 : Int32))).toUInt32.toUInt16.toUInt32.toInt32))] [(.ref b2)])) _
    exact retOut X13_ hx Bd.returns rfl (Or.inr (Or.inr (Or.inr (Or.inr ⟨rfl, rfl, rfl⟩)))) (hb hby d0_42) hr
  · show Q3 Z qi1 qi2 h0 n0 _ T13.heap _
    exact ⟨b2, b19, c20_, rfl, N13, K26, sz_b2, E29_, w22, w23, w24⟩
  · show CHr Z consts_1 s.vm s.heap T13.vm T13.heap
    rw [hh]
    exact hCe
theorem pd2 : parseMethodDescriptor "(II)Ljava/lang/String;" = some ⟨[.int, .int], some (.object "java/lang/String")⟩ := by decide +kernel
theorem ef4 (m : MethodId) (x0 : Int32) (x1 : Addr) : entryFrame m #[(.int x0), (.ref x1)] 2 = mkF m 0 #[.val (.int x0), .val (.ref x1)] [] := by first | (simp [entryFrame, mkF, argsToLocals, Value.category]; done) | rfl
theorem pn2 : plainName "com/example/foreground_courier/foregroundcourier/Failure" = true := by first | (simp [plainName, overriddenIn]; done) | decide +kernel
theorem d3_0 : decode prog_3_method_2_code 0 = .ok (.new 8, 3) := by decide +kernel
theorem d3_3 : decode prog_3_method_2_code 3 = .ok (.dup, 1) := by decide +kernel
theorem d3_4 : decode prog_3_method_2_code 4 = .ok (.getstatic 25, 3) := by decide +kernel
theorem d3_7 : decode prog_3_method_2_code 7 = .ok (.iload_n 0, 1) := by decide +kernel
theorem d3_8 : decode prog_3_method_2_code 8 = .ok (.aload_n 1, 1) := by decide +kernel
theorem d3_9 : decode prog_3_method_2_code 9 = .ok (.aconst_null, 1) := by decide +kernel
theorem d3_10 : decode prog_3_method_2_code 10 = .ok (.invokespecial 30, 3) := by decide +kernel
theorem ef5 (m : MethodId) (x0 : Addr) (x1 : Addr) (x2 : Int32) (x3 : Addr) : entryFrame m #[(.ref x0), (.ref x1), (.int x2), (.ref x3), .null] 5 = mkF m 0 #[.val (.ref x0), .val (.ref x1), .val (.int x2), .val (.ref x3), .val .null] [] := by first | (simp [entryFrame, mkF, argsToLocals, Value.category]; done) | rfl
theorem d4_0 : decode prog_3_method_1_code 0 = .ok (.aload_n 0, 1) := by decide +kernel
theorem d4_1 : decode prog_3_method_1_code 1 = .ok (.invokespecial 1, 3) := by decide +kernel
theorem d4_4 : decode prog_3_method_1_code 4 = .ok (.aload_n 0, 1) := by decide +kernel
theorem d4_5 : decode prog_3_method_1_code 5 = .ok (.aload_n 1, 1) := by decide +kernel
theorem d4_6 : decode prog_3_method_1_code 6 = .ok (.putfield 7, 3) := by decide +kernel
theorem d4_9 : decode prog_3_method_1_code 9 = .ok (.aload_n 0, 1) := by decide +kernel
theorem d4_10 : decode prog_3_method_1_code 10 = .ok (.iload_n 2, 1) := by decide +kernel
theorem d4_11 : decode prog_3_method_1_code 11 = .ok (.putfield 13, 3) := by decide +kernel
theorem d4_14 : decode prog_3_method_1_code 14 = .ok (.aload_n 0, 1) := by decide +kernel
theorem d4_15 : decode prog_3_method_1_code 15 = .ok (.aload_n 3, 1) := by decide +kernel
theorem d4_16 : decode prog_3_method_1_code 16 = .ok (.putfield 17, 3) := by decide +kernel
theorem d4_19 : decode prog_3_method_1_code 19 = .ok (.aload_n 0, 1) := by decide +kernel
theorem d4_20 : decode prog_3_method_1_code 20 = .ok (.aload 4, 2) := by decide +kernel
theorem d4_22 : decode prog_3_method_1_code 22 = .ok (.putfield 21, 3) := by decide +kernel
theorem d4_25 : decode prog_3_method_1_code 25 = .ok (.return_, 1) := by decide +kernel
-- com/example/foreground_courier/foregroundcourier/Failure.<init>(Lcom/example/foreground_courier/foregroundcourier/Failure$Kind;ILjava/lang/String;Ljava/lang/Throwable;)V
def Q4 (Z : State) (g_HTTP_STATUS : Addr) (qa1 : Addr) (qi2 : Int32) (qa3 : Addr) (h0 : Heap) (n0 : Nat) (v : Option Value) (h : Heap) (L : List Loc) : Prop := v = none ∧ Fr n0 L ∧ Keep h0 h [qa1] ∧ Exa Z h qa1 "com/example/foreground_courier/foregroundcourier/Failure" ∧ Fld Z h qa1 "com/example/foreground_courier/foregroundcourier/Failure" "kind" "Lcom/example/foreground_courier/foregroundcourier/Failure$Kind;" (.ref g_HTTP_STATUS) ∧ Fld Z h qa1 "com/example/foreground_courier/foregroundcourier/Failure" "statusCode" "I" (.int qi2) ∧ Fld Z h qa1 "com/example/foreground_courier/foregroundcourier/Failure" "body" "Ljava/lang/String;" (.ref qa3) ∧ Fld Z h qa1 "com/example/foreground_courier/foregroundcourier/Failure" "cause" "Ljava/lang/Throwable;" .null
set_option maxRecDepth 65536 in
set_option maxHeartbeats 40000000 in
theorem rm4 (l : Launch) (Z : State) (a0 : Array Value) (hw : ∀ d ∈ tables_1, d.before a0 Z = true) (ws : List Jvm.Cond) (g_HTTP_STATUS : Addr) (qa1 : Addr) (qi2 : Int32) (qa3 : Addr) (h0 : Heap) (n0 : Nat) (X00 : Old Z n0 h0) (hEN : OwnEN Z g_HTTP_STATUS) (E_qa1 : Exa Z h0 qa1 "com/example/foreground_courier/foregroundcourier/Failure") (F_qa1_kind : Fld Z h0 qa1 "com/example/foreground_courier/foregroundcourier/Failure" "kind" "Lcom/example/foreground_courier/foregroundcourier/Failure$Kind;" .null) (g_qa1 : n0 ≤ qa1) (F_qa1_statusCode : Fld Z h0 qa1 "com/example/foreground_courier/foregroundcourier/Failure" "statusCode" "I" (.int (0 : Int32))) (F_qa1_body : Fld Z h0 qa1 "com/example/foreground_courier/foregroundcourier/Failure" "body" "Ljava/lang/String;" .null) (F_qa1_cause : Fld Z h0 qa1 "com/example/foreground_courier/foregroundcourier/Failure" "cause" "Ljava/lang/Throwable;" .null) :
    MetFree l (⟨"com/example/foreground_courier/foregroundcourier/Failure", "<init>", "(Lcom/example/foreground_courier/foregroundcourier/Failure$Kind;ILjava/lang/String;Ljava/lang/Throwable;)V"⟩ : MethodName) (head1 (Jvm.Cond.code (⟨"com/example/foreground_courier/foregroundcourier/Failure", "<init>", "(Lcom/example/foreground_courier/foregroundcourier/Failure$Kind;ILjava/lang/String;Ljava/lang/Throwable;)V"⟩ : MethodName) prog_3_method_1_code 5 none :: ws) ({ frames := 1, cells := 0, slots := 0, locals := 12 } : Room)) (fun a U => a = #[(.ref qa1), (.ref g_HTTP_STATUS), (.int qi2), (.ref qa3), .null] ∧ Z.Warmed39 U.vm ∧ U.heap = h0) (fun _ _ _ _ _ => True) (fun _ U o U' => ∃ v L, o = .returned v ∧ Q4 Z g_HTTP_STATUS qa1 qi2 qa3 h0 n0 v U'.heap L ∧ FrameEnd U o U' L ({ frames := 1, cells := 0, slots := 0, locals := 12 } : Room).cells ({ frames := 1, cells := 0, slots := 0, locals := 12 } : Room).slots) := by
  refine MetFree.of_bodySF (plainFor_of_name pn2) hisR ?_
  intro p e s m args below meth c s₁ Bd hml0 hP hK
  obtain ⟨rfl, hZ, hh⟩ := hP
  have hx := Bd.exec
  have hby := Bd.bytes
  have hml : c.maxLocals = 5 := hml0
  have hown : s.vm.findClass "com/example/foreground_courier/foregroundcourier/Failure" = some m.cls := findClass_of_methodNamed Bd.named
  have hnm := (name_of_methodNamed Bd.named Bd.method).1
  have X0 : Stand p l e ({ frames := 1, cells := 0, slots := 0, locals := 12 } : Room) s m #[(.ref qa1), (.ref g_HTTP_STATUS), (.int qi2), (.ref qa3), .null] below meth c s₁ [] 0 0 := Stand.of_body Bd
  have e0 : s₁.heap = h0 := by rw [← hh, Bd.state]; rfl
  have N0 := Fr.nil n0
  have pre0 : ∀ t, Steps p.tables e below (s₁.setTop (mkF m 0 #[.val (.ref qa1), .val (.ref g_HTTP_STATUS), .val (.int qi2), .val (.ref qa3), .val .null] [])) t → Steps p.tables e below (s₁.setTop (entryFrame m #[(.ref qa1), (.ref g_HTTP_STATUS), (.int qi2), (.ref qa3), .null] 5)) t := fun t k => castTop (ef5 m qa1 g_HTTP_STATUS qi2 qa3) k
  obtain ⟨T1, X1, e1, st1⟩ := initO X0 hx hZ hown (hw _ (List.mem_of_getElem? (i := 46) rfl)) (hw _ (List.mem_of_getElem? (i := 16) rfl)) (hw _ (List.mem_of_getElem? (i := 17) rfl)) e0 (g := (mkF m 1 #[.val (.ref qa1), .val (.ref g_HTTP_STATUS), .val (.int qi2), .val (.ref qa3), .val .null] [(.ref qa1)])) rfl (by rw [hml]; rfl) rfl (hb hby d4_1) (by decide) (W := 0) (by show 2 * 0 + _ ≤ _; exact Nat.le_of_eq rfl) (by decide)
  obtain ⟨T2, h2, X2, e2, W2, st2⟩ := putF X1 hx hZ hown (host := "") (Or.inl (hw _ (List.mem_of_getElem? (i := 47) rfl))) Via.refl e1 F_qa1_kind E_qa1 (Or.inr ⟨(hw _ (List.mem_of_getElem? (i := 48) rfl)), rfl, hnm⟩) (hw _ (List.mem_of_getElem? (i := 39) rfl)) (ty := (.object "com/example/foreground_courier/foregroundcourier/Failure$Kind")) (by decide) rfl rfl (g := (mkF m 6 #[.val (.ref qa1), .val (.ref g_HTTP_STATUS), .val (.int qi2), .val (.ref qa3), .val .null] [(.ref g_HTTP_STATUS), (.ref qa1)])) rfl rfl (hb hby d4_6)
  have N2 := Fr.snoc X2 N0 g_qa1
  have K3 : Keep h0 h2 [qa1] := (Keep.refl h0 [qa1]).wr W2 (Or.inl (List.mem_of_getElem? (i := 0) rfl))
  have F4_ : Fld Z h2 qa1 "com/example/foreground_courier/foregroundcourier/Failure" "kind" "Lcom/example/foreground_courier/foregroundcourier/Failure$Kind;" (.ref g_HTTP_STATUS) := F_qa1_kind.same W2
  have F5_ : Fld Z h2 qa1 "com/example/foreground_courier/foregroundcourier/Failure" "statusCode" "I" (.int (0 : Int32)) := F_qa1_statusCode.other W2 (Or.inr (slot_ne (Or.inr (hw _ (List.mem_of_getElem? (i := 50) rfl))) (Or.inr (hw _ (List.mem_of_getElem? (i := 48) rfl))) (by decide) (t := .int) (t' := (.object "com/example/foreground_courier/foregroundcourier/Failure$Kind")) (by decide) (by decide)))
  have E6_ : Exa Z h2 qa1 "com/example/foreground_courier/foregroundcourier/Failure" := E_qa1.wr W2
  obtain ⟨T7, h7, X7, e7, W7, st7⟩ := putF X2 hx hZ hown (host := "") (Or.inl (hw _ (List.mem_of_getElem? (i := 49) rfl))) Via.refl e2 F5_ E6_ (Or.inr ⟨(hw _ (List.mem_of_getElem? (i := 50) rfl)), rfl, hnm⟩) (hw _ (List.mem_of_getElem? (i := 39) rfl)) (ty := .int) (by decide) rfl rfl (g := (mkF m 11 #[.val (.ref qa1), .val (.ref g_HTTP_STATUS), .val (.int qi2), .val (.ref qa3), .val .null] [(.int qi2), (.ref qa1)])) rfl rfl (hb hby d4_11)
  have N7 := Fr.snoc X7 N2 g_qa1
  have K8 : Keep h0 h7 [qa1] := K3.wr W7 (Or.inl (List.mem_of_getElem? (i := 0) rfl))
  have F9_ : Fld Z h7 qa1 "com/example/foreground_courier/foregroundcourier/Failure" "statusCode" "I" (.int qi2) := F5_.same W7
  have F10_ : Fld Z h2 qa1 "com/example/foreground_courier/foregroundcourier/Failure" "body" "Ljava/lang/String;" .null := F_qa1_body.other W2 (Or.inr (slot_ne (Or.inr (hw _ (List.mem_of_getElem? (i := 52) rfl))) (Or.inr (hw _ (List.mem_of_getElem? (i := 48) rfl))) (by decide) (t := (.object "java/lang/String")) (t' := (.object "com/example/foreground_courier/foregroundcourier/Failure$Kind")) (by decide) (by decide)))
  have F11_ : Fld Z h7 qa1 "com/example/foreground_courier/foregroundcourier/Failure" "body" "Ljava/lang/String;" .null := F10_.other W7 (Or.inr (slot_ne (Or.inr (hw _ (List.mem_of_getElem? (i := 52) rfl))) (Or.inr (hw _ (List.mem_of_getElem? (i := 50) rfl))) (by decide) (t := (.object "java/lang/String")) (t' := .int) (by decide) (by decide)))
  have E12_ : Exa Z h7 qa1 "com/example/foreground_courier/foregroundcourier/Failure" := E6_.wr W7
  obtain ⟨T13, h13, X13, e13, W13, st13⟩ := putF X7 hx hZ hown (host := "") (Or.inl (hw _ (List.mem_of_getElem? (i := 51) rfl))) Via.refl e7 F11_ E12_ (Or.inr ⟨(hw _ (List.mem_of_getElem? (i := 52) rfl)), rfl, hnm⟩) (hw _ (List.mem_of_getElem? (i := 39) rfl)) (ty := (.object "java/lang/String")) (by decide) rfl rfl (g := (mkF m 16 #[.val (.ref qa1), .val (.ref g_HTTP_STATUS), .val (.int qi2), .val (.ref qa3), .val .null] [(.ref qa3), (.ref qa1)])) rfl rfl (hb hby d4_16)
  have N13 := Fr.snoc X13 N7 g_qa1
  have K14 : Keep h0 h13 [qa1] := K8.wr W13 (Or.inl (List.mem_of_getElem? (i := 0) rfl))
  have F15_ : Fld Z h13 qa1 "com/example/foreground_courier/foregroundcourier/Failure" "body" "Ljava/lang/String;" (.ref qa3) := F11_.same W13
  have F16_ : Fld Z h2 qa1 "com/example/foreground_courier/foregroundcourier/Failure" "cause" "Ljava/lang/Throwable;" .null := F_qa1_cause.other W2 (Or.inr (slot_ne (Or.inr (hw _ (List.mem_of_getElem? (i := 54) rfl))) (Or.inr (hw _ (List.mem_of_getElem? (i := 48) rfl))) (by decide) (t := (.object "java/lang/Throwable")) (t' := (.object "com/example/foreground_courier/foregroundcourier/Failure$Kind")) (by decide) (by decide)))
  have F17_ : Fld Z h7 qa1 "com/example/foreground_courier/foregroundcourier/Failure" "cause" "Ljava/lang/Throwable;" .null := F16_.other W7 (Or.inr (slot_ne (Or.inr (hw _ (List.mem_of_getElem? (i := 54) rfl))) (Or.inr (hw _ (List.mem_of_getElem? (i := 50) rfl))) (by decide) (t := (.object "java/lang/Throwable")) (t' := .int) (by decide) (by decide)))
  have F18_ : Fld Z h13 qa1 "com/example/foreground_courier/foregroundcourier/Failure" "cause" "Ljava/lang/Throwable;" .null := F17_.other W13 (Or.inr (slot_ne (Or.inr (hw _ (List.mem_of_getElem? (i := 54) rfl))) (Or.inr (hw _ (List.mem_of_getElem? (i := 52) rfl))) (by decide) (t := (.object "java/lang/Throwable")) (t' := (.object "java/lang/String")) (by decide) (by decide)))
  have E19_ : Exa Z h13 qa1 "com/example/foreground_courier/foregroundcourier/Failure" := E12_.wr W13
  obtain ⟨T20, h20, X20, e20, W20, st20⟩ := putF X13 hx hZ hown (host := "") (Or.inl (hw _ (List.mem_of_getElem? (i := 53) rfl))) Via.refl e13 F18_ E19_ (Or.inr ⟨(hw _ (List.mem_of_getElem? (i := 54) rfl)), rfl, hnm⟩) (hw _ (List.mem_of_getElem? (i := 39) rfl)) (ty := (.object "java/lang/Throwable")) (by decide) rfl rfl (g := (mkF m 22 #[.val (.ref qa1), .val (.ref g_HTTP_STATUS), .val (.int qi2), .val (.ref qa3), .val .null] [.null, (.ref qa1)])) rfl rfl (hb hby d4_22)
  have N20 := Fr.snoc X20 N13 g_qa1
  have K21 : Keep h0 h20 [qa1] := K14.wr W20 (Or.inl (List.mem_of_getElem? (i := 0) rfl))
  have F22_ : Fld Z h20 qa1 "com/example/foreground_courier/foregroundcourier/Failure" "cause" "Ljava/lang/Throwable;" .null := F18_.same W20
  have E23_ : Exa Z h20 qa1 "com/example/foreground_courier/foregroundcourier/Failure" := E19_.wr W20
  have F24_ : Fld Z h7 qa1 "com/example/foreground_courier/foregroundcourier/Failure" "kind" "Lcom/example/foreground_courier/foregroundcourier/Failure$Kind;" (.ref g_HTTP_STATUS) := F4_.other W7 (Or.inr (slot_ne (Or.inr (hw _ (List.mem_of_getElem? (i := 48) rfl))) (Or.inr (hw _ (List.mem_of_getElem? (i := 50) rfl))) (by decide) (t := (.object "com/example/foreground_courier/foregroundcourier/Failure$Kind")) (t' := .int) (by decide) (by decide)))
  have F25_ : Fld Z h13 qa1 "com/example/foreground_courier/foregroundcourier/Failure" "kind" "Lcom/example/foreground_courier/foregroundcourier/Failure$Kind;" (.ref g_HTTP_STATUS) := F24_.other W13 (Or.inr (slot_ne (Or.inr (hw _ (List.mem_of_getElem? (i := 48) rfl))) (Or.inr (hw _ (List.mem_of_getElem? (i := 52) rfl))) (by decide) (t := (.object "com/example/foreground_courier/foregroundcourier/Failure$Kind")) (t' := (.object "java/lang/String")) (by decide) (by decide)))
  have F26_ : Fld Z h20 qa1 "com/example/foreground_courier/foregroundcourier/Failure" "kind" "Lcom/example/foreground_courier/foregroundcourier/Failure$Kind;" (.ref g_HTTP_STATUS) := F25_.other W20 (Or.inr (slot_ne (Or.inr (hw _ (List.mem_of_getElem? (i := 48) rfl))) (Or.inr (hw _ (List.mem_of_getElem? (i := 54) rfl))) (by decide) (t := (.object "com/example/foreground_courier/foregroundcourier/Failure$Kind")) (t' := (.object "java/lang/Throwable")) (by decide) (by decide)))
  have F27_ : Fld Z h13 qa1 "com/example/foreground_courier/foregroundcourier/Failure" "statusCode" "I" (.int qi2) := F9_.other W13 (Or.inr (slot_ne (Or.inr (hw _ (List.mem_of_getElem? (i := 50) rfl))) (Or.inr (hw _ (List.mem_of_getElem? (i := 52) rfl))) (by decide) (t := .int) (t' := (.object "java/lang/String")) (by decide) (by decide)))
  have F28_ : Fld Z h20 qa1 "com/example/foreground_courier/foregroundcourier/Failure" "statusCode" "I" (.int qi2) := F27_.other W20 (Or.inr (slot_ne (Or.inr (hw _ (List.mem_of_getElem? (i := 50) rfl))) (Or.inr (hw _ (List.mem_of_getElem? (i := 54) rfl))) (by decide) (t := .int) (t' := (.object "java/lang/Throwable")) (by decide) (by decide)))
  have F29_ : Fld Z h20 qa1 "com/example/foreground_courier/foregroundcourier/Failure" "body" "Ljava/lang/String;" (.ref qa3) := F15_.other W20 (Or.inr (slot_ne (Or.inr (hw _ (List.mem_of_getElem? (i := 52) rfl))) (Or.inr (hw _ (List.mem_of_getElem? (i := 54) rfl))) (by decide) (t := (.object "java/lang/String")) (t' := (.object "java/lang/Throwable")) (by decide) (by decide)))
  obtain ⟨fs, hr, hrun, hended, hW, hsame⟩ := X20.leave (v := none) (fun _ => rfl)
  refine ⟨_, _, pre0 _ ?_, hrun, hended, _, _, rfl, ?_, ⟨_, rfl⟩, hW, hsame.mono (by decide) (by decide)⟩
  · show Steps p.tables e below (s₁.setTop (mkF m 0 #[.val (.ref qa1), .val (.ref g_HTTP_STATUS), .val (.int qi2), .val (.ref qa3), .val .null] [])) _
    refine XS.aloadN X0.here hx rfl (hb hby d4_0) rfl rfl ?_
    show Steps p.tables e below (s₁.setTop (mkF m 1 #[.val (.ref qa1), .val (.ref g_HTTP_STATUS), .val (.int qi2), .val (.ref qa3), .val .null] [(.ref qa1)])) _
    refine st1 _ ?_
    show Steps p.tables e below (T1.setTop (mkF m 4 #[.val (.ref qa1), .val (.ref g_HTTP_STATUS), .val (.int qi2), .val (.ref qa3), .val .null] [])) _
    refine XS.aloadN X1.here hx rfl (hb hby d4_4) rfl rfl ?_
    show Steps p.tables e below (T1.setTop (mkF m 5 #[.val (.ref qa1), .val (.ref g_HTTP_STATUS), .val (.int qi2), .val (.ref qa3), .val .null] [(.ref qa1)])) _
    refine XS.aloadN X1.here hx rfl (hb hby d4_5) rfl rfl ?_
    show Steps p.tables e below (T1.setTop (mkF m 6 #[.val (.ref qa1), .val (.ref g_HTTP_STATUS), .val (.int qi2), .val (.ref qa3), .val .null] [(.ref g_HTTP_STATUS), (.ref qa1)])) _
    refine st2 _ ?_
    show Steps p.tables e below (T2.setTop (mkF m 9 #[.val (.ref qa1), .val (.ref g_HTTP_STATUS), .val (.int qi2), .val (.ref qa3), .val .null] [])) _
    refine XS.aloadN X2.here hx rfl (hb hby d4_9) rfl rfl ?_
    show Steps p.tables e below (T2.setTop (mkF m 10 #[.val (.ref qa1), .val (.ref g_HTTP_STATUS), .val (.int qi2), .val (.ref qa3), .val .null] [(.ref qa1)])) _
    refine XS.iloadN X2.here hx rfl (hb hby d4_10) rfl ?_
    show Steps p.tables e below (T2.setTop (mkF m 11 #[.val (.ref qa1), .val (.ref g_HTTP_STATUS), .val (.int qi2), .val (.ref qa3), .val .null] [(.int qi2), (.ref qa1)])) _
    refine st7 _ ?_
    show Steps p.tables e below (T7.setTop (mkF m 14 #[.val (.ref qa1), .val (.ref g_HTTP_STATUS), .val (.int qi2), .val (.ref qa3), .val .null] [])) _
    refine XS.aloadN X7.here hx rfl (hb hby d4_14) rfl rfl ?_
    show Steps p.tables e below (T7.setTop (mkF m 15 #[.val (.ref qa1), .val (.ref g_HTTP_STATUS), .val (.int qi2), .val (.ref qa3), .val .null] [(.ref qa1)])) _
    refine XS.aloadN X7.here hx rfl (hb hby d4_15) rfl rfl ?_
    show Steps p.tables e below (T7.setTop (mkF m 16 #[.val (.ref qa1), .val (.ref g_HTTP_STATUS), .val (.int qi2), .val (.ref qa3), .val .null] [(.ref qa3), (.ref qa1)])) _
    refine st13 _ ?_
    show Steps p.tables e below (T13.setTop (mkF m 19 #[.val (.ref qa1), .val (.ref g_HTTP_STATUS), .val (.int qi2), .val (.ref qa3), .val .null] [])) _
    refine XS.aloadN X13.here hx rfl (hb hby d4_19) rfl rfl ?_
    show Steps p.tables e below (T13.setTop (mkF m 20 #[.val (.ref qa1), .val (.ref g_HTTP_STATUS), .val (.int qi2), .val (.ref qa3), .val .null] [(.ref qa1)])) _
    refine XS.aload X13.here hx rfl (hb hby d4_20) rfl rfl ?_
    show Steps p.tables e below (T13.setTop (mkF m 22 #[.val (.ref qa1), .val (.ref g_HTTP_STATUS), .val (.int qi2), .val (.ref qa3), .val .null] [.null, (.ref qa1)])) _
    refine st20 _ ?_
    show Steps p.tables e below (T20.setTop (mkF m 25 #[.val (.ref qa1), .val (.ref g_HTTP_STATUS), .val (.int qi2), .val (.ref qa3), .val .null] [])) _
    exact X20.returnOut hx Bd.returns (hb hby d4_25) hr
  · show Q4 Z g_HTTP_STATUS qa1 qi2 qa3 h0 n0 _ T20.heap _
    rw [show T20.heap = h20 from e20]
    exact ⟨rfl, N20, K21, E23_, F26_, F28_, F29_, F22_⟩
theorem pd3 : parseMethodDescriptor "(Lcom/example/foreground_courier/foregroundcourier/Failure$Kind;ILjava/lang/String;Ljava/lang/Throwable;)V" = some ⟨[(.object "com/example/foreground_courier/foregroundcourier/Failure$Kind"), .int, (.object "java/lang/String"), (.object "java/lang/Throwable")], none⟩ := by decide +kernel
theorem d3_13 : decode prog_3_method_2_code 13 = .ok (.areturn, 1) := by decide +kernel
-- com/example/foreground_courier/foregroundcourier/Failure.httpStatus(ILjava/lang/String;)Lcom/example/foreground_courier/foregroundcourier/Failure;
def Q5 (Z : State) (g_HTTP_STATUS : Addr) (qi1 : Int32) (qa2 : Addr) (h0 : Heap) (n0 : Nat) (v : Option Value) (h : Heap) (L : List Loc) : Prop := ∃ b1 : Addr, v = some (.ref b1) ∧ Fr n0 L ∧ Keep h0 h [] ∧ h0.size ≤ b1 ∧ Exa Z h b1 "com/example/foreground_courier/foregroundcourier/Failure" ∧ Fld Z h b1 "com/example/foreground_courier/foregroundcourier/Failure" "kind" "Lcom/example/foreground_courier/foregroundcourier/Failure$Kind;" (.ref g_HTTP_STATUS) ∧ Fld Z h b1 "com/example/foreground_courier/foregroundcourier/Failure" "statusCode" "I" (.int qi1) ∧ Fld Z h b1 "com/example/foreground_courier/foregroundcourier/Failure" "body" "Ljava/lang/String;" (.ref qa2) ∧ Fld Z h b1 "com/example/foreground_courier/foregroundcourier/Failure" "cause" "Ljava/lang/Throwable;" .null
set_option maxRecDepth 65536 in
set_option maxHeartbeats 40000000 in
theorem rm5 (l : Launch) (Z : State) (a0 : Array Value) (hw : ∀ d ∈ tables_1, d.before a0 Z = true) (ws : List Jvm.Cond) (g_HTTP_STATUS : Addr) (qi1 : Int32) (qa2 : Addr) (h0 : Heap) (n0 : Nat) (X00 : Old Z n0 h0) (hEN : OwnEN Z g_HTTP_STATUS) :
    MetFree l (⟨"com/example/foreground_courier/foregroundcourier/Failure", "httpStatus", "(ILjava/lang/String;)Lcom/example/foreground_courier/foregroundcourier/Failure;"⟩ : MethodName) (head1 (Jvm.Cond.code (⟨"com/example/foreground_courier/foregroundcourier/Failure", "httpStatus", "(ILjava/lang/String;)Lcom/example/foreground_courier/foregroundcourier/Failure;"⟩ : MethodName) prog_3_method_2_code 2 (some (.object "com/example/foreground_courier/foregroundcourier/Failure")) :: ws) ({ frames := 2, cells := 1, slots := 4, locals := 29 } : Room)) (fun a U => a = #[(.int qi1), (.ref qa2)] ∧ Z.Warmed39 U.vm ∧ U.heap = h0) (fun _ _ _ _ _ => True) (fun _ U o U' => ∃ v L, o = .returned v ∧ Q5 Z g_HTTP_STATUS qi1 qa2 h0 n0 v U'.heap L ∧ FrameEnd U o U' L ({ frames := 2, cells := 1, slots := 4, locals := 29 } : Room).cells ({ frames := 2, cells := 1, slots := 4, locals := 29 } : Room).slots) := by
  refine MetFree.of_bodySF (plainFor_of_name pn2) hisR ?_
  intro p e s m args below meth c s₁ Bd hml0 hP hK
  obtain ⟨rfl, hZ, hh⟩ := hP
  have hx := Bd.exec
  have hby := Bd.bytes
  have hml : c.maxLocals = 2 := hml0
  have hown : s.vm.findClass "com/example/foreground_courier/foregroundcourier/Failure" = some m.cls := findClass_of_methodNamed Bd.named
  have hnm := (name_of_methodNamed Bd.named Bd.method).1
  have X0 : Stand p l e ({ frames := 2, cells := 1, slots := 4, locals := 29 } : Room) s m #[(.int qi1), (.ref qa2)] below meth c s₁ [] 0 0 := Stand.of_body Bd
  have e0 : s₁.heap = h0 := by rw [← hh, Bd.state]; rfl
  have N0 := Fr.nil n0
  have pre0 : ∀ t, Steps p.tables e below (s₁.setTop (mkF m 0 #[.val (.int qi1), .val (.ref qa2)] [])) t → Steps p.tables e below (s₁.setTop (entryFrame m #[(.int qi1), (.ref qa2)] 2)) t := fun t k => castTop (ef4 m qi1 qa2) k
  obtain ⟨T1, h1, X1, e1, E1, A1, D1, -, st1⟩ := newO X0 hx hZ hown (hw _ (List.mem_of_getElem? (i := 38) rfl)) (hw _ (List.mem_of_getElem? (i := 39) rfl)) (hw _ (List.mem_of_getElem? (i := 36) rfl)) e0 (g := (mkF m 0 #[.val (.int qi1), .val (.ref qa2)] [])) rfl (hb hby d3_0) (by decide) (by decide)
  obtain ⟨b1, g1⟩ : ∃ z, z = h0.size := ⟨_, rfl⟩
  rw [← g1] at A1 D1 st1
  have K2 : Keep h0 h1 [] := (Keep.refl h0 []).ext E1
  have F3_ : Fld Z h1 b1 "com/example/foreground_courier/foregroundcourier/Failure" "kind" "Lcom/example/foreground_courier/foregroundcourier/Failure$Kind;" .null := D1 (Or.inr (hw _ (List.mem_of_getElem? (i := 48) rfl))) (ty := (.object "com/example/foreground_courier/foregroundcourier/Failure$Kind")) (by decide)
  have F4_ : Fld Z h1 b1 "com/example/foreground_courier/foregroundcourier/Failure" "statusCode" "I" (.int (0 : Int32)) := D1 (Or.inr (hw _ (List.mem_of_getElem? (i := 50) rfl))) (ty := .int) (by decide)
  have F5_ : Fld Z h1 b1 "com/example/foreground_courier/foregroundcourier/Failure" "body" "Ljava/lang/String;" .null := D1 (Or.inr (hw _ (List.mem_of_getElem? (i := 52) rfl))) (ty := (.object "java/lang/String")) (by decide)
  have F6_ : Fld Z h1 b1 "com/example/foreground_courier/foregroundcourier/Failure" "cause" "Ljava/lang/Throwable;" .null := D1 (Or.inr (hw _ (List.mem_of_getElem? (i := 54) rfl))) (ty := (.object "java/lang/Throwable")) (by decide)
  have O8 : Old Z n0 h1 := X00.ext E1
  obtain ⟨T7, X7, e7, st7⟩ := getS2 X1 hx hZ hown (host := "") (Or.inl (hw _ (List.mem_of_getElem? (i := 40) rfl))) Via.refl e1 (hEN.1.ext O8.2) (g := (mkF m 4 #[.val (.int qi1), .val (.ref qa2)] [(.ref b1), (.ref b1)])) rfl (hb hby d3_4)
  have g_b1 : n0 ≤ b1 := Nat.le_trans (Nat.le_trans (Nat.le_of_eq X00.1.symm) X00.2.1) (Nat.le_of_eq g1.symm)
  obtain ⟨_, _, ⟨T9, L9, k9, n9⟩, -, X9, ⟨Lc9, hQ9, l9, y9, z9⟩, st9⟩ := X7.specialBack hx (y := (⟨"com/example/foreground_courier/foregroundcourier/Failure", "<init>", "(Lcom/example/foreground_courier/foregroundcourier/Failure$Kind;ILjava/lang/String;Ljava/lang/Throwable;)V"⟩ : MethodName)) rfl hown (mvT hZ (hw _ (List.mem_of_getElem? (i := 43) rfl))) (mvT hZ (hw _ (List.mem_of_getElem? (i := 44) rfl))) (mvT hZ (hw _ (List.mem_of_getElem? (i := 45) rfl))) (by decide) (backOf (W := 1) (rm4 l Z a0 hw [] g_HTTP_STATUS b1 qi1 qa2 h1 n0 O8 hEN A1 F3_ g_b1 F4_ F5_ F6_) hZ (hw _ (List.mem_of_getElem? (i := 45) rfl)) (hw _ (List.mem_of_getElem? (i := 36) rfl)) (by decide) (by decide)) (g := (mkF m 10 #[.val (.int qi1), .val (.ref qa2)] [.null, (.ref qa2), (.int qi1), (.ref g_HTTP_STATUS), (.ref b1), (.ref b1)])) rfl (by rw [hml]; rfl) (Steps.refl _) (a := b1) (argsL := [(.ref g_HTTP_STATUS), (.int qi1), (.ref qa2), .null]) (rest := [(.ref b1)]) (lenOf pd3 rfl) rfl (by show 2 * 0 + _ ≤ _; exact Nat.le_of_eq rfl) (hb hby d3_10) (fun _ _ => ⟨rfl, e7, (by decide : 1 + 0 ≤ _), (by decide : 4 + 0 ≤ _)⟩)
  dsimp only [Pt.U, Pt.locs, Pt.cells, Pt.slots] at X9 l9 y9 z9 st9 hQ9
  subst l9 y9 z9
  obtain ⟨rfl, N9q, K9q, w10, w11, w12, w13, w14⟩ := hQ9
  have N9 := Fr.app N0 N9q
  have sz_b1 : h0.size ≤ b1 := (Nat.le_of_eq g1.symm)
  have K15 : Keep h0 T9.heap [] := K2.trans K9q (allS (Or.inr sz_b1) all0)
  have E16_ : Exa Z T9.heap b1 "com/example/foreground_courier/foregroundcourier/Failure" := A1.keep K9q
  obtain ⟨fs, hr, hrun, hended, hW, hsame⟩ := X9.leave (v := (some (.ref b1))) (fun h => by rw [Bd.returns] at h; cases h)
  refine ⟨_, _, pre0 _ ?_, hrun, hended, _, _, rfl, ?_, ⟨_, rfl⟩, hW, hsame.mono (by decide) (by decide)⟩
  · show Steps p.tables e below (s₁.setTop (mkF m 0 #[.val (.int qi1), .val (.ref qa2)] [])) _
    refine st1 _ ?_
    show Steps p.tables e below (T1.setTop (mkF m 3 #[.val (.int qi1), .val (.ref qa2)] [(.ref b1)])) _
    refine XS.dup X1.here hx rfl (hb hby d3_3) rfl rfl ?_
    show Steps p.tables e below (T1.setTop (mkF m 4 #[.val (.int qi1), .val (.ref qa2)] [(.ref b1), (.ref b1)])) _
    refine st7 _ ?_
    show Steps p.tables e below (T7.setTop (mkF m 7 #[.val (.int qi1), .val (.ref qa2)] [(.ref g_HTTP_STATUS), (.ref b1), (.ref b1)])) _
    refine XS.iloadN X7.here hx rfl (hb hby d3_7) rfl ?_
    show Steps p.tables e below (T7.setTop (mkF m 8 #[.val (.int qi1), .val (.ref qa2)] [(.int qi1), (.ref g_HTTP_STATUS), (.ref b1), (.ref b1)])) _
    refine XS.aloadN X7.here hx rfl (hb hby d3_8) rfl rfl ?_
    show Steps p.tables e below (T7.setTop (mkF m 9 #[.val (.int qi1), .val (.ref qa2)] [(.ref qa2), (.int qi1), (.ref g_HTTP_STATUS), (.ref b1), (.ref b1)])) _
    refine XS.aconstNull X7.here hx rfl (hb hby d3_9) ?_
    show Steps p.tables e below (T7.setTop (mkF m 10 #[.val (.int qi1), .val (.ref qa2)] [.null, (.ref qa2), (.int qi1), (.ref g_HTTP_STATUS), (.ref b1), (.ref b1)])) _
    refine st9.trans ?_
    show Steps p.tables e below (T9.setTop (mkF m 13 #[.val (.int qi1), .val (.ref qa2)] [(.ref b1)])) _
    exact retOut X9 hx Bd.returns rfl (Or.inr (Or.inr (Or.inr (Or.inr ⟨rfl, rfl, rfl⟩)))) (hb hby d3_13) hr
  · show Q5 Z g_HTTP_STATUS qi1 qa2 h0 n0 _ T9.heap _
    exact ⟨b1, rfl, N9, K15, sz_b1, E16_, w11, w12, w13, w14⟩
theorem pd4 : parseMethodDescriptor "(ILjava/lang/String;)Lcom/example/foreground_courier/foregroundcourier/Failure;" = some ⟨[.int, (.object "java/lang/String")], some (.object "com/example/foreground_courier/foregroundcourier/Failure")⟩ := by decide +kernel
theorem ef6 (m : MethodId) (x0 : Addr) : entryFrame m #[(.ref x0)] 1 = mkF m 0 #[.val (.ref x0)] [] := by first | (simp [entryFrame, mkF, argsToLocals, Value.category]; done) | rfl
theorem d5_0 : decode prog_3_method_6_code 0 = .ok (.aload_n 0, 1) := by decide +kernel
theorem d5_1 : decode prog_3_method_6_code 1 = .ok (.getfield 17, 3) := by decide +kernel
theorem d5_4 : decode prog_3_method_6_code 4 = .ok (.areturn, 1) := by decide +kernel
-- com/example/foreground_courier/foregroundcourier/Failure.body()Ljava/lang/String;
def Q6 (Z : State) (qa1 : Addr) (qa2 : Addr) (h0 : Heap) (n0 : Nat) (v : Option Value) (h : Heap) (L : List Loc) : Prop := v = some (.ref qa2) ∧ Fr n0 L ∧ h = h0
set_option maxRecDepth 65536 in
set_option maxHeartbeats 40000000 in
theorem rm6 (l : Launch) (Z : State) (a0 : Array Value) (hw : ∀ d ∈ tables_1, d.before a0 Z = true) (ws : List Jvm.Cond) (qa1 : Addr) (qa2 : Addr) (h0 : Heap) (n0 : Nat) (X00 : Old Z n0 h0) (F_qa1_body : Fld Z h0 qa1 "com/example/foreground_courier/foregroundcourier/Failure" "body" "Ljava/lang/String;" (.ref qa2)) :
    MetFree l (⟨"com/example/foreground_courier/foregroundcourier/Failure", "body", "()Ljava/lang/String;"⟩ : MethodName) (head1 (Jvm.Cond.code (⟨"com/example/foreground_courier/foregroundcourier/Failure", "body", "()Ljava/lang/String;"⟩ : MethodName) prog_3_method_6_code 1 (some (.object "java/lang/String")) :: ws) ({ frames := 0, cells := 0, slots := 0, locals := 0 } : Room)) (fun a U => a = #[(.ref qa1)] ∧ Z.Warmed39 U.vm ∧ U.heap = h0) (fun _ _ _ _ _ => True) (fun _ U o U' => ∃ v L, o = .returned v ∧ Q6 Z qa1 qa2 h0 n0 v U'.heap L ∧ FrameEnd U o U' L ({ frames := 0, cells := 0, slots := 0, locals := 0 } : Room).cells ({ frames := 0, cells := 0, slots := 0, locals := 0 } : Room).slots) := by
  refine MetFree.of_bodySF (plainFor_of_name pn2) hisR ?_
  intro p e s m args below meth c s₁ Bd hml0 hP hK
  obtain ⟨rfl, hZ, hh⟩ := hP
  have hx := Bd.exec
  have hby := Bd.bytes
  have hml : c.maxLocals = 1 := hml0
  have hown : s.vm.findClass "com/example/foreground_courier/foregroundcourier/Failure" = some m.cls := findClass_of_methodNamed Bd.named
  have hnm := (name_of_methodNamed Bd.named Bd.method).1
  have X0 : Stand p l e ({ frames := 0, cells := 0, slots := 0, locals := 0 } : Room) s m #[(.ref qa1)] below meth c s₁ [] 0 0 := Stand.of_body Bd
  have e0 : s₁.heap = h0 := by rw [← hh, Bd.state]; rfl
  have N0 := Fr.nil n0
  have pre0 : ∀ t, Steps p.tables e below (s₁.setTop (mkF m 0 #[.val (.ref qa1)] [])) t → Steps p.tables e below (s₁.setTop (entryFrame m #[(.ref qa1)] 1)) t := fun t k => castTop (ef6 m qa1) k
  obtain ⟨T1, X1, e1, st1⟩ := getF X0 hx hZ hown (host := "") (Or.inl (hw _ (List.mem_of_getElem? (i := 51) rfl))) Via.refl e0 F_qa1_body (g := (mkF m 1 #[.val (.ref qa1)] [(.ref qa1)])) rfl rfl (hb hby d5_1)
  obtain ⟨fs, hr, hrun, hended, hW, hsame⟩ := X1.leave (v := (some (.ref qa2))) (fun h => by rw [Bd.returns] at h; cases h)
  refine ⟨_, _, pre0 _ ?_, hrun, hended, _, _, rfl, ?_, ⟨_, rfl⟩, hW, hsame.mono (by decide) (by decide)⟩
  · show Steps p.tables e below (s₁.setTop (mkF m 0 #[.val (.ref qa1)] [])) _
    refine XS.aloadN X0.here hx rfl (hb hby d5_0) rfl rfl ?_
    show Steps p.tables e below (s₁.setTop (mkF m 1 #[.val (.ref qa1)] [(.ref qa1)])) _
    refine st1 _ ?_
    show Steps p.tables e below (T1.setTop (mkF m 4 #[.val (.ref qa1)] [(.ref qa2)])) _
    exact retOut X1 hx Bd.returns rfl (Or.inr (Or.inr (Or.inr (Or.inr ⟨rfl, rfl, rfl⟩)))) (hb hby d5_4) hr
  · show Q6 Z qa1 qa2 h0 n0 _ T1.heap _
    rw [show T1.heap = h0 from e1]
    exact ⟨rfl, N0, rfl⟩
theorem pd5 : parseMethodDescriptor "()Ljava/lang/String;" = some ⟨[], some (.object "java/lang/String")⟩ := by decide +kernel
theorem d6_0 : decode prog_3_method_4_code 0 = .ok (.aload_n 0, 1) := by decide +kernel
theorem d6_1 : decode prog_3_method_4_code 1 = .ok (.getfield 7, 3) := by decide +kernel
theorem d6_4 : decode prog_3_method_4_code 4 = .ok (.areturn, 1) := by decide +kernel
-- com/example/foreground_courier/foregroundcourier/Failure.kind()Lcom/example/foreground_courier/foregroundcourier/Failure$Kind;
def Q7 (Z : State) (g_HTTP_STATUS : Addr) (qa1 : Addr) (h0 : Heap) (n0 : Nat) (v : Option Value) (h : Heap) (L : List Loc) : Prop := v = some (.ref g_HTTP_STATUS) ∧ Fr n0 L ∧ h = h0
set_option maxRecDepth 65536 in
set_option maxHeartbeats 40000000 in
theorem rm7 (l : Launch) (Z : State) (a0 : Array Value) (hw : ∀ d ∈ tables_1, d.before a0 Z = true) (ws : List Jvm.Cond) (g_HTTP_STATUS : Addr) (qa1 : Addr) (h0 : Heap) (n0 : Nat) (X00 : Old Z n0 h0) (hEN : OwnEN Z g_HTTP_STATUS) (F_qa1_kind : Fld Z h0 qa1 "com/example/foreground_courier/foregroundcourier/Failure" "kind" "Lcom/example/foreground_courier/foregroundcourier/Failure$Kind;" (.ref g_HTTP_STATUS)) :
    MetFree l (⟨"com/example/foreground_courier/foregroundcourier/Failure", "kind", "()Lcom/example/foreground_courier/foregroundcourier/Failure$Kind;"⟩ : MethodName) (head1 (Jvm.Cond.code (⟨"com/example/foreground_courier/foregroundcourier/Failure", "kind", "()Lcom/example/foreground_courier/foregroundcourier/Failure$Kind;"⟩ : MethodName) prog_3_method_4_code 1 (some (.object "com/example/foreground_courier/foregroundcourier/Failure$Kind")) :: ws) ({ frames := 0, cells := 0, slots := 0, locals := 0 } : Room)) (fun a U => a = #[(.ref qa1)] ∧ Z.Warmed39 U.vm ∧ U.heap = h0) (fun _ _ _ _ _ => True) (fun _ U o U' => ∃ v L, o = .returned v ∧ Q7 Z g_HTTP_STATUS qa1 h0 n0 v U'.heap L ∧ FrameEnd U o U' L ({ frames := 0, cells := 0, slots := 0, locals := 0 } : Room).cells ({ frames := 0, cells := 0, slots := 0, locals := 0 } : Room).slots) := by
  refine MetFree.of_bodySF (plainFor_of_name pn2) hisR ?_
  intro p e s m args below meth c s₁ Bd hml0 hP hK
  obtain ⟨rfl, hZ, hh⟩ := hP
  have hx := Bd.exec
  have hby := Bd.bytes
  have hml : c.maxLocals = 1 := hml0
  have hown : s.vm.findClass "com/example/foreground_courier/foregroundcourier/Failure" = some m.cls := findClass_of_methodNamed Bd.named
  have hnm := (name_of_methodNamed Bd.named Bd.method).1
  have X0 : Stand p l e ({ frames := 0, cells := 0, slots := 0, locals := 0 } : Room) s m #[(.ref qa1)] below meth c s₁ [] 0 0 := Stand.of_body Bd
  have e0 : s₁.heap = h0 := by rw [← hh, Bd.state]; rfl
  have N0 := Fr.nil n0
  have pre0 : ∀ t, Steps p.tables e below (s₁.setTop (mkF m 0 #[.val (.ref qa1)] [])) t → Steps p.tables e below (s₁.setTop (entryFrame m #[(.ref qa1)] 1)) t := fun t k => castTop (ef6 m qa1) k
  obtain ⟨T1, X1, e1, st1⟩ := getF X0 hx hZ hown (host := "") (Or.inl (hw _ (List.mem_of_getElem? (i := 47) rfl))) Via.refl e0 F_qa1_kind (g := (mkF m 1 #[.val (.ref qa1)] [(.ref qa1)])) rfl rfl (hb hby d6_1)
  obtain ⟨fs, hr, hrun, hended, hW, hsame⟩ := X1.leave (v := (some (.ref g_HTTP_STATUS))) (fun h => by rw [Bd.returns] at h; cases h)
  refine ⟨_, _, pre0 _ ?_, hrun, hended, _, _, rfl, ?_, ⟨_, rfl⟩, hW, hsame.mono (by decide) (by decide)⟩
  · show Steps p.tables e below (s₁.setTop (mkF m 0 #[.val (.ref qa1)] [])) _
    refine XS.aloadN X0.here hx rfl (hb hby d6_0) rfl rfl ?_
    show Steps p.tables e below (s₁.setTop (mkF m 1 #[.val (.ref qa1)] [(.ref qa1)])) _
    refine st1 _ ?_
    show Steps p.tables e below (T1.setTop (mkF m 4 #[.val (.ref qa1)] [(.ref g_HTTP_STATUS)])) _
    exact retOut X1 hx Bd.returns rfl (Or.inr (Or.inr (Or.inr (Or.inr ⟨rfl, rfl, rfl⟩)))) (hb hby d6_4) hr
  · show Q7 Z g_HTTP_STATUS qa1 h0 n0 _ T1.heap _
    rw [show T1.heap = h0 from e1]
    exact ⟨rfl, N0, rfl⟩
theorem pd6 : parseMethodDescriptor "()Lcom/example/foreground_courier/foregroundcourier/Failure$Kind;" = some ⟨[], some (.object "com/example/foreground_courier/foregroundcourier/Failure$Kind")⟩ := by decide +kernel
theorem d7_0 : decode prog_3_method_5_code 0 = .ok (.aload_n 0, 1) := by decide +kernel
theorem d7_1 : decode prog_3_method_5_code 1 = .ok (.getfield 13, 3) := by decide +kernel
theorem d7_4 : decode prog_3_method_5_code 4 = .ok (.ireturn, 1) := by decide +kernel
-- com/example/foreground_courier/foregroundcourier/Failure.statusCode()I
def Q8 (Z : State) (qa1 : Addr) (qi2 : Int32) (h0 : Heap) (n0 : Nat) (v : Option Value) (h : Heap) (L : List Loc) : Prop := v = some (.int qi2) ∧ Fr n0 L ∧ h = h0
set_option maxRecDepth 65536 in
set_option maxHeartbeats 40000000 in
theorem rm8 (l : Launch) (Z : State) (a0 : Array Value) (hw : ∀ d ∈ tables_1, d.before a0 Z = true) (ws : List Jvm.Cond) (qa1 : Addr) (qi2 : Int32) (h0 : Heap) (n0 : Nat) (X00 : Old Z n0 h0) (F_qa1_statusCode : Fld Z h0 qa1 "com/example/foreground_courier/foregroundcourier/Failure" "statusCode" "I" (.int qi2)) :
    MetFree l (⟨"com/example/foreground_courier/foregroundcourier/Failure", "statusCode", "()I"⟩ : MethodName) (head1 (Jvm.Cond.code (⟨"com/example/foreground_courier/foregroundcourier/Failure", "statusCode", "()I"⟩ : MethodName) prog_3_method_5_code 1 (some .int) :: ws) ({ frames := 0, cells := 0, slots := 0, locals := 0 } : Room)) (fun a U => a = #[(.ref qa1)] ∧ Z.Warmed39 U.vm ∧ U.heap = h0) (fun _ _ _ _ _ => True) (fun _ U o U' => ∃ v L, o = .returned v ∧ Q8 Z qa1 qi2 h0 n0 v U'.heap L ∧ FrameEnd U o U' L ({ frames := 0, cells := 0, slots := 0, locals := 0 } : Room).cells ({ frames := 0, cells := 0, slots := 0, locals := 0 } : Room).slots) := by
  refine MetFree.of_bodySF (plainFor_of_name pn2) hisR ?_
  intro p e s m args below meth c s₁ Bd hml0 hP hK
  obtain ⟨rfl, hZ, hh⟩ := hP
  have hx := Bd.exec
  have hby := Bd.bytes
  have hml : c.maxLocals = 1 := hml0
  have hown : s.vm.findClass "com/example/foreground_courier/foregroundcourier/Failure" = some m.cls := findClass_of_methodNamed Bd.named
  have hnm := (name_of_methodNamed Bd.named Bd.method).1
  have X0 : Stand p l e ({ frames := 0, cells := 0, slots := 0, locals := 0 } : Room) s m #[(.ref qa1)] below meth c s₁ [] 0 0 := Stand.of_body Bd
  have e0 : s₁.heap = h0 := by rw [← hh, Bd.state]; rfl
  have N0 := Fr.nil n0
  have pre0 : ∀ t, Steps p.tables e below (s₁.setTop (mkF m 0 #[.val (.ref qa1)] [])) t → Steps p.tables e below (s₁.setTop (entryFrame m #[(.ref qa1)] 1)) t := fun t k => castTop (ef6 m qa1) k
  obtain ⟨T1, X1, e1, st1⟩ := getF X0 hx hZ hown (host := "") (Or.inl (hw _ (List.mem_of_getElem? (i := 49) rfl))) Via.refl e0 F_qa1_statusCode (g := (mkF m 1 #[.val (.ref qa1)] [(.ref qa1)])) rfl rfl (hb hby d7_1)
  obtain ⟨fs, hr, hrun, hended, hW, hsame⟩ := X1.leave (v := (some (.int qi2))) (fun h => by rw [Bd.returns] at h; cases h)
  refine ⟨_, _, pre0 _ ?_, hrun, hended, _, _, rfl, ?_, ⟨_, rfl⟩, hW, hsame.mono (by decide) (by decide)⟩
  · show Steps p.tables e below (s₁.setTop (mkF m 0 #[.val (.ref qa1)] [])) _
    refine XS.aloadN X0.here hx rfl (hb hby d7_0) rfl rfl ?_
    show Steps p.tables e below (s₁.setTop (mkF m 1 #[.val (.ref qa1)] [(.ref qa1)])) _
    refine st1 _ ?_
    show Steps p.tables e below (T1.setTop (mkF m 4 #[.val (.ref qa1)] [(.int qi2)])) _
    exact retI X1 hx Bd.returns (hb hby d7_4) hr
  · show Q8 Z qa1 qi2 h0 n0 _ T1.heap _
    rw [show T1.heap = h0 from e1]
    exact ⟨rfl, N0, rfl⟩
theorem pd7 : parseMethodDescriptor "()I" = some ⟨[], some .int⟩ := by decide +kernel
theorem ef7 (m : MethodId) (x0 : Addr) (x1 : Addr) : entryFrame m #[(.ref x0), (.ref x1)] 3 = mkF m 0 #[.val (.ref x0), .val (.ref x1), .unset] [] := by first | (simp [entryFrame, mkF, argsToLocals, Value.category]; done) | rfl
theorem d8_0 : decode jdk_42_method_66_code 0 = .ok (.aload_n 0, 1) := by decide +kernel
theorem d8_1 : decode jdk_42_method_66_code 1 = .ok (.aload_n 1, 1) := by decide +kernel
theorem d8_2 : decode jdk_42_method_66_code 2 = .ok (.if_acmp .ne 5, 3) := by decide +kernel
theorem d8_5 : decode jdk_42_method_66_code 5 = .ok (.iconst 1, 1) := by decide +kernel
theorem d8_6 : decode jdk_42_method_66_code 6 = .ok (.ireturn, 1) := by decide +kernel
-- java/lang/String.equals(Ljava/lang/Object;)Z
def Q9 (Z : State) (qa1 : Addr) (h0 : Heap) (n0 : Nat) (v : Option Value) (h : Heap) (L : List Loc) : Prop := v = some (.int (1 : Int32)) ∧ Fr n0 L ∧ h = h0
set_option maxRecDepth 65536 in
set_option maxHeartbeats 40000000 in
theorem rm9 (l : Launch) (Z : State) (a0 : Array Value) (hw : ∀ d ∈ tables_1, d.before a0 Z = true) (ws : List Jvm.Cond) (qa1 : Addr) (h0 : Heap) (n0 : Nat) (X00 : Old Z n0 h0)  :
    MetFree l (⟨"java/lang/String", "equals", "(Ljava/lang/Object;)Z"⟩ : MethodName) (head1 (Jvm.Cond.code (⟨"java/lang/String", "equals", "(Ljava/lang/Object;)Z"⟩ : MethodName) jdk_42_method_66_code 3 (some .boolean) :: ws) ({ frames := 0, cells := 0, slots := 0, locals := 0 } : Room)) (fun a U => a = #[(.ref qa1), (.ref qa1)] ∧ Z.Warmed39 U.vm ∧ U.heap = h0) (fun _ _ _ _ _ => True) (fun _ U o U' => ∃ v L, o = .returned v ∧ Q9 Z qa1 h0 n0 v U'.heap L ∧ FrameEnd U o U' L ({ frames := 0, cells := 0, slots := 0, locals := 0 } : Room).cells ({ frames := 0, cells := 0, slots := 0, locals := 0 } : Room).slots) := by
  refine MetFree.of_bodySF (plainFor_of_name pn1) hisR ?_
  intro p e s m args below meth c s₁ Bd hml0 hP hK
  obtain ⟨rfl, hZ, hh⟩ := hP
  have hx := Bd.exec
  have hby := Bd.bytes
  have hml : c.maxLocals = 3 := hml0
  have hown : s.vm.findClass "java/lang/String" = some m.cls := findClass_of_methodNamed Bd.named
  have hnm := (name_of_methodNamed Bd.named Bd.method).1
  have X0 : Stand p l e ({ frames := 0, cells := 0, slots := 0, locals := 0 } : Room) s m #[(.ref qa1), (.ref qa1)] below meth c s₁ [] 0 0 := Stand.of_body Bd
  have e0 : s₁.heap = h0 := by rw [← hh, Bd.state]; rfl
  have N0 := Fr.nil n0
  have pre0 : ∀ t, Steps p.tables e below (s₁.setTop (mkF m 0 #[.val (.ref qa1), .val (.ref qa1), .unset] [])) t → Steps p.tables e below (s₁.setTop (entryFrame m #[(.ref qa1), (.ref qa1)] 3)) t := fun t k => castTop (ef7 m qa1 qa1) k
  obtain ⟨fs, hr, hrun, hended, hW, hsame⟩ := X0.leave (v := (some (.int (1 : Int32)))) (fun h => by rw [Bd.returns] at h; cases h)
  refine ⟨_, _, pre0 _ ?_, hrun, hended, _, _, rfl, ?_, ⟨_, rfl⟩, hW, hsame.mono (by decide) (by decide)⟩
  · show Steps p.tables e below (s₁.setTop (mkF m 0 #[.val (.ref qa1), .val (.ref qa1), .unset] [])) _
    refine XS.aloadN X0.here hx rfl (hb hby d8_0) rfl rfl ?_
    show Steps p.tables e below (s₁.setTop (mkF m 1 #[.val (.ref qa1), .val (.ref qa1), .unset] [(.ref qa1)])) _
    refine XS.aloadN X0.here hx rfl (hb hby d8_1) rfl rfl ?_
    show Steps p.tables e below (s₁.setTop (mkF m 2 #[.val (.ref qa1), .val (.ref qa1), .unset] [(.ref qa1), (.ref qa1)])) _
    refine Jvm.RoadKit.acmp (g := (mkF m 2 #[.val (.ref qa1), .val (.ref qa1), .unset] [(.ref qa1), (.ref qa1)])) X0 hx rfl rfl rfl (pc0 := 2) (pc' := 5) (same := true) rfl (hb hby d8_2) rfl (decide_eq_true rfl) (by decide) (by decide) ?_
    show Steps p.tables e below (s₁.setTop (mkF m 5 #[.val (.ref qa1), .val (.ref qa1), .unset] [])) _
    refine XS.iconst X0.here hx rfl (hb hby d8_5) ?_
    show Steps p.tables e below (s₁.setTop (mkF m 6 #[.val (.ref qa1), .val (.ref qa1), .unset] [(.int (1 : Int32))])) _
    exact retN X0 hx (t := .boolean) Bd.returns (by simp) (hb hby d8_6) hr
  · show Q9 Z qa1 h0 n0 _ s₁.heap _
    rw [show s₁.heap = h0 from e0]
    exact ⟨rfl, N0, rfl⟩
theorem pd8 : parseMethodDescriptor "(Ljava/lang/Object;)Z" = some ⟨[(.object "java/lang/Object")], some .boolean⟩ := by decide +kernel
theorem d9_0 : decode prog_3_method_7_code 0 = .ok (.aload_n 0, 1) := by decide +kernel
theorem d9_1 : decode prog_3_method_7_code 1 = .ok (.getfield 21, 3) := by decide +kernel
theorem d9_4 : decode prog_3_method_7_code 4 = .ok (.areturn, 1) := by decide +kernel
-- com/example/foreground_courier/foregroundcourier/Failure.cause()Ljava/lang/Throwable;
def Q10 (Z : State) (qa1 : Addr) (h0 : Heap) (n0 : Nat) (v : Option Value) (h : Heap) (L : List Loc) : Prop := v = some .null ∧ Fr n0 L ∧ h = h0
set_option maxRecDepth 65536 in
set_option maxHeartbeats 40000000 in
theorem rm10 (l : Launch) (Z : State) (a0 : Array Value) (hw : ∀ d ∈ tables_1, d.before a0 Z = true) (ws : List Jvm.Cond) (qa1 : Addr) (h0 : Heap) (n0 : Nat) (X00 : Old Z n0 h0) (F_qa1_cause : Fld Z h0 qa1 "com/example/foreground_courier/foregroundcourier/Failure" "cause" "Ljava/lang/Throwable;" .null) :
    MetFree l (⟨"com/example/foreground_courier/foregroundcourier/Failure", "cause", "()Ljava/lang/Throwable;"⟩ : MethodName) (head1 (Jvm.Cond.code (⟨"com/example/foreground_courier/foregroundcourier/Failure", "cause", "()Ljava/lang/Throwable;"⟩ : MethodName) prog_3_method_7_code 1 (some (.object "java/lang/Throwable")) :: ws) ({ frames := 0, cells := 0, slots := 0, locals := 0 } : Room)) (fun a U => a = #[(.ref qa1)] ∧ Z.Warmed39 U.vm ∧ U.heap = h0) (fun _ _ _ _ _ => True) (fun _ U o U' => ∃ v L, o = .returned v ∧ Q10 Z qa1 h0 n0 v U'.heap L ∧ FrameEnd U o U' L ({ frames := 0, cells := 0, slots := 0, locals := 0 } : Room).cells ({ frames := 0, cells := 0, slots := 0, locals := 0 } : Room).slots) := by
  refine MetFree.of_bodySF (plainFor_of_name pn2) hisR ?_
  intro p e s m args below meth c s₁ Bd hml0 hP hK
  obtain ⟨rfl, hZ, hh⟩ := hP
  have hx := Bd.exec
  have hby := Bd.bytes
  have hml : c.maxLocals = 1 := hml0
  have hown : s.vm.findClass "com/example/foreground_courier/foregroundcourier/Failure" = some m.cls := findClass_of_methodNamed Bd.named
  have hnm := (name_of_methodNamed Bd.named Bd.method).1
  have X0 : Stand p l e ({ frames := 0, cells := 0, slots := 0, locals := 0 } : Room) s m #[(.ref qa1)] below meth c s₁ [] 0 0 := Stand.of_body Bd
  have e0 : s₁.heap = h0 := by rw [← hh, Bd.state]; rfl
  have N0 := Fr.nil n0
  have pre0 : ∀ t, Steps p.tables e below (s₁.setTop (mkF m 0 #[.val (.ref qa1)] [])) t → Steps p.tables e below (s₁.setTop (entryFrame m #[(.ref qa1)] 1)) t := fun t k => castTop (ef6 m qa1) k
  obtain ⟨T1, X1, e1, st1⟩ := getF X0 hx hZ hown (host := "") (Or.inl (hw _ (List.mem_of_getElem? (i := 53) rfl))) Via.refl e0 F_qa1_cause (g := (mkF m 1 #[.val (.ref qa1)] [(.ref qa1)])) rfl rfl (hb hby d9_1)
  obtain ⟨fs, hr, hrun, hended, hW, hsame⟩ := X1.leave (v := (some .null)) (fun h => by rw [Bd.returns] at h; cases h)
  refine ⟨_, _, pre0 _ ?_, hrun, hended, _, _, rfl, ?_, ⟨_, rfl⟩, hW, hsame.mono (by decide) (by decide)⟩
  · show Steps p.tables e below (s₁.setTop (mkF m 0 #[.val (.ref qa1)] [])) _
    refine XS.aloadN X0.here hx rfl (hb hby d9_0) rfl rfl ?_
    show Steps p.tables e below (s₁.setTop (mkF m 1 #[.val (.ref qa1)] [(.ref qa1)])) _
    refine st1 _ ?_
    show Steps p.tables e below (T1.setTop (mkF m 4 #[.val (.ref qa1)] [.null])) _
    exact retOut X1 hx Bd.returns rfl (Or.inr (Or.inr (Or.inr (Or.inr ⟨rfl, rfl, rfl⟩)))) (hb hby d9_4) hr
  · show Q10 Z qa1 h0 n0 _ T1.heap _
    rw [show T1.heap = h0 from e1]
    exact ⟨rfl, N0, rfl⟩
theorem pd9 : parseMethodDescriptor "()Ljava/lang/Throwable;" = some ⟨[], some (.object "java/lang/Throwable")⟩ := by decide +kernel
theorem d0_43 : decode method_3_code 43 = .ok (.iload_n 1, 1) := by decide +kernel
theorem d0_44 : decode method_3_code 44 = .ok (.iconst 1, 1) := by decide +kernel
theorem d0_45 : decode method_3_code 45 = .ok (.if_icmp .ne 18, 3) := by decide +kernel
theorem d0_48 : decode method_3_code 48 = .ok (.new 38, 3) := by decide +kernel
theorem d0_51 : decode method_3_code 51 = .ok (.dup, 1) := by decide +kernel
theorem d0_52 : decode method_3_code 52 = .ok (.iconst 1, 1) := by decide +kernel
theorem d0_53 : decode method_3_code 53 = .ok (.newarray .char, 2) := by decide +kernel
theorem d0_55 : decode method_3_code 55 = .ok (.dup, 1) := by decide +kernel
theorem d0_56 : decode method_3_code 56 = .ok (.iconst 0, 1) := by decide +kernel
theorem d0_57 : decode method_3_code 57 = .ok (.iload_n 2, 1) := by decide +kernel
theorem d0_58 : decode method_3_code 58 = .ok (.castore, 1) := by decide +kernel
theorem d0_59 : decode method_3_code 59 = .ok (.invokespecial 50, 3) := by decide +kernel
theorem d0_62 : decode method_3_code 62 = .ok (.areturn, 1) := by decide +kernel
-- com/example/foreground_courier/foregroundcourier/FailureHttpStatusPinLaw.makeBody(II)Ljava/lang/String;
def Q11 (Z : State) (G1 : Int32) (qi1 : Int32) (qi2 : Int32) (h0 : Heap) (n0 : Nat) (v : Option Value) (h : Heap) (L : List Loc) : Prop := ∃ b3 : Addr, ∃ b25 : Addr, ∃ c25_ : ClassId, v = some (.ref b3) ∧ Fr n0 L ∧ Keep h0 h [] ∧ h0.size ≤ b3 ∧ h0.size ≤ b25 ∧ b3 ≠ b25 ∧ Exa Z h b3 "java/lang/String" ∧ Fld Z h b3 "java/lang/String" "coder" "B" (.int (0 : Int32)) ∧ Fld Z h b3 "java/lang/String" "value" "[B" (.ref b25) ∧ Arv Z h b25 c25_ .byte (1 : Int32) ((([(((qi1 &&& (255 : Int32))).toUInt32.toUInt16.toUInt32.toInt32)] : List Int32).map (fun c => c.toInt8.toInt32)).map Value.int) (.int 0)
set_option maxRecDepth 65536 in
set_option maxHeartbeats 40000000 in
theorem rm11 (l : Launch) (Z : State) (a0 : Array Value) (hw : ∀ d ∈ tables_1, d.before a0 Z = true) (ws : List Jvm.Cond) (G1 : Int32) (qi1 : Int32) (qi2 : Int32) (h0 : Heap) (n0 : Nat) (X00 : Old Z n0 h0) (O2 : Sta Z Z.heap "java/lang/String" "COMPACT_STRINGS" "Z" (.int G1)) (P5 : ¬ (G1 = (0 : Int32))) (hc1 : ¬ (qi2 = (0 : Int32))) (hc2 : qi2 = (1 : Int32)) :
    MetFree l (⟨"com/example/foreground_courier/foregroundcourier/FailureHttpStatusPinLaw", "makeBody", "(II)Ljava/lang/String;"⟩ : MethodName) (head1 (Jvm.Cond.code (⟨"com/example/foreground_courier/foregroundcourier/FailureHttpStatusPinLaw", "makeBody", "(II)Ljava/lang/String;"⟩ : MethodName) method_3_code 5 (some (.object "java/lang/String")) :: ws) ({ frames := 4, cells := 3, slots := 6, locals := 66 } : Room)) (fun a U => a = #[(.int qi1), (.int qi2)] ∧ Z.Warmed39 U.vm ∧ U.heap = h0) (fun _ _ _ _ _ => True) (fun _ U o U' => ∃ v L, o = .returned v ∧ Q11 Z G1 qi1 qi2 h0 n0 v U'.heap L ∧ FrameEnd U o U' L ({ frames := 4, cells := 3, slots := 6, locals := 66 } : Room).cells ({ frames := 4, cells := 3, slots := 6, locals := 66 } : Room).slots) := by
  refine MetFree.of_bodySF (plainFor_of_name pn0) hisR ?_
  intro p e s m args below meth c s₁ Bd hml0 hP hK
  obtain ⟨rfl, hZ, hh⟩ := hP
  have hx := Bd.exec
  have hby := Bd.bytes
  have hml : c.maxLocals = 5 := hml0
  have hown : s.vm.findClass "com/example/foreground_courier/foregroundcourier/FailureHttpStatusPinLaw" = some m.cls := findClass_of_methodNamed Bd.named
  have hnm := (name_of_methodNamed Bd.named Bd.method).1
  have X0 : Stand p l e ({ frames := 4, cells := 3, slots := 6, locals := 66 } : Room) s m #[(.int qi1), (.int qi2)] below meth c s₁ [] 0 0 := Stand.of_body Bd
  have e0 : s₁.heap = h0 := by rw [← hh, Bd.state]; rfl
  have N0 := Fr.nil n0
  have pre0 : ∀ t, Steps p.tables e below (s₁.setTop (mkF m 0 #[.val (.int qi1), .val (.int qi2), .unset, .unset, .unset] [])) t → Steps p.tables e below (s₁.setTop (entryFrame m #[(.int qi1), (.int qi2)] 5)) t := fun t k => castTop (ef1 m qi1 qi2) k
  obtain ⟨T3, h3, X3, e3, E3, A3, D3, -, st3⟩ := newO X0 hx hZ hown (hw _ (List.mem_of_getElem? (i := 4) rfl)) (hw _ (List.mem_of_getElem? (i := 5) rfl)) (hw _ (List.mem_of_getElem? (i := 6) rfl)) e0 (g := (mkF m 48 #[.val (.int qi1), .val (.int qi2), .val (.int (((qi1 &&& (255 : Int32))).toUInt32.toUInt16.toUInt32.toInt32)), .val (.int ((((((qi1).toUInt32 >>> ((8 : Int32) &&& 31).toUInt32).toInt32) &&& (255 : Int32))).toUInt32.toUInt16.toUInt32.toInt32)), .val (.int ((((((qi1).toUInt32 >>> ((16 : Int32) &&& 31).toUInt32).toInt32) &&& (255 : Int32))).toUInt32.toUInt16.toUInt32.toInt32))] [])) rfl (hb hby d0_48) (by decide) (by decide)
  obtain ⟨b3, g3⟩ : ∃ z, z = h0.size := ⟨_, rfl⟩
  rw [← g3] at A3 D3 st3
  have K4 : Keep h0 h3 [] := (Keep.refl h0 []).ext E3
  have F5_ : Fld Z h3 b3 "java/lang/String" "coder" "B" (.int (0 : Int32)) := D3 (Or.inr (hw _ (List.mem_of_getElem? (i := 31) rfl))) (ty := .byte) (by decide)
  have F6_ : Fld Z h3 b3 "java/lang/String" "value" "[B" .null := D3 (Or.inr (hw _ (List.mem_of_getElem? (i := 33) rfl))) (ty := (.array .byte)) (by decide)
  obtain ⟨T7, h7, c7, X7, e7, E7, A7, st7⟩ := newP X3 hx hZ (hw _ (List.mem_of_getElem? (i := 7) rfl)) e3 (g := (mkF m 53 #[.val (.int qi1), .val (.int qi2), .val (.int (((qi1 &&& (255 : Int32))).toUInt32.toUInt16.toUInt32.toInt32)), .val (.int ((((((qi1).toUInt32 >>> ((8 : Int32) &&& 31).toUInt32).toInt32) &&& (255 : Int32))).toUInt32.toUInt16.toUInt32.toInt32)), .val (.int ((((((qi1).toUInt32 >>> ((16 : Int32) &&& 31).toUInt32).toInt32) &&& (255 : Int32))).toUInt32.toUInt16.toUInt32.toInt32))] [(.int (1 : Int32)), (.ref b3), (.ref b3)])) rfl (hb hby d0_53) rfl (by decide) (cap := 1) (by decide) (by decide) (by decide) (by decide)
  obtain ⟨b7, g7⟩ : ∃ z, z = h3.size := ⟨_, rfl⟩
  rw [← g7] at A7 st7
  have K8 : Keep h0 h7 [] := K4.ext E7
  have A9_ : Arv Z h7 b7 c7 .char (1 : Int32) [(.int (0 : Int32))] (.int (0 : Int32)) := (Arv.new A7 (by decide)).pad (pad_rep [] (.int (0 : Int32)) 1)
  have av10 := A9_
  obtain ⟨cl10, Ar10, q10, S10, N10, H10, G10⟩ := av10
  have hin11 : ¬ ((0 : Int32) < 0 ∨ cl10.slots.size ≤ ((0 : Int32) : Int32).toNatClampNeg) := inb_of S10 (by decide)
  obtain ⟨T11, h11, X11, e11, W11, st11⟩ := stC X7 hx hZ e7 Ar10 (j := (0 : Int32)) hin11 (g := (mkF m 58 #[.val (.int qi1), .val (.int qi2), .val (.int (((qi1 &&& (255 : Int32))).toUInt32.toUInt16.toUInt32.toInt32)), .val (.int ((((((qi1).toUInt32 >>> ((8 : Int32) &&& 31).toUInt32).toInt32) &&& (255 : Int32))).toUInt32.toUInt16.toUInt32.toInt32)), .val (.int ((((((qi1).toUInt32 >>> ((16 : Int32) &&& 31).toUInt32).toInt32) &&& (255 : Int32))).toUInt32.toUInt16.toUInt32.toInt32))] [(.int (((qi1 &&& (255 : Int32))).toUInt32.toUInt16.toUInt32.toInt32)), (.int (0 : Int32)), (.ref b7), (.ref b7), (.ref b3), (.ref b3)])) rfl rfl (hb hby d0_58)
  have O12 : Old Z n0 h3 := X00.ext E3
  have g_b7 : n0 ≤ b7 := Nat.le_trans (Nat.le_trans (Nat.le_of_eq O12.1.symm) O12.2.1) (Nat.le_of_eq g7.symm)
  have N11_ := Fr.snoc X11 N0 g_b7
  have sz_b7 : h0.size ≤ b7 := Nat.le_trans K4.1 (Nat.le_of_eq g7.symm)
  have K13 : Keep h0 h11 [] := K8.wr W11 (Or.inr sz_b7)
  have A14_ : Arv Z h11 b7 c7 .char (1 : Int32) [(.int (((qi1 &&& (255 : Int32))).toUInt32.toUInt16.toUInt32.toInt32))] (.int (0 : Int32)) := by have q := Arv.set (v := .int (nar .char (((qi1 &&& (255 : Int32))).toUInt32.toUInt16.toUInt32.toInt32))) Ar10 q10 S10 N10 H10 G10 (fits_nar_char _) W11 0 (by decide) (Nat.le_of_ble_eq_true rfl); rw [((own_nar_i2c _) : nar .char (((qi1 &&& (255 : Int32))).toUInt32.toUInt16.toUInt32.toInt32) = (((qi1 &&& (255 : Int32))).toUInt32.toUInt16.toUInt32.toInt32))] at q; exact q
  have hp16 : ∀ c ∈ ([(((qi1 &&& (255 : Int32))).toUInt32.toUInt16.toUInt32.toInt32)] : List Int32), ¬ c < 0 ∧ ¬ (255 : Int32) < c := (List.forall_mem_cons.mpr ⟨(own_lat qi1), (fun _ q => nomatch q)⟩)
  have g_b3 : n0 ≤ b3 := Nat.le_trans (Nat.le_trans (Nat.le_of_eq X00.1.symm) X00.2.1) (Nat.le_of_eq g3.symm)
  have O17 : Old Z n0 h7 := O12.ext E7
  have O18 : Old Z n0 h11 := O17.wr W11 g_b7
  have E19_ : Exa Z h7 b3 "java/lang/String" := A3.ext E7
  have E20_ : Exa Z h11 b3 "java/lang/String" := E19_.wr W11
  have F21_ : Fld Z h7 b3 "java/lang/String" "value" "[B" .null := F6_.ext E7
  have F22_ : Fld Z h11 b3 "java/lang/String" "value" "[B" .null := F21_.other W11 (Or.inl (Nat.ne_of_lt (Nat.lt_of_lt_of_le A3.lt (Nat.le_of_eq g7.symm))))
  have F23_ : Fld Z h7 b3 "java/lang/String" "coder" "B" (.int (0 : Int32)) := F5_.ext E7
  have F24_ : Fld Z h11 b3 "java/lang/String" "coder" "B" (.int (0 : Int32)) := F23_.other W11 (Or.inl (Nat.ne_of_lt (Nat.lt_of_lt_of_le A3.lt (Nat.le_of_eq g7.symm))))
  obtain ⟨_, _, ⟨T15, L15, k15, n15⟩, -, X15, ⟨Lc15, hQ15, l15, y15, z15⟩, st15⟩ := X11.specialBack hx (y := (⟨"java/lang/String", "<init>", "([C)V"⟩ : MethodName)) rfl hown (mvT hZ (hw _ (List.mem_of_getElem? (i := 8) rfl))) (mvT hZ (hw _ (List.mem_of_getElem? (i := 9) rfl))) (mvT hZ (hw _ (List.mem_of_getElem? (i := 10) rfl))) (by decide) (StrChars.Road.backV (W := 1) hZ (own_ws hw) (kI := 4) (hw _ (List.mem_of_getElem? (i := 5) rfl)) (cs := ([(((qi1 &&& (255 : Int32))).toUInt32.toUInt16.toUInt32.toInt32)] : List Int32)) (bs := ([(((qi1 &&& (255 : Int32))).toUInt32.toUInt16.toUInt32.toInt32)] : List Int32).map (fun c => c.toInt8.toInt32)) (n := 1) g_b3 (Nat.le_trans (Nat.le_of_eq O18.1.symm) O18.2.1) E20_ F22_ F24_ A14_ (O2.ext O18.2) P5 rfl rfl (by decide) (by decide) hp16 rfl (by decide) (by decide)) (g := (mkF m 59 #[.val (.int qi1), .val (.int qi2), .val (.int (((qi1 &&& (255 : Int32))).toUInt32.toUInt16.toUInt32.toInt32)), .val (.int ((((((qi1).toUInt32 >>> ((8 : Int32) &&& 31).toUInt32).toInt32) &&& (255 : Int32))).toUInt32.toUInt16.toUInt32.toInt32)), .val (.int ((((((qi1).toUInt32 >>> ((16 : Int32) &&& 31).toUInt32).toInt32) &&& (255 : Int32))).toUInt32.toUInt16.toUInt32.toInt32))] [(.ref b7), (.ref b3), (.ref b3)])) rfl (by rw [hml]; rfl) (Steps.refl _) (a := b3) (argsL := [(.ref b7)]) (rest := [(.ref b3)]) (lenOf pd1 rfl) rfl (by show 2 * 0 + _ ≤ _; exact Nat.le_of_eq rfl) (hb hby d0_59) (fun _ _ => ⟨rfl, e11, (by decide : 2 + 1 ≤ _), (by decide : 5 + 1 ≤ _)⟩)
  dsimp only [Pt.U, Pt.locs, Pt.cells, Pt.slots] at X15 l15 y15 z15 st15 hQ15
  subst l15 y15 z15
  obtain ⟨rfl, N15q, K15q, E15q, C15q, b25, c25_, u25, g25, ne25, V25_, A25_⟩ := hQ15
  have N15 := Fr.app N11_ N15q
  have sz_b3 : h0.size ≤ b3 := (Nat.le_of_eq g3.symm)
  have K26 : Keep h0 T15.heap [] := K13.trans K15q (allS (Or.inr sz_b3) all0)
  have sz_b25 : h0.size ≤ b25 := Nat.le_trans K13.1 g25
  have E27_ : Exa Z T15.heap b3 "java/lang/String" := E20_.keep K15q
  obtain ⟨fs, hr, hrun, hended, hW, hsame⟩ := X15.leave (v := (some (.ref b3))) (fun h => by rw [Bd.returns] at h; cases h)
  refine ⟨_, _, pre0 _ ?_, hrun, hended, _, _, rfl, ?_, ⟨_, rfl⟩, hW, hsame.mono (by decide) (by decide)⟩
  · show Steps p.tables e below (s₁.setTop (mkF m 0 #[.val (.int qi1), .val (.int qi2), .unset, .unset, .unset] [])) _
    refine XS.iloadN X0.here hx rfl (hb hby d0_0) rfl ?_
    show Steps p.tables e below (s₁.setTop (mkF m 1 #[.val (.int qi1), .val (.int qi2), .unset, .unset, .unset] [(.int qi1)])) _
    refine XS.sipush X0.here hx rfl (hb hby d0_1) ?_
    show Steps p.tables e below (s₁.setTop (mkF m 4 #[.val (.int qi1), .val (.int qi2), .unset, .unset, .unset] [(.int (255 : Int32)), (.int qi1)])) _
    refine XS.iand X0.here hx rfl (hb hby d0_4) rfl ?_
    show Steps p.tables e below (s₁.setTop (mkF m 5 #[.val (.int qi1), .val (.int qi2), .unset, .unset, .unset] [(.int (qi1 &&& (255 : Int32)))])) _
    refine XS.i2c X0.here hx rfl (hb hby d0_5) rfl ?_
    show Steps p.tables e below (s₁.setTop (mkF m 6 #[.val (.int qi1), .val (.int qi2), .unset, .unset, .unset] [(.int (((qi1 &&& (255 : Int32))).toUInt32.toUInt16.toUInt32.toInt32))])) _
    refine XS.istoreN X0.here hx rfl (hb hby d0_6) rfl (l' := #[.val (.int qi1), .val (.int qi2), .val (.int (((qi1 &&& (255 : Int32))).toUInt32.toUInt16.toUInt32.toInt32)), .unset, .unset]) rfl ?_
    show Steps p.tables e below (s₁.setTop (mkF m 7 #[.val (.int qi1), .val (.int qi2), .val (.int (((qi1 &&& (255 : Int32))).toUInt32.toUInt16.toUInt32.toInt32)), .unset, .unset] [])) _
    refine XS.iloadN X0.here hx rfl (hb hby d0_7) rfl ?_
    show Steps p.tables e below (s₁.setTop (mkF m 8 #[.val (.int qi1), .val (.int qi2), .val (.int (((qi1 &&& (255 : Int32))).toUInt32.toUInt16.toUInt32.toInt32)), .unset, .unset] [(.int qi1)])) _
    refine XS.bipush X0.here hx rfl (hb hby d0_8) ?_
    show Steps p.tables e below (s₁.setTop (mkF m 10 #[.val (.int qi1), .val (.int qi2), .val (.int (((qi1 &&& (255 : Int32))).toUInt32.toUInt16.toUInt32.toInt32)), .unset, .unset] [(.int (8 : Int32)), (.int qi1)])) _
    refine XS.iushr X0.here hx rfl (hb hby d0_10) rfl ?_
    show Steps p.tables e below (s₁.setTop (mkF m 11 #[.val (.int qi1), .val (.int qi2), .val (.int (((qi1 &&& (255 : Int32))).toUInt32.toUInt16.toUInt32.toInt32)), .unset, .unset] [(.int (((qi1).toUInt32 >>> ((8 : Int32) &&& 31).toUInt32).toInt32))])) _
    refine XS.sipush X0.here hx rfl (hb hby d0_11) ?_
    show Steps p.tables e below (s₁.setTop (mkF m 14 #[.val (.int qi1), .val (.int qi2), .val (.int (((qi1 &&& (255 : Int32))).toUInt32.toUInt16.toUInt32.toInt32)), .unset, .unset] [(.int (255 : Int32)), (.int (((qi1).toUInt32 >>> ((8 : Int32) &&& 31).toUInt32).toInt32))])) _
    refine XS.iand X0.here hx rfl (hb hby d0_14) rfl ?_
    show Steps p.tables e below (s₁.setTop (mkF m 15 #[.val (.int qi1), .val (.int qi2), .val (.int (((qi1 &&& (255 : Int32))).toUInt32.toUInt16.toUInt32.toInt32)), .unset, .unset] [(.int ((((qi1).toUInt32 >>> ((8 : Int32) &&& 31).toUInt32).toInt32) &&& (255 : Int32)))])) _
    refine XS.i2c X0.here hx rfl (hb hby d0_15) rfl ?_
    show Steps p.tables e below (s₁.setTop (mkF m 16 #[.val (.int qi1), .val (.int qi2), .val (.int (((qi1 &&& (255 : Int32))).toUInt32.toUInt16.toUInt32.toInt32)), .unset, .unset] [(.int ((((((qi1).toUInt32 >>> ((8 : Int32) &&& 31).toUInt32).toInt32) &&& (255 : Int32))).toUInt32.toUInt16.toUInt32.toInt32))])) _
    refine XS.istoreN X0.here hx rfl (hb hby d0_16) rfl (l' := #[.val (.int qi1), .val (.int qi2), .val (.int (((qi1 &&& (255 : Int32))).toUInt32.toUInt16.toUInt32.toInt32)), .val (.int ((((((qi1).toUInt32 >>> ((8 : Int32) &&& 31).toUInt32).toInt32) &&& (255 : Int32))).toUInt32.toUInt16.toUInt32.toInt32)), .unset]) rfl ?_
    show Steps p.tables e below (s₁.setTop (mkF m 17 #[.val (.int qi1), .val (.int qi2), .val (.int (((qi1 &&& (255 : Int32))).toUInt32.toUInt16.toUInt32.toInt32)), .val (.int ((((((qi1).toUInt32 >>> ((8 : Int32) &&& 31).toUInt32).toInt32) &&& (255 : Int32))).toUInt32.toUInt16.toUInt32.toInt32)), .unset] [])) _
    refine XS.iloadN X0.here hx rfl (hb hby d0_17) rfl ?_
    show Steps p.tables e below (s₁.setTop (mkF m 18 #[.val (.int qi1), .val (.int qi2), .val (.int (((qi1 &&& (255 : Int32))).toUInt32.toUInt16.toUInt32.toInt32)), .val (.int ((((((qi1).toUInt32 >>> ((8 : Int32) &&& 31).toUInt32).toInt32) &&& (255 : Int32))).toUInt32.toUInt16.toUInt32.toInt32)), .unset] [(.int qi1)])) _
    refine XS.bipush X0.here hx rfl (hb hby d0_18) ?_
    show Steps p.tables e below (s₁.setTop (mkF m 20 #[.val (.int qi1), .val (.int qi2), .val (.int (((qi1 &&& (255 : Int32))).toUInt32.toUInt16.toUInt32.toInt32)), .val (.int ((((((qi1).toUInt32 >>> ((8 : Int32) &&& 31).toUInt32).toInt32) &&& (255 : Int32))).toUInt32.toUInt16.toUInt32.toInt32)), .unset] [(.int (16 : Int32)), (.int qi1)])) _
    refine XS.iushr X0.here hx rfl (hb hby d0_20) rfl ?_
    show Steps p.tables e below (s₁.setTop (mkF m 21 #[.val (.int qi1), .val (.int qi2), .val (.int (((qi1 &&& (255 : Int32))).toUInt32.toUInt16.toUInt32.toInt32)), .val (.int ((((((qi1).toUInt32 >>> ((8 : Int32) &&& 31).toUInt32).toInt32) &&& (255 : Int32))).toUInt32.toUInt16.toUInt32.toInt32)), .unset] [(.int (((qi1).toUInt32 >>> ((16 : Int32) &&& 31).toUInt32).toInt32))])) _
    refine XS.sipush X0.here hx rfl (hb hby d0_21) ?_
    show Steps p.tables e below (s₁.setTop (mkF m 24 #[.val (.int qi1), .val (.int qi2), .val (.int (((qi1 &&& (255 : Int32))).toUInt32.toUInt16.toUInt32.toInt32)), .val (.int ((((((qi1).toUInt32 >>> ((8 : Int32) &&& 31).toUInt32).toInt32) &&& (255 : Int32))).toUInt32.toUInt16.toUInt32.toInt32)), .unset] [(.int (255 : Int32)), (.int (((qi1).toUInt32 >>> ((16 : Int32) &&& 31).toUInt32).toInt32))])) _
    refine XS.iand X0.here hx rfl (hb hby d0_24) rfl ?_
    show Steps p.tables e below (s₁.setTop (mkF m 25 #[.val (.int qi1), .val (.int qi2), .val (.int (((qi1 &&& (255 : Int32))).toUInt32.toUInt16.toUInt32.toInt32)), .val (.int ((((((qi1).toUInt32 >>> ((8 : Int32) &&& 31).toUInt32).toInt32) &&& (255 : Int32))).toUInt32.toUInt16.toUInt32.toInt32)), .unset] [(.int ((((qi1).toUInt32 >>> ((16 : Int32) &&& 31).toUInt32).toInt32) &&& (255 : Int32)))])) _
    refine XS.i2c X0.here hx rfl (hb hby d0_25) rfl ?_
    show Steps p.tables e below (s₁.setTop (mkF m 26 #[.val (.int qi1), .val (.int qi2), .val (.int (((qi1 &&& (255 : Int32))).toUInt32.toUInt16.toUInt32.toInt32)), .val (.int ((((((qi1).toUInt32 >>> ((8 : Int32) &&& 31).toUInt32).toInt32) &&& (255 : Int32))).toUInt32.toUInt16.toUInt32.toInt32)), .unset] [(.int ((((((qi1).toUInt32 >>> ((16 : Int32) &&& 31).toUInt32).toInt32) &&& (255 : Int32))).toUInt32.toUInt16.toUInt32.toInt32))])) _
    refine XS.istore X0.here hx rfl (hb hby d0_26) rfl (l' := #[.val (.int qi1), .val (.int qi2), .val (.int (((qi1 &&& (255 : Int32))).toUInt32.toUInt16.toUInt32.toInt32)), .val (.int ((((((qi1).toUInt32 >>> ((8 : Int32) &&& 31).toUInt32).toInt32) &&& (255 : Int32))).toUInt32.toUInt16.toUInt32.toInt32)), .val (.int ((((((qi1).toUInt32 >>> ((16 : Int32) &&& 31).toUInt32).toInt32) &&& (255 : Int32))).toUInt32.toUInt16.toUInt32.toInt32))]) rfl ?_
    show Steps p.tables e below (s₁.setTop (mkF m 28 #[.val (.int qi1), .val (.int qi2), .val (.int (((qi1 &&& (255 : Int32))).toUInt32.toUInt16.toUInt32.toInt32)), .val (.int ((((((qi1).toUInt32 >>> ((8 : Int32) &&& 31).toUInt32).toInt32) &&& (255 : Int32))).toUInt32.toUInt16.toUInt32.toInt32)), .val (.int ((((((qi1).toUInt32 >>> ((16 : Int32) &&& 31).toUInt32).toInt32) &&& (255 : Int32))).toUInt32.toUInt16.toUInt32.toInt32))] [])) _
    refine XS.iloadN X0.here hx rfl (hb hby d0_28) rfl ?_
    show Steps p.tables e below (s₁.setTop (mkF m 29 #[.val (.int qi1), .val (.int qi2), .val (.int (((qi1 &&& (255 : Int32))).toUInt32.toUInt16.toUInt32.toInt32)), .val (.int ((((((qi1).toUInt32 >>> ((8 : Int32) &&& 31).toUInt32).toInt32) &&& (255 : Int32))).toUInt32.toUInt16.toUInt32.toInt32)), .val (.int ((((((qi1).toUInt32 >>> ((16 : Int32) &&& 31).toUInt32).toInt32) &&& (255 : Int32))).toUInt32.toUInt16.toUInt32.toInt32))] [(.int qi2)])) _
    refine XS.ifYes X0.here hx rfl (pc0 := 29) (pc' := 43) rfl (hb hby d0_29) rfl (XT.i0_ne_t (hc1 : ¬ (qi2 = (0 : Int32)))) (by decide) (by decide) ?_
    show Steps p.tables e below (s₁.setTop (mkF m 43 #[.val (.int qi1), .val (.int qi2), .val (.int (((qi1 &&& (255 : Int32))).toUInt32.toUInt16.toUInt32.toInt32)), .val (.int ((((((qi1).toUInt32 >>> ((8 : Int32) &&& 31).toUInt32).toInt32) &&& (255 : Int32))).toUInt32.toUInt16.toUInt32.toInt32)), .val (.int ((((((qi1).toUInt32 >>> ((16 : Int32) &&& 31).toUInt32).toInt32) &&& (255 : Int32))).toUInt32.toUInt16.toUInt32.toInt32))] [])) _
    refine XS.iloadN X0.here hx rfl (hb hby d0_43) rfl ?_
    show Steps p.tables e below (s₁.setTop (mkF m 44 #[.val (.int qi1), .val (.int qi2), .val (.int (((qi1 &&& (255 : Int32))).toUInt32.toUInt16.toUInt32.toInt32)), .val (.int ((((((qi1).toUInt32 >>> ((8 : Int32) &&& 31).toUInt32).toInt32) &&& (255 : Int32))).toUInt32.toUInt16.toUInt32.toInt32)), .val (.int ((((((qi1).toUInt32 >>> ((16 : Int32) &&& 31).toUInt32).toInt32) &&& (255 : Int32))).toUInt32.toUInt16.toUInt32.toInt32))] [(.int qi2)])) _
    refine XS.iconst X0.here hx rfl (hb hby d0_44) ?_
    show Steps p.tables e below (s₁.setTop (mkF m 45 #[.val (.int qi1), .val (.int qi2), .val (.int (((qi1 &&& (255 : Int32))).toUInt32.toUInt16.toUInt32.toInt32)), .val (.int ((((((qi1).toUInt32 >>> ((8 : Int32) &&& 31).toUInt32).toInt32) &&& (255 : Int32))).toUInt32.toUInt16.toUInt32.toInt32)), .val (.int ((((((qi1).toUInt32 >>> ((16 : Int32) &&& 31).toUInt32).toInt32) &&& (255 : Int32))).toUInt32.toUInt16.toUInt32.toInt32))] [(.int (1 : Int32)), (.int qi2)])) _
    refine XS.icmpNo X0.here hx rfl (hb hby d0_45) rfl (XT.ii_ne_f (hc2 : qi2 = (1 : Int32))) ?_
    show Steps p.tables e below (s₁.setTop (mkF m 48 #[.val (.int qi1), .val (.int qi2), .val (.int (((qi1 &&& (255 : Int32))).toUInt32.toUInt16.toUInt32.toInt32)), .val (.int ((((((qi1).toUInt32 >>> ((8 : Int32) &&& 31).toUInt32).toInt32) &&& (255 : Int32))).toUInt32.toUInt16.toUInt32.toInt32)), .val (.int ((((((qi1).toUInt32 >>> ((16 : Int32) &&& 31).toUInt32).toInt32) &&& (255 : Int32))).toUInt32.toUInt16.toUInt32.toInt32))] [])) _
    refine st3 _ ?_
    show Steps p.tables e below (T3.setTop (mkF m 51 #[.val (.int qi1), .val (.int qi2), .val (.int (((qi1 &&& (255 : Int32))).toUInt32.toUInt16.toUInt32.toInt32)), .val (.int ((((((qi1).toUInt32 >>> ((8 : Int32) &&& 31).toUInt32).toInt32) &&& (255 : Int32))).toUInt32.toUInt16.toUInt32.toInt32)), .val (.int ((((((qi1).toUInt32 >>> ((16 : Int32) &&& 31).toUInt32).toInt32) &&& (255 : Int32))).toUInt32.toUInt16.toUInt32.toInt32))] [(.ref b3)])) _
    refine XS.dup X3.here hx rfl (hb hby d0_51) rfl rfl ?_
    show Steps p.tables e below (T3.setTop (mkF m 52 #[.val (.int qi1), .val (.int qi2), .val (.int (((qi1 &&& (255 : Int32))).toUInt32.toUInt16.toUInt32.toInt32)), .val (.int ((((((qi1).toUInt32 >>> ((8 : Int32) &&& 31).toUInt32).toInt32) &&& (255 : Int32))).toUInt32.toUInt16.toUInt32.toInt32)), .val (.int ((((((qi1).toUInt32 >>> ((16 : Int32) &&& 31).toUInt32).toInt32) &&& (255 : Int32))).toUInt32.toUInt16.toUInt32.toInt32))] [(.ref b3), (.ref b3)])) _
    refine XS.iconst X3.here hx rfl (hb hby d0_52) ?_
    show Steps p.tables e below (T3.setTop (mkF m 53 #[.val (.int qi1), .val (.int qi2), .val (.int (((qi1 &&& (255 : Int32))).toUInt32.toUInt16.toUInt32.toInt32)), .val (.int ((((((qi1).toUInt32 >>> ((8 : Int32) &&& 31).toUInt32).toInt32) &&& (255 : Int32))).toUInt32.toUInt16.toUInt32.toInt32)), .val (.int ((((((qi1).toUInt32 >>> ((16 : Int32) &&& 31).toUInt32).toInt32) &&& (255 : Int32))).toUInt32.toUInt16.toUInt32.toInt32))] [(.int (1 : Int32)), (.ref b3), (.ref b3)])) _
    refine st7 _ ?_
    show Steps p.tables e below (T7.setTop (mkF m 55 #[.val (.int qi1), .val (.int qi2), .val (.int (((qi1 &&& (255 : Int32))).toUInt32.toUInt16.toUInt32.toInt32)), .val (.int ((((((qi1).toUInt32 >>> ((8 : Int32) &&& 31).toUInt32).toInt32) &&& (255 : Int32))).toUInt32.toUInt16.toUInt32.toInt32)), .val (.int ((((((qi1).toUInt32 >>> ((16 : Int32) &&& 31).toUInt32).toInt32) &&& (255 : Int32))).toUInt32.toUInt16.toUInt32.toInt32))] [(.ref b7), (.ref b3), (.ref b3)])) _
    refine XS.dup X7.here hx rfl (hb hby d0_55) rfl rfl ?_
    show Steps p.tables e below (T7.setTop (mkF m 56 #[.val (.int qi1), .val (.int qi2), .val (.int (((qi1 &&& (255 : Int32))).toUInt32.toUInt16.toUInt32.toInt32)), .val (.int ((((((qi1).toUInt32 >>> ((8 : Int32) &&& 31).toUInt32).toInt32) &&& (255 : Int32))).toUInt32.toUInt16.toUInt32.toInt32)), .val (.int ((((((qi1).toUInt32 >>> ((16 : Int32) &&& 31).toUInt32).toInt32) &&& (255 : Int32))).toUInt32.toUInt16.toUInt32.toInt32))] [(.ref b7), (.ref b7), (.ref b3), (.ref b3)])) _
    refine XS.iconst X7.here hx rfl (hb hby d0_56) ?_
    show Steps p.tables e below (T7.setTop (mkF m 57 #[.val (.int qi1), .val (.int qi2), .val (.int (((qi1 &&& (255 : Int32))).toUInt32.toUInt16.toUInt32.toInt32)), .val (.int ((((((qi1).toUInt32 >>> ((8 : Int32) &&& 31).toUInt32).toInt32) &&& (255 : Int32))).toUInt32.toUInt16.toUInt32.toInt32)), .val (.int ((((((qi1).toUInt32 >>> ((16 : Int32) &&& 31).toUInt32).toInt32) &&& (255 : Int32))).toUInt32.toUInt16.toUInt32.toInt32))] [(.int (0 : Int32)), (.ref b7), (.ref b7), (.ref b3), (.ref b3)])) _
    refine XS.iloadN X7.here hx rfl (hb hby d0_57) rfl ?_
    show Steps p.tables e below (T7.setTop (mkF m 58 #[.val (.int qi1), .val (.int qi2), .val (.int (((qi1 &&& (255 : Int32))).toUInt32.toUInt16.toUInt32.toInt32)), .val (.int ((((((qi1).toUInt32 >>> ((8 : Int32) &&& 31).toUInt32).toInt32) &&& (255 : Int32))).toUInt32.toUInt16.toUInt32.toInt32)), .val (.int ((((((qi1).toUInt32 >>> ((16 : Int32) &&& 31).toUInt32).toInt32) &&& (255 : Int32))).toUInt32.toUInt16.toUInt32.toInt32))] [(.int (((qi1 &&& (255 : Int32))).toUInt32.toUInt16.toUInt32.toInt32)), (.int (0 : Int32)), (.ref b7), (.ref b7), (.ref b3), (.ref b3)])) _
    refine st11 _ ?_
    show Steps p.tables e below (T11.setTop (mkF m 59 #[.val (.int qi1), .val (.int qi2), .val (.int (((qi1 &&& (255 : Int32))).toUInt32.toUInt16.toUInt32.toInt32)), .val (.int ((((((qi1).toUInt32 >>> ((8 : Int32) &&& 31).toUInt32).toInt32) &&& (255 : Int32))).toUInt32.toUInt16.toUInt32.toInt32)), .val (.int ((((((qi1).toUInt32 >>> ((16 : Int32) &&& 31).toUInt32).toInt32) &&& (255 : Int32))).toUInt32.toUInt16.toUInt32.toInt32))] [(.ref b7), (.ref b3), (.ref b3)])) _
    refine st15.trans ?_
    show Steps p.tables e below (T15.setTop (mkF m 62 #[.val (.int qi1), .val (.int qi2), .val (.int (((qi1 &&& (255 : Int32))).toUInt32.toUInt16.toUInt32.toInt32)), .val (.int ((((((qi1).toUInt32 >>> ((8 : Int32) &&& 31).toUInt32).toInt32) &&& (255 : Int32))).toUInt32.toUInt16.toUInt32.toInt32)), .val (.int ((((((qi1).toUInt32 >>> ((16 : Int32) &&& 31).toUInt32).toInt32) &&& (255 : Int32))).toUInt32.toUInt16.toUInt32.toInt32))] [(.ref b3)])) _
    exact retOut X15 hx Bd.returns rfl (Or.inr (Or.inr (Or.inr (Or.inr ⟨rfl, rfl, rfl⟩)))) (hb hby d0_62) hr
  · show Q11 Z G1 qi1 qi2 h0 n0 _ T15.heap _
    exact ⟨b3, b25, c25_, rfl, N15, K26, sz_b3, sz_b25, (Ne.symm ne25), E27_, C15q, V25_, A25_⟩
theorem d0_63 : decode method_3_code 63 = .ok (.iload_n 1, 1) := by decide +kernel
theorem d0_64 : decode method_3_code 64 = .ok (.iconst 2, 1) := by decide +kernel
theorem d0_65 : decode method_3_code 65 = .ok (.if_icmp .ne 22, 3) := by decide +kernel
theorem d0_68 : decode method_3_code 68 = .ok (.new 38, 3) := by decide +kernel
theorem d0_71 : decode method_3_code 71 = .ok (.dup, 1) := by decide +kernel
theorem d0_72 : decode method_3_code 72 = .ok (.iconst 2, 1) := by decide +kernel
theorem d0_73 : decode method_3_code 73 = .ok (.newarray .char, 2) := by decide +kernel
theorem d0_75 : decode method_3_code 75 = .ok (.dup, 1) := by decide +kernel
theorem d0_76 : decode method_3_code 76 = .ok (.iconst 0, 1) := by decide +kernel
theorem d0_77 : decode method_3_code 77 = .ok (.iload_n 2, 1) := by decide +kernel
theorem d0_78 : decode method_3_code 78 = .ok (.castore, 1) := by decide +kernel
theorem d0_79 : decode method_3_code 79 = .ok (.dup, 1) := by decide +kernel
theorem d0_80 : decode method_3_code 80 = .ok (.iconst 1, 1) := by decide +kernel
theorem d0_81 : decode method_3_code 81 = .ok (.iload_n 3, 1) := by decide +kernel
theorem d0_82 : decode method_3_code 82 = .ok (.castore, 1) := by decide +kernel
theorem d0_83 : decode method_3_code 83 = .ok (.invokespecial 50, 3) := by decide +kernel
theorem d0_86 : decode method_3_code 86 = .ok (.areturn, 1) := by decide +kernel
-- com/example/foreground_courier/foregroundcourier/FailureHttpStatusPinLaw.makeBody(II)Ljava/lang/String;
def Q12 (Z : State) (G1 : Int32) (qi1 : Int32) (qi2 : Int32) (h0 : Heap) (n0 : Nat) (v : Option Value) (h : Heap) (L : List Loc) : Prop := ∃ b4 : Addr, ∃ b34 : Addr, ∃ c34_ : ClassId, v = some (.ref b4) ∧ Fr n0 L ∧ Keep h0 h [] ∧ h0.size ≤ b4 ∧ h0.size ≤ b34 ∧ b4 ≠ b34 ∧ Exa Z h b4 "java/lang/String" ∧ Fld Z h b4 "java/lang/String" "coder" "B" (.int (0 : Int32)) ∧ Fld Z h b4 "java/lang/String" "value" "[B" (.ref b34) ∧ Arv Z h b34 c34_ .byte (2 : Int32) ((([(((qi1 &&& (255 : Int32))).toUInt32.toUInt16.toUInt32.toInt32), ((((((qi1).toUInt32 >>> ((8 : Int32) &&& 31).toUInt32).toInt32) &&& (255 : Int32))).toUInt32.toUInt16.toUInt32.toInt32)] : List Int32).map (fun c => c.toInt8.toInt32)).map Value.int) (.int 0)
set_option maxRecDepth 65536 in
set_option maxHeartbeats 40000000 in
theorem rm12 (l : Launch) (Z : State) (a0 : Array Value) (hw : ∀ d ∈ tables_1, d.before a0 Z = true) (ws : List Jvm.Cond) (G1 : Int32) (qi1 : Int32) (qi2 : Int32) (h0 : Heap) (n0 : Nat) (X00 : Old Z n0 h0) (O2 : Sta Z Z.heap "java/lang/String" "COMPACT_STRINGS" "Z" (.int G1)) (P5 : ¬ (G1 = (0 : Int32))) (hc1 : ¬ (qi2 = (0 : Int32))) (hc2 : ¬ (qi2 = (1 : Int32))) (hc3 : qi2 = (2 : Int32)) :
    MetFree l (⟨"com/example/foreground_courier/foregroundcourier/FailureHttpStatusPinLaw", "makeBody", "(II)Ljava/lang/String;"⟩ : MethodName) (head1 (Jvm.Cond.code (⟨"com/example/foreground_courier/foregroundcourier/FailureHttpStatusPinLaw", "makeBody", "(II)Ljava/lang/String;"⟩ : MethodName) method_3_code 5 (some (.object "java/lang/String")) :: ws) ({ frames := 4, cells := 3, slots := 8, locals := 66 } : Room)) (fun a U => a = #[(.int qi1), (.int qi2)] ∧ Z.Warmed39 U.vm ∧ U.heap = h0) (fun _ _ _ _ _ => True) (fun _ U o U' => ∃ v L, o = .returned v ∧ Q12 Z G1 qi1 qi2 h0 n0 v U'.heap L ∧ FrameEnd U o U' L ({ frames := 4, cells := 3, slots := 8, locals := 66 } : Room).cells ({ frames := 4, cells := 3, slots := 8, locals := 66 } : Room).slots) := by
  refine MetFree.of_bodySF (plainFor_of_name pn0) hisR ?_
  intro p e s m args below meth c s₁ Bd hml0 hP hK
  obtain ⟨rfl, hZ, hh⟩ := hP
  have hx := Bd.exec
  have hby := Bd.bytes
  have hml : c.maxLocals = 5 := hml0
  have hown : s.vm.findClass "com/example/foreground_courier/foregroundcourier/FailureHttpStatusPinLaw" = some m.cls := findClass_of_methodNamed Bd.named
  have hnm := (name_of_methodNamed Bd.named Bd.method).1
  have X0 : Stand p l e ({ frames := 4, cells := 3, slots := 8, locals := 66 } : Room) s m #[(.int qi1), (.int qi2)] below meth c s₁ [] 0 0 := Stand.of_body Bd
  have e0 : s₁.heap = h0 := by rw [← hh, Bd.state]; rfl
  have N0 := Fr.nil n0
  have pre0 : ∀ t, Steps p.tables e below (s₁.setTop (mkF m 0 #[.val (.int qi1), .val (.int qi2), .unset, .unset, .unset] [])) t → Steps p.tables e below (s₁.setTop (entryFrame m #[(.int qi1), (.int qi2)] 5)) t := fun t k => castTop (ef1 m qi1 qi2) k
  obtain ⟨T4, h4, X4, e4, E4, A4, D4, -, st4⟩ := newO X0 hx hZ hown (hw _ (List.mem_of_getElem? (i := 4) rfl)) (hw _ (List.mem_of_getElem? (i := 5) rfl)) (hw _ (List.mem_of_getElem? (i := 6) rfl)) e0 (g := (mkF m 68 #[.val (.int qi1), .val (.int qi2), .val (.int (((qi1 &&& (255 : Int32))).toUInt32.toUInt16.toUInt32.toInt32)), .val (.int ((((((qi1).toUInt32 >>> ((8 : Int32) &&& 31).toUInt32).toInt32) &&& (255 : Int32))).toUInt32.toUInt16.toUInt32.toInt32)), .val (.int ((((((qi1).toUInt32 >>> ((16 : Int32) &&& 31).toUInt32).toInt32) &&& (255 : Int32))).toUInt32.toUInt16.toUInt32.toInt32))] [])) rfl (hb hby d0_68) (by decide) (by decide)
  obtain ⟨b4, g4⟩ : ∃ z, z = h0.size := ⟨_, rfl⟩
  rw [← g4] at A4 D4 st4
  have K5 : Keep h0 h4 [] := (Keep.refl h0 []).ext E4
  have F6_ : Fld Z h4 b4 "java/lang/String" "coder" "B" (.int (0 : Int32)) := D4 (Or.inr (hw _ (List.mem_of_getElem? (i := 31) rfl))) (ty := .byte) (by decide)
  have F7_ : Fld Z h4 b4 "java/lang/String" "value" "[B" .null := D4 (Or.inr (hw _ (List.mem_of_getElem? (i := 33) rfl))) (ty := (.array .byte)) (by decide)
  obtain ⟨T8, h8, c8, X8, e8, E8, A8, st8⟩ := newP X4 hx hZ (hw _ (List.mem_of_getElem? (i := 7) rfl)) e4 (g := (mkF m 73 #[.val (.int qi1), .val (.int qi2), .val (.int (((qi1 &&& (255 : Int32))).toUInt32.toUInt16.toUInt32.toInt32)), .val (.int ((((((qi1).toUInt32 >>> ((8 : Int32) &&& 31).toUInt32).toInt32) &&& (255 : Int32))).toUInt32.toUInt16.toUInt32.toInt32)), .val (.int ((((((qi1).toUInt32 >>> ((16 : Int32) &&& 31).toUInt32).toInt32) &&& (255 : Int32))).toUInt32.toUInt16.toUInt32.toInt32))] [(.int (2 : Int32)), (.ref b4), (.ref b4)])) rfl (hb hby d0_73) rfl (by decide) (cap := 2) (by decide) (by decide) (by decide) (by decide)
  obtain ⟨b8, g8⟩ : ∃ z, z = h4.size := ⟨_, rfl⟩
  rw [← g8] at A8 st8
  have K9 : Keep h0 h8 [] := K5.ext E8
  have A10_ : Arv Z h8 b8 c8 .char (2 : Int32) [(.int (0 : Int32)), (.int (0 : Int32))] (.int (0 : Int32)) := (Arv.new A8 (by decide)).pad (pad_rep [] (.int (0 : Int32)) 2)
  have av11 := A10_
  obtain ⟨cl11, Ar11, q11, S11, N11, H11, G11⟩ := av11
  have hin12 : ¬ ((0 : Int32) < 0 ∨ cl11.slots.size ≤ ((0 : Int32) : Int32).toNatClampNeg) := inb_of S11 (by decide)
  obtain ⟨T12, h12, X12, e12, W12, st12⟩ := stC X8 hx hZ e8 Ar11 (j := (0 : Int32)) hin12 (g := (mkF m 78 #[.val (.int qi1), .val (.int qi2), .val (.int (((qi1 &&& (255 : Int32))).toUInt32.toUInt16.toUInt32.toInt32)), .val (.int ((((((qi1).toUInt32 >>> ((8 : Int32) &&& 31).toUInt32).toInt32) &&& (255 : Int32))).toUInt32.toUInt16.toUInt32.toInt32)), .val (.int ((((((qi1).toUInt32 >>> ((16 : Int32) &&& 31).toUInt32).toInt32) &&& (255 : Int32))).toUInt32.toUInt16.toUInt32.toInt32))] [(.int (((qi1 &&& (255 : Int32))).toUInt32.toUInt16.toUInt32.toInt32)), (.int (0 : Int32)), (.ref b8), (.ref b8), (.ref b4), (.ref b4)])) rfl rfl (hb hby d0_78)
  have O13 : Old Z n0 h4 := X00.ext E4
  have g_b8 : n0 ≤ b8 := Nat.le_trans (Nat.le_trans (Nat.le_of_eq O13.1.symm) O13.2.1) (Nat.le_of_eq g8.symm)
  have N12_ := Fr.snoc X12 N0 g_b8
  have sz_b8 : h0.size ≤ b8 := Nat.le_trans K5.1 (Nat.le_of_eq g8.symm)
  have K14 : Keep h0 h12 [] := K9.wr W12 (Or.inr sz_b8)
  have A15_ : Arv Z h12 b8 c8 .char (2 : Int32) [(.int (((qi1 &&& (255 : Int32))).toUInt32.toUInt16.toUInt32.toInt32)), (.int (0 : Int32))] (.int (0 : Int32)) := by have q := Arv.set (v := .int (nar .char (((qi1 &&& (255 : Int32))).toUInt32.toUInt16.toUInt32.toInt32))) Ar11 q11 S11 N11 H11 G11 (fits_nar_char _) W12 0 (by decide) (Nat.le_of_ble_eq_true rfl); rw [((own_nar_i2c _) : nar .char (((qi1 &&& (255 : Int32))).toUInt32.toUInt16.toUInt32.toInt32) = (((qi1 &&& (255 : Int32))).toUInt32.toUInt16.toUInt32.toInt32))] at q; exact q
  have av16 := A15_
  obtain ⟨cl16, Ar16, q16, S16, N16, H16, G16⟩ := av16
  have hin17 : ¬ ((1 : Int32) < 0 ∨ cl16.slots.size ≤ ((1 : Int32) : Int32).toNatClampNeg) := inb_of S16 (by decide)
  obtain ⟨T17, h17, X17, e17, W17, st17⟩ := stC X12 hx hZ e12 Ar16 (j := (1 : Int32)) hin17 (g := (mkF m 82 #[.val (.int qi1), .val (.int qi2), .val (.int (((qi1 &&& (255 : Int32))).toUInt32.toUInt16.toUInt32.toInt32)), .val (.int ((((((qi1).toUInt32 >>> ((8 : Int32) &&& 31).toUInt32).toInt32) &&& (255 : Int32))).toUInt32.toUInt16.toUInt32.toInt32)), .val (.int ((((((qi1).toUInt32 >>> ((16 : Int32) &&& 31).toUInt32).toInt32) &&& (255 : Int32))).toUInt32.toUInt16.toUInt32.toInt32))] [(.int ((((((qi1).toUInt32 >>> ((8 : Int32) &&& 31).toUInt32).toInt32) &&& (255 : Int32))).toUInt32.toUInt16.toUInt32.toInt32)), (.int (1 : Int32)), (.ref b8), (.ref b8), (.ref b4), (.ref b4)])) rfl rfl (hb hby d0_82)
  have N17_ := Fr.snoc X17 N12_ g_b8
  have K18 : Keep h0 h17 [] := K14.wr W17 (Or.inr sz_b8)
  have A19_ : Arv Z h17 b8 c8 .char (2 : Int32) [(.int (((qi1 &&& (255 : Int32))).toUInt32.toUInt16.toUInt32.toInt32)), (.int ((((((qi1).toUInt32 >>> ((8 : Int32) &&& 31).toUInt32).toInt32) &&& (255 : Int32))).toUInt32.toUInt16.toUInt32.toInt32))] (.int (0 : Int32)) := by have q := Arv.set (v := .int (nar .char ((((((qi1).toUInt32 >>> ((8 : Int32) &&& 31).toUInt32).toInt32) &&& (255 : Int32))).toUInt32.toUInt16.toUInt32.toInt32))) Ar16 q16 S16 N16 H16 G16 (fits_nar_char _) W17 1 (by decide) (Nat.le_of_ble_eq_true rfl); rw [((own_nar_i2c _) : nar .char ((((((qi1).toUInt32 >>> ((8 : Int32) &&& 31).toUInt32).toInt32) &&& (255 : Int32))).toUInt32.toUInt16.toUInt32.toInt32) = ((((((qi1).toUInt32 >>> ((8 : Int32) &&& 31).toUInt32).toInt32) &&& (255 : Int32))).toUInt32.toUInt16.toUInt32.toInt32))] at q; exact q
  have hp21 : ∀ c ∈ ([(((qi1 &&& (255 : Int32))).toUInt32.toUInt16.toUInt32.toInt32), ((((((qi1).toUInt32 >>> ((8 : Int32) &&& 31).toUInt32).toInt32) &&& (255 : Int32))).toUInt32.toUInt16.toUInt32.toInt32)] : List Int32), ¬ c < 0 ∧ ¬ (255 : Int32) < c := (List.forall_mem_cons.mpr ⟨(own_lat qi1), (List.forall_mem_cons.mpr ⟨(own_lat (((qi1).toUInt32 >>> ((8 : Int32) &&& 31).toUInt32).toInt32)), (fun _ q => nomatch q)⟩)⟩)
  have g_b4 : n0 ≤ b4 := Nat.le_trans (Nat.le_trans (Nat.le_of_eq X00.1.symm) X00.2.1) (Nat.le_of_eq g4.symm)
  have O22 : Old Z n0 h8 := O13.ext E8
  have O23 : Old Z n0 h12 := O22.wr W12 g_b8
  have O24 : Old Z n0 h17 := O23.wr W17 g_b8
  have E25_ : Exa Z h8 b4 "java/lang/String" := A4.ext E8
  have E26_ : Exa Z h12 b4 "java/lang/String" := E25_.wr W12
  have E27_ : Exa Z h17 b4 "java/lang/String" := E26_.wr W17
  have F28_ : Fld Z h8 b4 "java/lang/String" "value" "[B" .null := F7_.ext E8
  have F29_ : Fld Z h12 b4 "java/lang/String" "value" "[B" .null := F28_.other W12 (Or.inl (Nat.ne_of_lt (Nat.lt_of_lt_of_le A4.lt (Nat.le_of_eq g8.symm))))
  have F30_ : Fld Z h17 b4 "java/lang/String" "value" "[B" .null := F29_.other W17 (Or.inl (Nat.ne_of_lt (Nat.lt_of_lt_of_le A4.lt (Nat.le_of_eq g8.symm))))
  have F31_ : Fld Z h8 b4 "java/lang/String" "coder" "B" (.int (0 : Int32)) := F6_.ext E8
  have F32_ : Fld Z h12 b4 "java/lang/String" "coder" "B" (.int (0 : Int32)) := F31_.other W12 (Or.inl (Nat.ne_of_lt (Nat.lt_of_lt_of_le A4.lt (Nat.le_of_eq g8.symm))))
  have F33_ : Fld Z h17 b4 "java/lang/String" "coder" "B" (.int (0 : Int32)) := F32_.other W17 (Or.inl (Nat.ne_of_lt (Nat.lt_of_lt_of_le A4.lt (Nat.le_of_eq g8.symm))))
  obtain ⟨_, _, ⟨T20, L20, k20, n20⟩, -, X20, ⟨Lc20, hQ20, l20, y20, z20⟩, st20⟩ := X17.specialBack hx (y := (⟨"java/lang/String", "<init>", "([C)V"⟩ : MethodName)) rfl hown (mvT hZ (hw _ (List.mem_of_getElem? (i := 8) rfl))) (mvT hZ (hw _ (List.mem_of_getElem? (i := 9) rfl))) (mvT hZ (hw _ (List.mem_of_getElem? (i := 10) rfl))) (by decide) (StrChars.Road.backV (W := 1) hZ (own_ws hw) (kI := 4) (hw _ (List.mem_of_getElem? (i := 5) rfl)) (cs := ([(((qi1 &&& (255 : Int32))).toUInt32.toUInt16.toUInt32.toInt32), ((((((qi1).toUInt32 >>> ((8 : Int32) &&& 31).toUInt32).toInt32) &&& (255 : Int32))).toUInt32.toUInt16.toUInt32.toInt32)] : List Int32)) (bs := ([(((qi1 &&& (255 : Int32))).toUInt32.toUInt16.toUInt32.toInt32), ((((((qi1).toUInt32 >>> ((8 : Int32) &&& 31).toUInt32).toInt32) &&& (255 : Int32))).toUInt32.toUInt16.toUInt32.toInt32)] : List Int32).map (fun c => c.toInt8.toInt32)) (n := 2) g_b4 (Nat.le_trans (Nat.le_of_eq O24.1.symm) O24.2.1) E27_ F30_ F33_ A19_ (O2.ext O24.2) P5 rfl rfl (by decide) (by decide) hp21 rfl (by decide) (by decide)) (g := (mkF m 83 #[.val (.int qi1), .val (.int qi2), .val (.int (((qi1 &&& (255 : Int32))).toUInt32.toUInt16.toUInt32.toInt32)), .val (.int ((((((qi1).toUInt32 >>> ((8 : Int32) &&& 31).toUInt32).toInt32) &&& (255 : Int32))).toUInt32.toUInt16.toUInt32.toInt32)), .val (.int ((((((qi1).toUInt32 >>> ((16 : Int32) &&& 31).toUInt32).toInt32) &&& (255 : Int32))).toUInt32.toUInt16.toUInt32.toInt32))] [(.ref b8), (.ref b4), (.ref b4)])) rfl (by rw [hml]; rfl) (Steps.refl _) (a := b4) (argsL := [(.ref b8)]) (rest := [(.ref b4)]) (lenOf pd1 rfl) rfl (by show 2 * 0 + _ ≤ _; exact Nat.le_of_eq rfl) (hb hby d0_83) (fun _ _ => ⟨rfl, e17, (by decide : 2 + 1 ≤ _), (by decide : 6 + 2 ≤ _)⟩)
  dsimp only [Pt.U, Pt.locs, Pt.cells, Pt.slots] at X20 l20 y20 z20 st20 hQ20
  subst l20 y20 z20
  obtain ⟨rfl, N20q, K20q, E20q, C20q, b34, c34_, u34, g34, ne34, V34_, A34_⟩ := hQ20
  have N20 := Fr.app N17_ N20q
  have sz_b4 : h0.size ≤ b4 := (Nat.le_of_eq g4.symm)
  have K35 : Keep h0 T20.heap [] := K18.trans K20q (allS (Or.inr sz_b4) all0)
  have sz_b34 : h0.size ≤ b34 := Nat.le_trans K18.1 g34
  have E36_ : Exa Z T20.heap b4 "java/lang/String" := E27_.keep K20q
  obtain ⟨fs, hr, hrun, hended, hW, hsame⟩ := X20.leave (v := (some (.ref b4))) (fun h => by rw [Bd.returns] at h; cases h)
  refine ⟨_, _, pre0 _ ?_, hrun, hended, _, _, rfl, ?_, ⟨_, rfl⟩, hW, hsame.mono (by decide) (by decide)⟩
  · show Steps p.tables e below (s₁.setTop (mkF m 0 #[.val (.int qi1), .val (.int qi2), .unset, .unset, .unset] [])) _
    refine XS.iloadN X0.here hx rfl (hb hby d0_0) rfl ?_
    show Steps p.tables e below (s₁.setTop (mkF m 1 #[.val (.int qi1), .val (.int qi2), .unset, .unset, .unset] [(.int qi1)])) _
    refine XS.sipush X0.here hx rfl (hb hby d0_1) ?_
    show Steps p.tables e below (s₁.setTop (mkF m 4 #[.val (.int qi1), .val (.int qi2), .unset, .unset, .unset] [(.int (255 : Int32)), (.int qi1)])) _
    refine XS.iand X0.here hx rfl (hb hby d0_4) rfl ?_
    show Steps p.tables e below (s₁.setTop (mkF m 5 #[.val (.int qi1), .val (.int qi2), .unset, .unset, .unset] [(.int (qi1 &&& (255 : Int32)))])) _
    refine XS.i2c X0.here hx rfl (hb hby d0_5) rfl ?_
    show Steps p.tables e below (s₁.setTop (mkF m 6 #[.val (.int qi1), .val (.int qi2), .unset, .unset, .unset] [(.int (((qi1 &&& (255 : Int32))).toUInt32.toUInt16.toUInt32.toInt32))])) _
    refine XS.istoreN X0.here hx rfl (hb hby d0_6) rfl (l' := #[.val (.int qi1), .val (.int qi2), .val (.int (((qi1 &&& (255 : Int32))).toUInt32.toUInt16.toUInt32.toInt32)), .unset, .unset]) rfl ?_
    show Steps p.tables e below (s₁.setTop (mkF m 7 #[.val (.int qi1), .val (.int qi2), .val (.int (((qi1 &&& (255 : Int32))).toUInt32.toUInt16.toUInt32.toInt32)), .unset, .unset] [])) _
    refine XS.iloadN X0.here hx rfl (hb hby d0_7) rfl ?_
    show Steps p.tables e below (s₁.setTop (mkF m 8 #[.val (.int qi1), .val (.int qi2), .val (.int (((qi1 &&& (255 : Int32))).toUInt32.toUInt16.toUInt32.toInt32)), .unset, .unset] [(.int qi1)])) _
    refine XS.bipush X0.here hx rfl (hb hby d0_8) ?_
    show Steps p.tables e below (s₁.setTop (mkF m 10 #[.val (.int qi1), .val (.int qi2), .val (.int (((qi1 &&& (255 : Int32))).toUInt32.toUInt16.toUInt32.toInt32)), .unset, .unset] [(.int (8 : Int32)), (.int qi1)])) _
    refine XS.iushr X0.here hx rfl (hb hby d0_10) rfl ?_
    show Steps p.tables e below (s₁.setTop (mkF m 11 #[.val (.int qi1), .val (.int qi2), .val (.int (((qi1 &&& (255 : Int32))).toUInt32.toUInt16.toUInt32.toInt32)), .unset, .unset] [(.int (((qi1).toUInt32 >>> ((8 : Int32) &&& 31).toUInt32).toInt32))])) _
    refine XS.sipush X0.here hx rfl (hb hby d0_11) ?_
    show Steps p.tables e below (s₁.setTop (mkF m 14 #[.val (.int qi1), .val (.int qi2), .val (.int (((qi1 &&& (255 : Int32))).toUInt32.toUInt16.toUInt32.toInt32)), .unset, .unset] [(.int (255 : Int32)), (.int (((qi1).toUInt32 >>> ((8 : Int32) &&& 31).toUInt32).toInt32))])) _
    refine XS.iand X0.here hx rfl (hb hby d0_14) rfl ?_
    show Steps p.tables e below (s₁.setTop (mkF m 15 #[.val (.int qi1), .val (.int qi2), .val (.int (((qi1 &&& (255 : Int32))).toUInt32.toUInt16.toUInt32.toInt32)), .unset, .unset] [(.int ((((qi1).toUInt32 >>> ((8 : Int32) &&& 31).toUInt32).toInt32) &&& (255 : Int32)))])) _
    refine XS.i2c X0.here hx rfl (hb hby d0_15) rfl ?_
    show Steps p.tables e below (s₁.setTop (mkF m 16 #[.val (.int qi1), .val (.int qi2), .val (.int (((qi1 &&& (255 : Int32))).toUInt32.toUInt16.toUInt32.toInt32)), .unset, .unset] [(.int ((((((qi1).toUInt32 >>> ((8 : Int32) &&& 31).toUInt32).toInt32) &&& (255 : Int32))).toUInt32.toUInt16.toUInt32.toInt32))])) _
    refine XS.istoreN X0.here hx rfl (hb hby d0_16) rfl (l' := #[.val (.int qi1), .val (.int qi2), .val (.int (((qi1 &&& (255 : Int32))).toUInt32.toUInt16.toUInt32.toInt32)), .val (.int ((((((qi1).toUInt32 >>> ((8 : Int32) &&& 31).toUInt32).toInt32) &&& (255 : Int32))).toUInt32.toUInt16.toUInt32.toInt32)), .unset]) rfl ?_
    show Steps p.tables e below (s₁.setTop (mkF m 17 #[.val (.int qi1), .val (.int qi2), .val (.int (((qi1 &&& (255 : Int32))).toUInt32.toUInt16.toUInt32.toInt32)), .val (.int ((((((qi1).toUInt32 >>> ((8 : Int32) &&& 31).toUInt32).toInt32) &&& (255 : Int32))).toUInt32.toUInt16.toUInt32.toInt32)), .unset] [])) _
    refine XS.iloadN X0.here hx rfl (hb hby d0_17) rfl ?_
    show Steps p.tables e below (s₁.setTop (mkF m 18 #[.val (.int qi1), .val (.int qi2), .val (.int (((qi1 &&& (255 : Int32))).toUInt32.toUInt16.toUInt32.toInt32)), .val (.int ((((((qi1).toUInt32 >>> ((8 : Int32) &&& 31).toUInt32).toInt32) &&& (255 : Int32))).toUInt32.toUInt16.toUInt32.toInt32)), .unset] [(.int qi1)])) _
    refine XS.bipush X0.here hx rfl (hb hby d0_18) ?_
    show Steps p.tables e below (s₁.setTop (mkF m 20 #[.val (.int qi1), .val (.int qi2), .val (.int (((qi1 &&& (255 : Int32))).toUInt32.toUInt16.toUInt32.toInt32)), .val (.int ((((((qi1).toUInt32 >>> ((8 : Int32) &&& 31).toUInt32).toInt32) &&& (255 : Int32))).toUInt32.toUInt16.toUInt32.toInt32)), .unset] [(.int (16 : Int32)), (.int qi1)])) _
    refine XS.iushr X0.here hx rfl (hb hby d0_20) rfl ?_
    show Steps p.tables e below (s₁.setTop (mkF m 21 #[.val (.int qi1), .val (.int qi2), .val (.int (((qi1 &&& (255 : Int32))).toUInt32.toUInt16.toUInt32.toInt32)), .val (.int ((((((qi1).toUInt32 >>> ((8 : Int32) &&& 31).toUInt32).toInt32) &&& (255 : Int32))).toUInt32.toUInt16.toUInt32.toInt32)), .unset] [(.int (((qi1).toUInt32 >>> ((16 : Int32) &&& 31).toUInt32).toInt32))])) _
    refine XS.sipush X0.here hx rfl (hb hby d0_21) ?_
    show Steps p.tables e below (s₁.setTop (mkF m 24 #[.val (.int qi1), .val (.int qi2), .val (.int (((qi1 &&& (255 : Int32))).toUInt32.toUInt16.toUInt32.toInt32)), .val (.int ((((((qi1).toUInt32 >>> ((8 : Int32) &&& 31).toUInt32).toInt32) &&& (255 : Int32))).toUInt32.toUInt16.toUInt32.toInt32)), .unset] [(.int (255 : Int32)), (.int (((qi1).toUInt32 >>> ((16 : Int32) &&& 31).toUInt32).toInt32))])) _
    refine XS.iand X0.here hx rfl (hb hby d0_24) rfl ?_
    show Steps p.tables e below (s₁.setTop (mkF m 25 #[.val (.int qi1), .val (.int qi2), .val (.int (((qi1 &&& (255 : Int32))).toUInt32.toUInt16.toUInt32.toInt32)), .val (.int ((((((qi1).toUInt32 >>> ((8 : Int32) &&& 31).toUInt32).toInt32) &&& (255 : Int32))).toUInt32.toUInt16.toUInt32.toInt32)), .unset] [(.int ((((qi1).toUInt32 >>> ((16 : Int32) &&& 31).toUInt32).toInt32) &&& (255 : Int32)))])) _
    refine XS.i2c X0.here hx rfl (hb hby d0_25) rfl ?_
    show Steps p.tables e below (s₁.setTop (mkF m 26 #[.val (.int qi1), .val (.int qi2), .val (.int (((qi1 &&& (255 : Int32))).toUInt32.toUInt16.toUInt32.toInt32)), .val (.int ((((((qi1).toUInt32 >>> ((8 : Int32) &&& 31).toUInt32).toInt32) &&& (255 : Int32))).toUInt32.toUInt16.toUInt32.toInt32)), .unset] [(.int ((((((qi1).toUInt32 >>> ((16 : Int32) &&& 31).toUInt32).toInt32) &&& (255 : Int32))).toUInt32.toUInt16.toUInt32.toInt32))])) _
    refine XS.istore X0.here hx rfl (hb hby d0_26) rfl (l' := #[.val (.int qi1), .val (.int qi2), .val (.int (((qi1 &&& (255 : Int32))).toUInt32.toUInt16.toUInt32.toInt32)), .val (.int ((((((qi1).toUInt32 >>> ((8 : Int32) &&& 31).toUInt32).toInt32) &&& (255 : Int32))).toUInt32.toUInt16.toUInt32.toInt32)), .val (.int ((((((qi1).toUInt32 >>> ((16 : Int32) &&& 31).toUInt32).toInt32) &&& (255 : Int32))).toUInt32.toUInt16.toUInt32.toInt32))]) rfl ?_
    show Steps p.tables e below (s₁.setTop (mkF m 28 #[.val (.int qi1), .val (.int qi2), .val (.int (((qi1 &&& (255 : Int32))).toUInt32.toUInt16.toUInt32.toInt32)), .val (.int ((((((qi1).toUInt32 >>> ((8 : Int32) &&& 31).toUInt32).toInt32) &&& (255 : Int32))).toUInt32.toUInt16.toUInt32.toInt32)), .val (.int ((((((qi1).toUInt32 >>> ((16 : Int32) &&& 31).toUInt32).toInt32) &&& (255 : Int32))).toUInt32.toUInt16.toUInt32.toInt32))] [])) _
    refine XS.iloadN X0.here hx rfl (hb hby d0_28) rfl ?_
    show Steps p.tables e below (s₁.setTop (mkF m 29 #[.val (.int qi1), .val (.int qi2), .val (.int (((qi1 &&& (255 : Int32))).toUInt32.toUInt16.toUInt32.toInt32)), .val (.int ((((((qi1).toUInt32 >>> ((8 : Int32) &&& 31).toUInt32).toInt32) &&& (255 : Int32))).toUInt32.toUInt16.toUInt32.toInt32)), .val (.int ((((((qi1).toUInt32 >>> ((16 : Int32) &&& 31).toUInt32).toInt32) &&& (255 : Int32))).toUInt32.toUInt16.toUInt32.toInt32))] [(.int qi2)])) _
    refine XS.ifYes X0.here hx rfl (pc0 := 29) (pc' := 43) rfl (hb hby d0_29) rfl (XT.i0_ne_t (hc1 : ¬ (qi2 = (0 : Int32)))) (by decide) (by decide) ?_
    show Steps p.tables e below (s₁.setTop (mkF m 43 #[.val (.int qi1), .val (.int qi2), .val (.int (((qi1 &&& (255 : Int32))).toUInt32.toUInt16.toUInt32.toInt32)), .val (.int ((((((qi1).toUInt32 >>> ((8 : Int32) &&& 31).toUInt32).toInt32) &&& (255 : Int32))).toUInt32.toUInt16.toUInt32.toInt32)), .val (.int ((((((qi1).toUInt32 >>> ((16 : Int32) &&& 31).toUInt32).toInt32) &&& (255 : Int32))).toUInt32.toUInt16.toUInt32.toInt32))] [])) _
    refine XS.iloadN X0.here hx rfl (hb hby d0_43) rfl ?_
    show Steps p.tables e below (s₁.setTop (mkF m 44 #[.val (.int qi1), .val (.int qi2), .val (.int (((qi1 &&& (255 : Int32))).toUInt32.toUInt16.toUInt32.toInt32)), .val (.int ((((((qi1).toUInt32 >>> ((8 : Int32) &&& 31).toUInt32).toInt32) &&& (255 : Int32))).toUInt32.toUInt16.toUInt32.toInt32)), .val (.int ((((((qi1).toUInt32 >>> ((16 : Int32) &&& 31).toUInt32).toInt32) &&& (255 : Int32))).toUInt32.toUInt16.toUInt32.toInt32))] [(.int qi2)])) _
    refine XS.iconst X0.here hx rfl (hb hby d0_44) ?_
    show Steps p.tables e below (s₁.setTop (mkF m 45 #[.val (.int qi1), .val (.int qi2), .val (.int (((qi1 &&& (255 : Int32))).toUInt32.toUInt16.toUInt32.toInt32)), .val (.int ((((((qi1).toUInt32 >>> ((8 : Int32) &&& 31).toUInt32).toInt32) &&& (255 : Int32))).toUInt32.toUInt16.toUInt32.toInt32)), .val (.int ((((((qi1).toUInt32 >>> ((16 : Int32) &&& 31).toUInt32).toInt32) &&& (255 : Int32))).toUInt32.toUInt16.toUInt32.toInt32))] [(.int (1 : Int32)), (.int qi2)])) _
    refine XS.icmpYes X0.here hx rfl (pc0 := 45) (pc' := 63) rfl (hb hby d0_45) rfl (XT.ii_ne_t (hc2 : ¬ (qi2 = (1 : Int32)))) (by decide) (by decide) ?_
    show Steps p.tables e below (s₁.setTop (mkF m 63 #[.val (.int qi1), .val (.int qi2), .val (.int (((qi1 &&& (255 : Int32))).toUInt32.toUInt16.toUInt32.toInt32)), .val (.int ((((((qi1).toUInt32 >>> ((8 : Int32) &&& 31).toUInt32).toInt32) &&& (255 : Int32))).toUInt32.toUInt16.toUInt32.toInt32)), .val (.int ((((((qi1).toUInt32 >>> ((16 : Int32) &&& 31).toUInt32).toInt32) &&& (255 : Int32))).toUInt32.toUInt16.toUInt32.toInt32))] [])) _
    refine XS.iloadN X0.here hx rfl (hb hby d0_63) rfl ?_
    show Steps p.tables e below (s₁.setTop (mkF m 64 #[.val (.int qi1), .val (.int qi2), .val (.int (((qi1 &&& (255 : Int32))).toUInt32.toUInt16.toUInt32.toInt32)), .val (.int ((((((qi1).toUInt32 >>> ((8 : Int32) &&& 31).toUInt32).toInt32) &&& (255 : Int32))).toUInt32.toUInt16.toUInt32.toInt32)), .val (.int ((((((qi1).toUInt32 >>> ((16 : Int32) &&& 31).toUInt32).toInt32) &&& (255 : Int32))).toUInt32.toUInt16.toUInt32.toInt32))] [(.int qi2)])) _
    refine XS.iconst X0.here hx rfl (hb hby d0_64) ?_
    show Steps p.tables e below (s₁.setTop (mkF m 65 #[.val (.int qi1), .val (.int qi2), .val (.int (((qi1 &&& (255 : Int32))).toUInt32.toUInt16.toUInt32.toInt32)), .val (.int ((((((qi1).toUInt32 >>> ((8 : Int32) &&& 31).toUInt32).toInt32) &&& (255 : Int32))).toUInt32.toUInt16.toUInt32.toInt32)), .val (.int ((((((qi1).toUInt32 >>> ((16 : Int32) &&& 31).toUInt32).toInt32) &&& (255 : Int32))).toUInt32.toUInt16.toUInt32.toInt32))] [(.int (2 : Int32)), (.int qi2)])) _
    refine XS.icmpNo X0.here hx rfl (hb hby d0_65) rfl (XT.ii_ne_f (hc3 : qi2 = (2 : Int32))) ?_
    show Steps p.tables e below (s₁.setTop (mkF m 68 #[.val (.int qi1), .val (.int qi2), .val (.int (((qi1 &&& (255 : Int32))).toUInt32.toUInt16.toUInt32.toInt32)), .val (.int ((((((qi1).toUInt32 >>> ((8 : Int32) &&& 31).toUInt32).toInt32) &&& (255 : Int32))).toUInt32.toUInt16.toUInt32.toInt32)), .val (.int ((((((qi1).toUInt32 >>> ((16 : Int32) &&& 31).toUInt32).toInt32) &&& (255 : Int32))).toUInt32.toUInt16.toUInt32.toInt32))] [])) _
    refine st4 _ ?_
    show Steps p.tables e below (T4.setTop (mkF m 71 #[.val (.int qi1), .val (.int qi2), .val (.int (((qi1 &&& (255 : Int32))).toUInt32.toUInt16.toUInt32.toInt32)), .val (.int ((((((qi1).toUInt32 >>> ((8 : Int32) &&& 31).toUInt32).toInt32) &&& (255 : Int32))).toUInt32.toUInt16.toUInt32.toInt32)), .val (.int ((((((qi1).toUInt32 >>> ((16 : Int32) &&& 31).toUInt32).toInt32) &&& (255 : Int32))).toUInt32.toUInt16.toUInt32.toInt32))] [(.ref b4)])) _
    refine XS.dup X4.here hx rfl (hb hby d0_71) rfl rfl ?_
    show Steps p.tables e below (T4.setTop (mkF m 72 #[.val (.int qi1), .val (.int qi2), .val (.int (((qi1 &&& (255 : Int32))).toUInt32.toUInt16.toUInt32.toInt32)), .val (.int ((((((qi1).toUInt32 >>> ((8 : Int32) &&& 31).toUInt32).toInt32) &&& (255 : Int32))).toUInt32.toUInt16.toUInt32.toInt32)), .val (.int ((((((qi1).toUInt32 >>> ((16 : Int32) &&& 31).toUInt32).toInt32) &&& (255 : Int32))).toUInt32.toUInt16.toUInt32.toInt32))] [(.ref b4), (.ref b4)])) _
    refine XS.iconst X4.here hx rfl (hb hby d0_72) ?_
    show Steps p.tables e below (T4.setTop (mkF m 73 #[.val (.int qi1), .val (.int qi2), .val (.int (((qi1 &&& (255 : Int32))).toUInt32.toUInt16.toUInt32.toInt32)), .val (.int ((((((qi1).toUInt32 >>> ((8 : Int32) &&& 31).toUInt32).toInt32) &&& (255 : Int32))).toUInt32.toUInt16.toUInt32.toInt32)), .val (.int ((((((qi1).toUInt32 >>> ((16 : Int32) &&& 31).toUInt32).toInt32) &&& (255 : Int32))).toUInt32.toUInt16.toUInt32.toInt32))] [(.int (2 : Int32)), (.ref b4), (.ref b4)])) _
    refine st8 _ ?_
    show Steps p.tables e below (T8.setTop (mkF m 75 #[.val (.int qi1), .val (.int qi2), .val (.int (((qi1 &&& (255 : Int32))).toUInt32.toUInt16.toUInt32.toInt32)), .val (.int ((((((qi1).toUInt32 >>> ((8 : Int32) &&& 31).toUInt32).toInt32) &&& (255 : Int32))).toUInt32.toUInt16.toUInt32.toInt32)), .val (.int ((((((qi1).toUInt32 >>> ((16 : Int32) &&& 31).toUInt32).toInt32) &&& (255 : Int32))).toUInt32.toUInt16.toUInt32.toInt32))] [(.ref b8), (.ref b4), (.ref b4)])) _
    refine XS.dup X8.here hx rfl (hb hby d0_75) rfl rfl ?_
    show Steps p.tables e below (T8.setTop (mkF m 76 #[.val (.int qi1), .val (.int qi2), .val (.int (((qi1 &&& (255 : Int32))).toUInt32.toUInt16.toUInt32.toInt32)), .val (.int ((((((qi1).toUInt32 >>> ((8 : Int32) &&& 31).toUInt32).toInt32) &&& (255 : Int32))).toUInt32.toUInt16.toUInt32.toInt32)), .val (.int ((((((qi1).toUInt32 >>> ((16 : Int32) &&& 31).toUInt32).toInt32) &&& (255 : Int32))).toUInt32.toUInt16.toUInt32.toInt32))] [(.ref b8), (.ref b8), (.ref b4), (.ref b4)])) _
    refine XS.iconst X8.here hx rfl (hb hby d0_76) ?_
    show Steps p.tables e below (T8.setTop (mkF m 77 #[.val (.int qi1), .val (.int qi2), .val (.int (((qi1 &&& (255 : Int32))).toUInt32.toUInt16.toUInt32.toInt32)), .val (.int ((((((qi1).toUInt32 >>> ((8 : Int32) &&& 31).toUInt32).toInt32) &&& (255 : Int32))).toUInt32.toUInt16.toUInt32.toInt32)), .val (.int ((((((qi1).toUInt32 >>> ((16 : Int32) &&& 31).toUInt32).toInt32) &&& (255 : Int32))).toUInt32.toUInt16.toUInt32.toInt32))] [(.int (0 : Int32)), (.ref b8), (.ref b8), (.ref b4), (.ref b4)])) _
    refine XS.iloadN X8.here hx rfl (hb hby d0_77) rfl ?_
    show Steps p.tables e below (T8.setTop (mkF m 78 #[.val (.int qi1), .val (.int qi2), .val (.int (((qi1 &&& (255 : Int32))).toUInt32.toUInt16.toUInt32.toInt32)), .val (.int ((((((qi1).toUInt32 >>> ((8 : Int32) &&& 31).toUInt32).toInt32) &&& (255 : Int32))).toUInt32.toUInt16.toUInt32.toInt32)), .val (.int ((((((qi1).toUInt32 >>> ((16 : Int32) &&& 31).toUInt32).toInt32) &&& (255 : Int32))).toUInt32.toUInt16.toUInt32.toInt32))] [(.int (((qi1 &&& (255 : Int32))).toUInt32.toUInt16.toUInt32.toInt32)), (.int (0 : Int32)), (.ref b8), (.ref b8), (.ref b4), (.ref b4)])) _
    refine st12 _ ?_
    show Steps p.tables e below (T12.setTop (mkF m 79 #[.val (.int qi1), .val (.int qi2), .val (.int (((qi1 &&& (255 : Int32))).toUInt32.toUInt16.toUInt32.toInt32)), .val (.int ((((((qi1).toUInt32 >>> ((8 : Int32) &&& 31).toUInt32).toInt32) &&& (255 : Int32))).toUInt32.toUInt16.toUInt32.toInt32)), .val (.int ((((((qi1).toUInt32 >>> ((16 : Int32) &&& 31).toUInt32).toInt32) &&& (255 : Int32))).toUInt32.toUInt16.toUInt32.toInt32))] [(.ref b8), (.ref b4), (.ref b4)])) _
    refine XS.dup X12.here hx rfl (hb hby d0_79) rfl rfl ?_
    show Steps p.tables e below (T12.setTop (mkF m 80 #[.val (.int qi1), .val (.int qi2), .val (.int (((qi1 &&& (255 : Int32))).toUInt32.toUInt16.toUInt32.toInt32)), .val (.int ((((((qi1).toUInt32 >>> ((8 : Int32) &&& 31).toUInt32).toInt32) &&& (255 : Int32))).toUInt32.toUInt16.toUInt32.toInt32)), .val (.int ((((((qi1).toUInt32 >>> ((16 : Int32) &&& 31).toUInt32).toInt32) &&& (255 : Int32))).toUInt32.toUInt16.toUInt32.toInt32))] [(.ref b8), (.ref b8), (.ref b4), (.ref b4)])) _
    refine XS.iconst X12.here hx rfl (hb hby d0_80) ?_
    show Steps p.tables e below (T12.setTop (mkF m 81 #[.val (.int qi1), .val (.int qi2), .val (.int (((qi1 &&& (255 : Int32))).toUInt32.toUInt16.toUInt32.toInt32)), .val (.int ((((((qi1).toUInt32 >>> ((8 : Int32) &&& 31).toUInt32).toInt32) &&& (255 : Int32))).toUInt32.toUInt16.toUInt32.toInt32)), .val (.int ((((((qi1).toUInt32 >>> ((16 : Int32) &&& 31).toUInt32).toInt32) &&& (255 : Int32))).toUInt32.toUInt16.toUInt32.toInt32))] [(.int (1 : Int32)), (.ref b8), (.ref b8), (.ref b4), (.ref b4)])) _
    refine XS.iloadN X12.here hx rfl (hb hby d0_81) rfl ?_
    show Steps p.tables e below (T12.setTop (mkF m 82 #[.val (.int qi1), .val (.int qi2), .val (.int (((qi1 &&& (255 : Int32))).toUInt32.toUInt16.toUInt32.toInt32)), .val (.int ((((((qi1).toUInt32 >>> ((8 : Int32) &&& 31).toUInt32).toInt32) &&& (255 : Int32))).toUInt32.toUInt16.toUInt32.toInt32)), .val (.int ((((((qi1).toUInt32 >>> ((16 : Int32) &&& 31).toUInt32).toInt32) &&& (255 : Int32))).toUInt32.toUInt16.toUInt32.toInt32))] [(.int ((((((qi1).toUInt32 >>> ((8 : Int32) &&& 31).toUInt32).toInt32) &&& (255 : Int32))).toUInt32.toUInt16.toUInt32.toInt32)), (.int (1 : Int32)), (.ref b8), (.ref b8), (.ref b4), (.ref b4)])) _
    refine st17 _ ?_
    show Steps p.tables e below (T17.setTop (mkF m 83 #[.val (.int qi1), .val (.int qi2), .val (.int (((qi1 &&& (255 : Int32))).toUInt32.toUInt16.toUInt32.toInt32)), .val (.int ((((((qi1).toUInt32 >>> ((8 : Int32) &&& 31).toUInt32).toInt32) &&& (255 : Int32))).toUInt32.toUInt16.toUInt32.toInt32)), .val (.int ((((((qi1).toUInt32 >>> ((16 : Int32) &&& 31).toUInt32).toInt32) &&& (255 : Int32))).toUInt32.toUInt16.toUInt32.toInt32))] [(.ref b8), (.ref b4), (.ref b4)])) _
    refine st20.trans ?_
    show Steps p.tables e below (T20.setTop (mkF m 86 #[.val (.int qi1), .val (.int qi2), .val (.int (((qi1 &&& (255 : Int32))).toUInt32.toUInt16.toUInt32.toInt32)), .val (.int ((((((qi1).toUInt32 >>> ((8 : Int32) &&& 31).toUInt32).toInt32) &&& (255 : Int32))).toUInt32.toUInt16.toUInt32.toInt32)), .val (.int ((((((qi1).toUInt32 >>> ((16 : Int32) &&& 31).toUInt32).toInt32) &&& (255 : Int32))).toUInt32.toUInt16.toUInt32.toInt32))] [(.ref b4)])) _
    exact retOut X20 hx Bd.returns rfl (Or.inr (Or.inr (Or.inr (Or.inr ⟨rfl, rfl, rfl⟩)))) (hb hby d0_86) hr
  · show Q12 Z G1 qi1 qi2 h0 n0 _ T20.heap _
    exact ⟨b4, b34, c34_, rfl, N20, K35, sz_b4, sz_b34, (Ne.symm ne34), E36_, C20q, V34_, A34_⟩
theorem d0_87 : decode method_3_code 87 = .ok (.new 38, 3) := by decide +kernel
theorem d0_90 : decode method_3_code 90 = .ok (.dup, 1) := by decide +kernel
theorem d0_91 : decode method_3_code 91 = .ok (.iconst 3, 1) := by decide +kernel
theorem d0_92 : decode method_3_code 92 = .ok (.newarray .char, 2) := by decide +kernel
theorem d0_94 : decode method_3_code 94 = .ok (.dup, 1) := by decide +kernel
theorem d0_95 : decode method_3_code 95 = .ok (.iconst 0, 1) := by decide +kernel
theorem d0_96 : decode method_3_code 96 = .ok (.iload_n 2, 1) := by decide +kernel
theorem d0_97 : decode method_3_code 97 = .ok (.castore, 1) := by decide +kernel
theorem d0_98 : decode method_3_code 98 = .ok (.dup, 1) := by decide +kernel
theorem d0_99 : decode method_3_code 99 = .ok (.iconst 1, 1) := by decide +kernel
theorem d0_100 : decode method_3_code 100 = .ok (.iload_n 3, 1) := by decide +kernel
theorem d0_101 : decode method_3_code 101 = .ok (.castore, 1) := by decide +kernel
theorem d0_102 : decode method_3_code 102 = .ok (.dup, 1) := by decide +kernel
theorem d0_103 : decode method_3_code 103 = .ok (.iconst 2, 1) := by decide +kernel
theorem d0_104 : decode method_3_code 104 = .ok (.iload 4, 2) := by decide +kernel
theorem d0_106 : decode method_3_code 106 = .ok (.castore, 1) := by decide +kernel
theorem d0_107 : decode method_3_code 107 = .ok (.invokespecial 50, 3) := by decide +kernel
theorem d0_110 : decode method_3_code 110 = .ok (.areturn, 1) := by decide +kernel
-- com/example/foreground_courier/foregroundcourier/FailureHttpStatusPinLaw.makeBody(II)Ljava/lang/String;
def Q13 (Z : State) (G1 : Int32) (qi1 : Int32) (qi2 : Int32) (h0 : Heap) (n0 : Nat) (v : Option Value) (h : Heap) (L : List Loc) : Prop := ∃ b4 : Addr, ∃ b42 : Addr, ∃ c42_ : ClassId, v = some (.ref b4) ∧ Fr n0 L ∧ Keep h0 h [] ∧ h0.size ≤ b4 ∧ h0.size ≤ b42 ∧ b4 ≠ b42 ∧ Exa Z h b4 "java/lang/String" ∧ Fld Z h b4 "java/lang/String" "coder" "B" (.int (0 : Int32)) ∧ Fld Z h b4 "java/lang/String" "value" "[B" (.ref b42) ∧ Arv Z h b42 c42_ .byte (3 : Int32) ((([(((qi1 &&& (255 : Int32))).toUInt32.toUInt16.toUInt32.toInt32), ((((((qi1).toUInt32 >>> ((8 : Int32) &&& 31).toUInt32).toInt32) &&& (255 : Int32))).toUInt32.toUInt16.toUInt32.toInt32), ((((((qi1).toUInt32 >>> ((16 : Int32) &&& 31).toUInt32).toInt32) &&& (255 : Int32))).toUInt32.toUInt16.toUInt32.toInt32)] : List Int32).map (fun c => c.toInt8.toInt32)).map Value.int) (.int 0)
set_option maxRecDepth 65536 in
set_option maxHeartbeats 40000000 in
theorem rm13 (l : Launch) (Z : State) (a0 : Array Value) (hw : ∀ d ∈ tables_1, d.before a0 Z = true) (ws : List Jvm.Cond) (G1 : Int32) (qi1 : Int32) (qi2 : Int32) (h0 : Heap) (n0 : Nat) (X00 : Old Z n0 h0) (O2 : Sta Z Z.heap "java/lang/String" "COMPACT_STRINGS" "Z" (.int G1)) (P5 : ¬ (G1 = (0 : Int32))) (hc1 : ¬ (qi2 = (0 : Int32))) (hc2 : ¬ (qi2 = (1 : Int32))) (hc3 : ¬ (qi2 = (2 : Int32))) :
    MetFree l (⟨"com/example/foreground_courier/foregroundcourier/FailureHttpStatusPinLaw", "makeBody", "(II)Ljava/lang/String;"⟩ : MethodName) (head1 (Jvm.Cond.code (⟨"com/example/foreground_courier/foregroundcourier/FailureHttpStatusPinLaw", "makeBody", "(II)Ljava/lang/String;"⟩ : MethodName) method_3_code 5 (some (.object "java/lang/String")) :: ws) ({ frames := 4, cells := 3, slots := 10, locals := 66 } : Room)) (fun a U => a = #[(.int qi1), (.int qi2)] ∧ Z.Warmed39 U.vm ∧ U.heap = h0) (fun _ _ _ _ _ => True) (fun _ U o U' => ∃ v L, o = .returned v ∧ Q13 Z G1 qi1 qi2 h0 n0 v U'.heap L ∧ FrameEnd U o U' L ({ frames := 4, cells := 3, slots := 10, locals := 66 } : Room).cells ({ frames := 4, cells := 3, slots := 10, locals := 66 } : Room).slots) := by
  refine MetFree.of_bodySF (plainFor_of_name pn0) hisR ?_
  intro p e s m args below meth c s₁ Bd hml0 hP hK
  obtain ⟨rfl, hZ, hh⟩ := hP
  have hx := Bd.exec
  have hby := Bd.bytes
  have hml : c.maxLocals = 5 := hml0
  have hown : s.vm.findClass "com/example/foreground_courier/foregroundcourier/FailureHttpStatusPinLaw" = some m.cls := findClass_of_methodNamed Bd.named
  have hnm := (name_of_methodNamed Bd.named Bd.method).1
  have X0 : Stand p l e ({ frames := 4, cells := 3, slots := 10, locals := 66 } : Room) s m #[(.int qi1), (.int qi2)] below meth c s₁ [] 0 0 := Stand.of_body Bd
  have e0 : s₁.heap = h0 := by rw [← hh, Bd.state]; rfl
  have N0 := Fr.nil n0
  have pre0 : ∀ t, Steps p.tables e below (s₁.setTop (mkF m 0 #[.val (.int qi1), .val (.int qi2), .unset, .unset, .unset] [])) t → Steps p.tables e below (s₁.setTop (entryFrame m #[(.int qi1), (.int qi2)] 5)) t := fun t k => castTop (ef1 m qi1 qi2) k
  obtain ⟨T4, h4, X4, e4, E4, A4, D4, -, st4⟩ := newO X0 hx hZ hown (hw _ (List.mem_of_getElem? (i := 4) rfl)) (hw _ (List.mem_of_getElem? (i := 5) rfl)) (hw _ (List.mem_of_getElem? (i := 6) rfl)) e0 (g := (mkF m 87 #[.val (.int qi1), .val (.int qi2), .val (.int (((qi1 &&& (255 : Int32))).toUInt32.toUInt16.toUInt32.toInt32)), .val (.int ((((((qi1).toUInt32 >>> ((8 : Int32) &&& 31).toUInt32).toInt32) &&& (255 : Int32))).toUInt32.toUInt16.toUInt32.toInt32)), .val (.int ((((((qi1).toUInt32 >>> ((16 : Int32) &&& 31).toUInt32).toInt32) &&& (255 : Int32))).toUInt32.toUInt16.toUInt32.toInt32))] [])) rfl (hb hby d0_87) (by decide) (by decide)
  obtain ⟨b4, g4⟩ : ∃ z, z = h0.size := ⟨_, rfl⟩
  rw [← g4] at A4 D4 st4
  have K5 : Keep h0 h4 [] := (Keep.refl h0 []).ext E4
  have F6_ : Fld Z h4 b4 "java/lang/String" "coder" "B" (.int (0 : Int32)) := D4 (Or.inr (hw _ (List.mem_of_getElem? (i := 31) rfl))) (ty := .byte) (by decide)
  have F7_ : Fld Z h4 b4 "java/lang/String" "value" "[B" .null := D4 (Or.inr (hw _ (List.mem_of_getElem? (i := 33) rfl))) (ty := (.array .byte)) (by decide)
  obtain ⟨T8, h8, c8, X8, e8, E8, A8, st8⟩ := newP X4 hx hZ (hw _ (List.mem_of_getElem? (i := 7) rfl)) e4 (g := (mkF m 92 #[.val (.int qi1), .val (.int qi2), .val (.int (((qi1 &&& (255 : Int32))).toUInt32.toUInt16.toUInt32.toInt32)), .val (.int ((((((qi1).toUInt32 >>> ((8 : Int32) &&& 31).toUInt32).toInt32) &&& (255 : Int32))).toUInt32.toUInt16.toUInt32.toInt32)), .val (.int ((((((qi1).toUInt32 >>> ((16 : Int32) &&& 31).toUInt32).toInt32) &&& (255 : Int32))).toUInt32.toUInt16.toUInt32.toInt32))] [(.int (3 : Int32)), (.ref b4), (.ref b4)])) rfl (hb hby d0_92) rfl (by decide) (cap := 3) (by decide) (by decide) (by decide) (by decide)
  obtain ⟨b8, g8⟩ : ∃ z, z = h4.size := ⟨_, rfl⟩
  rw [← g8] at A8 st8
  have K9 : Keep h0 h8 [] := K5.ext E8
  have A10_ : Arv Z h8 b8 c8 .char (3 : Int32) [(.int (0 : Int32)), (.int (0 : Int32)), (.int (0 : Int32))] (.int (0 : Int32)) := (Arv.new A8 (by decide)).pad (pad_rep [] (.int (0 : Int32)) 3)
  have av11 := A10_
  obtain ⟨cl11, Ar11, q11, S11, N11, H11, G11⟩ := av11
  have hin12 : ¬ ((0 : Int32) < 0 ∨ cl11.slots.size ≤ ((0 : Int32) : Int32).toNatClampNeg) := inb_of S11 (by decide)
  obtain ⟨T12, h12, X12, e12, W12, st12⟩ := stC X8 hx hZ e8 Ar11 (j := (0 : Int32)) hin12 (g := (mkF m 97 #[.val (.int qi1), .val (.int qi2), .val (.int (((qi1 &&& (255 : Int32))).toUInt32.toUInt16.toUInt32.toInt32)), .val (.int ((((((qi1).toUInt32 >>> ((8 : Int32) &&& 31).toUInt32).toInt32) &&& (255 : Int32))).toUInt32.toUInt16.toUInt32.toInt32)), .val (.int ((((((qi1).toUInt32 >>> ((16 : Int32) &&& 31).toUInt32).toInt32) &&& (255 : Int32))).toUInt32.toUInt16.toUInt32.toInt32))] [(.int (((qi1 &&& (255 : Int32))).toUInt32.toUInt16.toUInt32.toInt32)), (.int (0 : Int32)), (.ref b8), (.ref b8), (.ref b4), (.ref b4)])) rfl rfl (hb hby d0_97)
  have O13 : Old Z n0 h4 := X00.ext E4
  have g_b8 : n0 ≤ b8 := Nat.le_trans (Nat.le_trans (Nat.le_of_eq O13.1.symm) O13.2.1) (Nat.le_of_eq g8.symm)
  have N12_ := Fr.snoc X12 N0 g_b8
  have sz_b8 : h0.size ≤ b8 := Nat.le_trans K5.1 (Nat.le_of_eq g8.symm)
  have K14 : Keep h0 h12 [] := K9.wr W12 (Or.inr sz_b8)
  have A15_ : Arv Z h12 b8 c8 .char (3 : Int32) [(.int (((qi1 &&& (255 : Int32))).toUInt32.toUInt16.toUInt32.toInt32)), (.int (0 : Int32)), (.int (0 : Int32))] (.int (0 : Int32)) := by have q := Arv.set (v := .int (nar .char (((qi1 &&& (255 : Int32))).toUInt32.toUInt16.toUInt32.toInt32))) Ar11 q11 S11 N11 H11 G11 (fits_nar_char _) W12 0 (by decide) (Nat.le_of_ble_eq_true rfl); rw [((own_nar_i2c _) : nar .char (((qi1 &&& (255 : Int32))).toUInt32.toUInt16.toUInt32.toInt32) = (((qi1 &&& (255 : Int32))).toUInt32.toUInt16.toUInt32.toInt32))] at q; exact q
  have av16 := A15_
  obtain ⟨cl16, Ar16, q16, S16, N16, H16, G16⟩ := av16
  have hin17 : ¬ ((1 : Int32) < 0 ∨ cl16.slots.size ≤ ((1 : Int32) : Int32).toNatClampNeg) := inb_of S16 (by decide)
  obtain ⟨T17, h17, X17, e17, W17, st17⟩ := stC X12 hx hZ e12 Ar16 (j := (1 : Int32)) hin17 (g := (mkF m 101 #[.val (.int qi1), .val (.int qi2), .val (.int (((qi1 &&& (255 : Int32))).toUInt32.toUInt16.toUInt32.toInt32)), .val (.int ((((((qi1).toUInt32 >>> ((8 : Int32) &&& 31).toUInt32).toInt32) &&& (255 : Int32))).toUInt32.toUInt16.toUInt32.toInt32)), .val (.int ((((((qi1).toUInt32 >>> ((16 : Int32) &&& 31).toUInt32).toInt32) &&& (255 : Int32))).toUInt32.toUInt16.toUInt32.toInt32))] [(.int ((((((qi1).toUInt32 >>> ((8 : Int32) &&& 31).toUInt32).toInt32) &&& (255 : Int32))).toUInt32.toUInt16.toUInt32.toInt32)), (.int (1 : Int32)), (.ref b8), (.ref b8), (.ref b4), (.ref b4)])) rfl rfl (hb hby d0_101)
  have N17_ := Fr.snoc X17 N12_ g_b8
  have K18 : Keep h0 h17 [] := K14.wr W17 (Or.inr sz_b8)
  have A19_ : Arv Z h17 b8 c8 .char (3 : Int32) [(.int (((qi1 &&& (255 : Int32))).toUInt32.toUInt16.toUInt32.toInt32)), (.int ((((((qi1).toUInt32 >>> ((8 : Int32) &&& 31).toUInt32).toInt32) &&& (255 : Int32))).toUInt32.toUInt16.toUInt32.toInt32)), (.int (0 : Int32))] (.int (0 : Int32)) := by have q := Arv.set (v := .int (nar .char ((((((qi1).toUInt32 >>> ((8 : Int32) &&& 31).toUInt32).toInt32) &&& (255 : Int32))).toUInt32.toUInt16.toUInt32.toInt32))) Ar16 q16 S16 N16 H16 G16 (fits_nar_char _) W17 1 (by decide) (Nat.le_of_ble_eq_true rfl); rw [((own_nar_i2c _) : nar .char ((((((qi1).toUInt32 >>> ((8 : Int32) &&& 31).toUInt32).toInt32) &&& (255 : Int32))).toUInt32.toUInt16.toUInt32.toInt32) = ((((((qi1).toUInt32 >>> ((8 : Int32) &&& 31).toUInt32).toInt32) &&& (255 : Int32))).toUInt32.toUInt16.toUInt32.toInt32))] at q; exact q
  have av20 := A19_
  obtain ⟨cl20, Ar20, q20, S20, N20, H20, G20⟩ := av20
  have hin21 : ¬ ((2 : Int32) < 0 ∨ cl20.slots.size ≤ ((2 : Int32) : Int32).toNatClampNeg) := inb_of S20 (by decide)
  obtain ⟨T21, h21, X21, e21, W21, st21⟩ := stC X17 hx hZ e17 Ar20 (j := (2 : Int32)) hin21 (g := (mkF m 106 #[.val (.int qi1), .val (.int qi2), .val (.int (((qi1 &&& (255 : Int32))).toUInt32.toUInt16.toUInt32.toInt32)), .val (.int ((((((qi1).toUInt32 >>> ((8 : Int32) &&& 31).toUInt32).toInt32) &&& (255 : Int32))).toUInt32.toUInt16.toUInt32.toInt32)), .val (.int ((((((qi1).toUInt32 >>> ((16 : Int32) &&& 31).toUInt32).toInt32) &&& (255 : Int32))).toUInt32.toUInt16.toUInt32.toInt32))] [(.int ((((((qi1).toUInt32 >>> ((16 : Int32) &&& 31).toUInt32).toInt32) &&& (255 : Int32))).toUInt32.toUInt16.toUInt32.toInt32)), (.int (2 : Int32)), (.ref b8), (.ref b8), (.ref b4), (.ref b4)])) rfl rfl (hb hby d0_106)
  have N21_ := Fr.snoc X21 N17_ g_b8
  have K22 : Keep h0 h21 [] := K18.wr W21 (Or.inr sz_b8)
  have A23_ : Arv Z h21 b8 c8 .char (3 : Int32) [(.int (((qi1 &&& (255 : Int32))).toUInt32.toUInt16.toUInt32.toInt32)), (.int ((((((qi1).toUInt32 >>> ((8 : Int32) &&& 31).toUInt32).toInt32) &&& (255 : Int32))).toUInt32.toUInt16.toUInt32.toInt32)), (.int ((((((qi1).toUInt32 >>> ((16 : Int32) &&& 31).toUInt32).toInt32) &&& (255 : Int32))).toUInt32.toUInt16.toUInt32.toInt32))] (.int (0 : Int32)) := by have q := Arv.set (v := .int (nar .char ((((((qi1).toUInt32 >>> ((16 : Int32) &&& 31).toUInt32).toInt32) &&& (255 : Int32))).toUInt32.toUInt16.toUInt32.toInt32))) Ar20 q20 S20 N20 H20 G20 (fits_nar_char _) W21 2 (by decide) (Nat.le_of_ble_eq_true rfl); rw [((own_nar_i2c _) : nar .char ((((((qi1).toUInt32 >>> ((16 : Int32) &&& 31).toUInt32).toInt32) &&& (255 : Int32))).toUInt32.toUInt16.toUInt32.toInt32) = ((((((qi1).toUInt32 >>> ((16 : Int32) &&& 31).toUInt32).toInt32) &&& (255 : Int32))).toUInt32.toUInt16.toUInt32.toInt32))] at q; exact q
  have hp25 : ∀ c ∈ ([(((qi1 &&& (255 : Int32))).toUInt32.toUInt16.toUInt32.toInt32), ((((((qi1).toUInt32 >>> ((8 : Int32) &&& 31).toUInt32).toInt32) &&& (255 : Int32))).toUInt32.toUInt16.toUInt32.toInt32), ((((((qi1).toUInt32 >>> ((16 : Int32) &&& 31).toUInt32).toInt32) &&& (255 : Int32))).toUInt32.toUInt16.toUInt32.toInt32)] : List Int32), ¬ c < 0 ∧ ¬ (255 : Int32) < c := (List.forall_mem_cons.mpr ⟨(own_lat qi1), (List.forall_mem_cons.mpr ⟨(own_lat (((qi1).toUInt32 >>> ((8 : Int32) &&& 31).toUInt32).toInt32)), (List.forall_mem_cons.mpr ⟨(own_lat (((qi1).toUInt32 >>> ((16 : Int32) &&& 31).toUInt32).toInt32)), (fun _ q => nomatch q)⟩)⟩)⟩)
  have g_b4 : n0 ≤ b4 := Nat.le_trans (Nat.le_trans (Nat.le_of_eq X00.1.symm) X00.2.1) (Nat.le_of_eq g4.symm)
  have O26 : Old Z n0 h8 := O13.ext E8
  have O27 : Old Z n0 h12 := O26.wr W12 g_b8
  have O28 : Old Z n0 h17 := O27.wr W17 g_b8
  have O29 : Old Z n0 h21 := O28.wr W21 g_b8
  have E30_ : Exa Z h8 b4 "java/lang/String" := A4.ext E8
  have E31_ : Exa Z h12 b4 "java/lang/String" := E30_.wr W12
  have E32_ : Exa Z h17 b4 "java/lang/String" := E31_.wr W17
  have E33_ : Exa Z h21 b4 "java/lang/String" := E32_.wr W21
  have F34_ : Fld Z h8 b4 "java/lang/String" "value" "[B" .null := F7_.ext E8
  have F35_ : Fld Z h12 b4 "java/lang/String" "value" "[B" .null := F34_.other W12 (Or.inl (Nat.ne_of_lt (Nat.lt_of_lt_of_le A4.lt (Nat.le_of_eq g8.symm))))
  have F36_ : Fld Z h17 b4 "java/lang/String" "value" "[B" .null := F35_.other W17 (Or.inl (Nat.ne_of_lt (Nat.lt_of_lt_of_le A4.lt (Nat.le_of_eq g8.symm))))
  have F37_ : Fld Z h21 b4 "java/lang/String" "value" "[B" .null := F36_.other W21 (Or.inl (Nat.ne_of_lt (Nat.lt_of_lt_of_le A4.lt (Nat.le_of_eq g8.symm))))
  have F38_ : Fld Z h8 b4 "java/lang/String" "coder" "B" (.int (0 : Int32)) := F6_.ext E8
  have F39_ : Fld Z h12 b4 "java/lang/String" "coder" "B" (.int (0 : Int32)) := F38_.other W12 (Or.inl (Nat.ne_of_lt (Nat.lt_of_lt_of_le A4.lt (Nat.le_of_eq g8.symm))))
  have F40_ : Fld Z h17 b4 "java/lang/String" "coder" "B" (.int (0 : Int32)) := F39_.other W17 (Or.inl (Nat.ne_of_lt (Nat.lt_of_lt_of_le A4.lt (Nat.le_of_eq g8.symm))))
  have F41_ : Fld Z h21 b4 "java/lang/String" "coder" "B" (.int (0 : Int32)) := F40_.other W21 (Or.inl (Nat.ne_of_lt (Nat.lt_of_lt_of_le A4.lt (Nat.le_of_eq g8.symm))))
  obtain ⟨_, _, ⟨T24, L24, k24, n24⟩, -, X24, ⟨Lc24, hQ24, l24, y24, z24⟩, st24⟩ := X21.specialBack hx (y := (⟨"java/lang/String", "<init>", "([C)V"⟩ : MethodName)) rfl hown (mvT hZ (hw _ (List.mem_of_getElem? (i := 8) rfl))) (mvT hZ (hw _ (List.mem_of_getElem? (i := 9) rfl))) (mvT hZ (hw _ (List.mem_of_getElem? (i := 10) rfl))) (by decide) (StrChars.Road.backV (W := 1) hZ (own_ws hw) (kI := 4) (hw _ (List.mem_of_getElem? (i := 5) rfl)) (cs := ([(((qi1 &&& (255 : Int32))).toUInt32.toUInt16.toUInt32.toInt32), ((((((qi1).toUInt32 >>> ((8 : Int32) &&& 31).toUInt32).toInt32) &&& (255 : Int32))).toUInt32.toUInt16.toUInt32.toInt32), ((((((qi1).toUInt32 >>> ((16 : Int32) &&& 31).toUInt32).toInt32) &&& (255 : Int32))).toUInt32.toUInt16.toUInt32.toInt32)] : List Int32)) (bs := ([(((qi1 &&& (255 : Int32))).toUInt32.toUInt16.toUInt32.toInt32), ((((((qi1).toUInt32 >>> ((8 : Int32) &&& 31).toUInt32).toInt32) &&& (255 : Int32))).toUInt32.toUInt16.toUInt32.toInt32), ((((((qi1).toUInt32 >>> ((16 : Int32) &&& 31).toUInt32).toInt32) &&& (255 : Int32))).toUInt32.toUInt16.toUInt32.toInt32)] : List Int32).map (fun c => c.toInt8.toInt32)) (n := 3) g_b4 (Nat.le_trans (Nat.le_of_eq O29.1.symm) O29.2.1) E33_ F37_ F41_ A23_ (O2.ext O29.2) P5 rfl rfl (by decide) (by decide) hp25 rfl (by decide) (by decide)) (g := (mkF m 107 #[.val (.int qi1), .val (.int qi2), .val (.int (((qi1 &&& (255 : Int32))).toUInt32.toUInt16.toUInt32.toInt32)), .val (.int ((((((qi1).toUInt32 >>> ((8 : Int32) &&& 31).toUInt32).toInt32) &&& (255 : Int32))).toUInt32.toUInt16.toUInt32.toInt32)), .val (.int ((((((qi1).toUInt32 >>> ((16 : Int32) &&& 31).toUInt32).toInt32) &&& (255 : Int32))).toUInt32.toUInt16.toUInt32.toInt32))] [(.ref b8), (.ref b4), (.ref b4)])) rfl (by rw [hml]; rfl) (Steps.refl _) (a := b4) (argsL := [(.ref b8)]) (rest := [(.ref b4)]) (lenOf pd1 rfl) rfl (by show 2 * 0 + _ ≤ _; exact Nat.le_of_eq rfl) (hb hby d0_107) (fun _ _ => ⟨rfl, e21, (by decide : 2 + 1 ≤ _), (by decide : 7 + 3 ≤ _)⟩)
  dsimp only [Pt.U, Pt.locs, Pt.cells, Pt.slots] at X24 l24 y24 z24 st24 hQ24
  subst l24 y24 z24
  obtain ⟨rfl, N24q, K24q, E24q, C24q, b42, c42_, u42, g42, ne42, V42_, A42_⟩ := hQ24
  have N24 := Fr.app N21_ N24q
  have sz_b4 : h0.size ≤ b4 := (Nat.le_of_eq g4.symm)
  have K43 : Keep h0 T24.heap [] := K22.trans K24q (allS (Or.inr sz_b4) all0)
  have sz_b42 : h0.size ≤ b42 := Nat.le_trans K22.1 g42
  have E44_ : Exa Z T24.heap b4 "java/lang/String" := E33_.keep K24q
  obtain ⟨fs, hr, hrun, hended, hW, hsame⟩ := X24.leave (v := (some (.ref b4))) (fun h => by rw [Bd.returns] at h; cases h)
  refine ⟨_, _, pre0 _ ?_, hrun, hended, _, _, rfl, ?_, ⟨_, rfl⟩, hW, hsame.mono (by decide) (by decide)⟩
  · show Steps p.tables e below (s₁.setTop (mkF m 0 #[.val (.int qi1), .val (.int qi2), .unset, .unset, .unset] [])) _
    refine XS.iloadN X0.here hx rfl (hb hby d0_0) rfl ?_
    show Steps p.tables e below (s₁.setTop (mkF m 1 #[.val (.int qi1), .val (.int qi2), .unset, .unset, .unset] [(.int qi1)])) _
    refine XS.sipush X0.here hx rfl (hb hby d0_1) ?_
    show Steps p.tables e below (s₁.setTop (mkF m 4 #[.val (.int qi1), .val (.int qi2), .unset, .unset, .unset] [(.int (255 : Int32)), (.int qi1)])) _
    refine XS.iand X0.here hx rfl (hb hby d0_4) rfl ?_
    show Steps p.tables e below (s₁.setTop (mkF m 5 #[.val (.int qi1), .val (.int qi2), .unset, .unset, .unset] [(.int (qi1 &&& (255 : Int32)))])) _
    refine XS.i2c X0.here hx rfl (hb hby d0_5) rfl ?_
    show Steps p.tables e below (s₁.setTop (mkF m 6 #[.val (.int qi1), .val (.int qi2), .unset, .unset, .unset] [(.int (((qi1 &&& (255 : Int32))).toUInt32.toUInt16.toUInt32.toInt32))])) _
    refine XS.istoreN X0.here hx rfl (hb hby d0_6) rfl (l' := #[.val (.int qi1), .val (.int qi2), .val (.int (((qi1 &&& (255 : Int32))).toUInt32.toUInt16.toUInt32.toInt32)), .unset, .unset]) rfl ?_
    show Steps p.tables e below (s₁.setTop (mkF m 7 #[.val (.int qi1), .val (.int qi2), .val (.int (((qi1 &&& (255 : Int32))).toUInt32.toUInt16.toUInt32.toInt32)), .unset, .unset] [])) _
    refine XS.iloadN X0.here hx rfl (hb hby d0_7) rfl ?_
    show Steps p.tables e below (s₁.setTop (mkF m 8 #[.val (.int qi1), .val (.int qi2), .val (.int (((qi1 &&& (255 : Int32))).toUInt32.toUInt16.toUInt32.toInt32)), .unset, .unset] [(.int qi1)])) _
    refine XS.bipush X0.here hx rfl (hb hby d0_8) ?_
    show Steps p.tables e below (s₁.setTop (mkF m 10 #[.val (.int qi1), .val (.int qi2), .val (.int (((qi1 &&& (255 : Int32))).toUInt32.toUInt16.toUInt32.toInt32)), .unset, .unset] [(.int (8 : Int32)), (.int qi1)])) _
    refine XS.iushr X0.here hx rfl (hb hby d0_10) rfl ?_
    show Steps p.tables e below (s₁.setTop (mkF m 11 #[.val (.int qi1), .val (.int qi2), .val (.int (((qi1 &&& (255 : Int32))).toUInt32.toUInt16.toUInt32.toInt32)), .unset, .unset] [(.int (((qi1).toUInt32 >>> ((8 : Int32) &&& 31).toUInt32).toInt32))])) _
    refine XS.sipush X0.here hx rfl (hb hby d0_11) ?_
    show Steps p.tables e below (s₁.setTop (mkF m 14 #[.val (.int qi1), .val (.int qi2), .val (.int (((qi1 &&& (255 : Int32))).toUInt32.toUInt16.toUInt32.toInt32)), .unset, .unset] [(.int (255 : Int32)), (.int (((qi1).toUInt32 >>> ((8 : Int32) &&& 31).toUInt32).toInt32))])) _
    refine XS.iand X0.here hx rfl (hb hby d0_14) rfl ?_
    show Steps p.tables e below (s₁.setTop (mkF m 15 #[.val (.int qi1), .val (.int qi2), .val (.int (((qi1 &&& (255 : Int32))).toUInt32.toUInt16.toUInt32.toInt32)), .unset, .unset] [(.int ((((qi1).toUInt32 >>> ((8 : Int32) &&& 31).toUInt32).toInt32) &&& (255 : Int32)))])) _
    refine XS.i2c X0.here hx rfl (hb hby d0_15) rfl ?_
    show Steps p.tables e below (s₁.setTop (mkF m 16 #[.val (.int qi1), .val (.int qi2), .val (.int (((qi1 &&& (255 : Int32))).toUInt32.toUInt16.toUInt32.toInt32)), .unset, .unset] [(.int ((((((qi1).toUInt32 >>> ((8 : Int32) &&& 31).toUInt32).toInt32) &&& (255 : Int32))).toUInt32.toUInt16.toUInt32.toInt32))])) _
    refine XS.istoreN X0.here hx rfl (hb hby d0_16) rfl (l' := #[.val (.int qi1), .val (.int qi2), .val (.int (((qi1 &&& (255 : Int32))).toUInt32.toUInt16.toUInt32.toInt32)), .val (.int ((((((qi1).toUInt32 >>> ((8 : Int32) &&& 31).toUInt32).toInt32) &&& (255 : Int32))).toUInt32.toUInt16.toUInt32.toInt32)), .unset]) rfl ?_
    show Steps p.tables e below (s₁.setTop (mkF m 17 #[.val (.int qi1), .val (.int qi2), .val (.int (((qi1 &&& (255 : Int32))).toUInt32.toUInt16.toUInt32.toInt32)), .val (.int ((((((qi1).toUInt32 >>> ((8 : Int32) &&& 31).toUInt32).toInt32) &&& (255 : Int32))).toUInt32.toUInt16.toUInt32.toInt32)), .unset] [])) _
    refine XS.iloadN X0.here hx rfl (hb hby d0_17) rfl ?_
    show Steps p.tables e below (s₁.setTop (mkF m 18 #[.val (.int qi1), .val (.int qi2), .val (.int (((qi1 &&& (255 : Int32))).toUInt32.toUInt16.toUInt32.toInt32)), .val (.int ((((((qi1).toUInt32 >>> ((8 : Int32) &&& 31).toUInt32).toInt32) &&& (255 : Int32))).toUInt32.toUInt16.toUInt32.toInt32)), .unset] [(.int qi1)])) _
    refine XS.bipush X0.here hx rfl (hb hby d0_18) ?_
    show Steps p.tables e below (s₁.setTop (mkF m 20 #[.val (.int qi1), .val (.int qi2), .val (.int (((qi1 &&& (255 : Int32))).toUInt32.toUInt16.toUInt32.toInt32)), .val (.int ((((((qi1).toUInt32 >>> ((8 : Int32) &&& 31).toUInt32).toInt32) &&& (255 : Int32))).toUInt32.toUInt16.toUInt32.toInt32)), .unset] [(.int (16 : Int32)), (.int qi1)])) _
    refine XS.iushr X0.here hx rfl (hb hby d0_20) rfl ?_
    show Steps p.tables e below (s₁.setTop (mkF m 21 #[.val (.int qi1), .val (.int qi2), .val (.int (((qi1 &&& (255 : Int32))).toUInt32.toUInt16.toUInt32.toInt32)), .val (.int ((((((qi1).toUInt32 >>> ((8 : Int32) &&& 31).toUInt32).toInt32) &&& (255 : Int32))).toUInt32.toUInt16.toUInt32.toInt32)), .unset] [(.int (((qi1).toUInt32 >>> ((16 : Int32) &&& 31).toUInt32).toInt32))])) _
    refine XS.sipush X0.here hx rfl (hb hby d0_21) ?_
    show Steps p.tables e below (s₁.setTop (mkF m 24 #[.val (.int qi1), .val (.int qi2), .val (.int (((qi1 &&& (255 : Int32))).toUInt32.toUInt16.toUInt32.toInt32)), .val (.int ((((((qi1).toUInt32 >>> ((8 : Int32) &&& 31).toUInt32).toInt32) &&& (255 : Int32))).toUInt32.toUInt16.toUInt32.toInt32)), .unset] [(.int (255 : Int32)), (.int (((qi1).toUInt32 >>> ((16 : Int32) &&& 31).toUInt32).toInt32))])) _
    refine XS.iand X0.here hx rfl (hb hby d0_24) rfl ?_
    show Steps p.tables e below (s₁.setTop (mkF m 25 #[.val (.int qi1), .val (.int qi2), .val (.int (((qi1 &&& (255 : Int32))).toUInt32.toUInt16.toUInt32.toInt32)), .val (.int ((((((qi1).toUInt32 >>> ((8 : Int32) &&& 31).toUInt32).toInt32) &&& (255 : Int32))).toUInt32.toUInt16.toUInt32.toInt32)), .unset] [(.int ((((qi1).toUInt32 >>> ((16 : Int32) &&& 31).toUInt32).toInt32) &&& (255 : Int32)))])) _
    refine XS.i2c X0.here hx rfl (hb hby d0_25) rfl ?_
    show Steps p.tables e below (s₁.setTop (mkF m 26 #[.val (.int qi1), .val (.int qi2), .val (.int (((qi1 &&& (255 : Int32))).toUInt32.toUInt16.toUInt32.toInt32)), .val (.int ((((((qi1).toUInt32 >>> ((8 : Int32) &&& 31).toUInt32).toInt32) &&& (255 : Int32))).toUInt32.toUInt16.toUInt32.toInt32)), .unset] [(.int ((((((qi1).toUInt32 >>> ((16 : Int32) &&& 31).toUInt32).toInt32) &&& (255 : Int32))).toUInt32.toUInt16.toUInt32.toInt32))])) _
    refine XS.istore X0.here hx rfl (hb hby d0_26) rfl (l' := #[.val (.int qi1), .val (.int qi2), .val (.int (((qi1 &&& (255 : Int32))).toUInt32.toUInt16.toUInt32.toInt32)), .val (.int ((((((qi1).toUInt32 >>> ((8 : Int32) &&& 31).toUInt32).toInt32) &&& (255 : Int32))).toUInt32.toUInt16.toUInt32.toInt32)), .val (.int ((((((qi1).toUInt32 >>> ((16 : Int32) &&& 31).toUInt32).toInt32) &&& (255 : Int32))).toUInt32.toUInt16.toUInt32.toInt32))]) rfl ?_
    show Steps p.tables e below (s₁.setTop (mkF m 28 #[.val (.int qi1), .val (.int qi2), .val (.int (((qi1 &&& (255 : Int32))).toUInt32.toUInt16.toUInt32.toInt32)), .val (.int ((((((qi1).toUInt32 >>> ((8 : Int32) &&& 31).toUInt32).toInt32) &&& (255 : Int32))).toUInt32.toUInt16.toUInt32.toInt32)), .val (.int ((((((qi1).toUInt32 >>> ((16 : Int32) &&& 31).toUInt32).toInt32) &&& (255 : Int32))).toUInt32.toUInt16.toUInt32.toInt32))] [])) _
    refine XS.iloadN X0.here hx rfl (hb hby d0_28) rfl ?_
    show Steps p.tables e below (s₁.setTop (mkF m 29 #[.val (.int qi1), .val (.int qi2), .val (.int (((qi1 &&& (255 : Int32))).toUInt32.toUInt16.toUInt32.toInt32)), .val (.int ((((((qi1).toUInt32 >>> ((8 : Int32) &&& 31).toUInt32).toInt32) &&& (255 : Int32))).toUInt32.toUInt16.toUInt32.toInt32)), .val (.int ((((((qi1).toUInt32 >>> ((16 : Int32) &&& 31).toUInt32).toInt32) &&& (255 : Int32))).toUInt32.toUInt16.toUInt32.toInt32))] [(.int qi2)])) _
    refine XS.ifYes X0.here hx rfl (pc0 := 29) (pc' := 43) rfl (hb hby d0_29) rfl (XT.i0_ne_t (hc1 : ¬ (qi2 = (0 : Int32)))) (by decide) (by decide) ?_
    show Steps p.tables e below (s₁.setTop (mkF m 43 #[.val (.int qi1), .val (.int qi2), .val (.int (((qi1 &&& (255 : Int32))).toUInt32.toUInt16.toUInt32.toInt32)), .val (.int ((((((qi1).toUInt32 >>> ((8 : Int32) &&& 31).toUInt32).toInt32) &&& (255 : Int32))).toUInt32.toUInt16.toUInt32.toInt32)), .val (.int ((((((qi1).toUInt32 >>> ((16 : Int32) &&& 31).toUInt32).toInt32) &&& (255 : Int32))).toUInt32.toUInt16.toUInt32.toInt32))] [])) _
    refine XS.iloadN X0.here hx rfl (hb hby d0_43) rfl ?_
    show Steps p.tables e below (s₁.setTop (mkF m 44 #[.val (.int qi1), .val (.int qi2), .val (.int (((qi1 &&& (255 : Int32))).toUInt32.toUInt16.toUInt32.toInt32)), .val (.int ((((((qi1).toUInt32 >>> ((8 : Int32) &&& 31).toUInt32).toInt32) &&& (255 : Int32))).toUInt32.toUInt16.toUInt32.toInt32)), .val (.int ((((((qi1).toUInt32 >>> ((16 : Int32) &&& 31).toUInt32).toInt32) &&& (255 : Int32))).toUInt32.toUInt16.toUInt32.toInt32))] [(.int qi2)])) _
    refine XS.iconst X0.here hx rfl (hb hby d0_44) ?_
    show Steps p.tables e below (s₁.setTop (mkF m 45 #[.val (.int qi1), .val (.int qi2), .val (.int (((qi1 &&& (255 : Int32))).toUInt32.toUInt16.toUInt32.toInt32)), .val (.int ((((((qi1).toUInt32 >>> ((8 : Int32) &&& 31).toUInt32).toInt32) &&& (255 : Int32))).toUInt32.toUInt16.toUInt32.toInt32)), .val (.int ((((((qi1).toUInt32 >>> ((16 : Int32) &&& 31).toUInt32).toInt32) &&& (255 : Int32))).toUInt32.toUInt16.toUInt32.toInt32))] [(.int (1 : Int32)), (.int qi2)])) _
    refine XS.icmpYes X0.here hx rfl (pc0 := 45) (pc' := 63) rfl (hb hby d0_45) rfl (XT.ii_ne_t (hc2 : ¬ (qi2 = (1 : Int32)))) (by decide) (by decide) ?_
    show Steps p.tables e below (s₁.setTop (mkF m 63 #[.val (.int qi1), .val (.int qi2), .val (.int (((qi1 &&& (255 : Int32))).toUInt32.toUInt16.toUInt32.toInt32)), .val (.int ((((((qi1).toUInt32 >>> ((8 : Int32) &&& 31).toUInt32).toInt32) &&& (255 : Int32))).toUInt32.toUInt16.toUInt32.toInt32)), .val (.int ((((((qi1).toUInt32 >>> ((16 : Int32) &&& 31).toUInt32).toInt32) &&& (255 : Int32))).toUInt32.toUInt16.toUInt32.toInt32))] [])) _
    refine XS.iloadN X0.here hx rfl (hb hby d0_63) rfl ?_
    show Steps p.tables e below (s₁.setTop (mkF m 64 #[.val (.int qi1), .val (.int qi2), .val (.int (((qi1 &&& (255 : Int32))).toUInt32.toUInt16.toUInt32.toInt32)), .val (.int ((((((qi1).toUInt32 >>> ((8 : Int32) &&& 31).toUInt32).toInt32) &&& (255 : Int32))).toUInt32.toUInt16.toUInt32.toInt32)), .val (.int ((((((qi1).toUInt32 >>> ((16 : Int32) &&& 31).toUInt32).toInt32) &&& (255 : Int32))).toUInt32.toUInt16.toUInt32.toInt32))] [(.int qi2)])) _
    refine XS.iconst X0.here hx rfl (hb hby d0_64) ?_
    show Steps p.tables e below (s₁.setTop (mkF m 65 #[.val (.int qi1), .val (.int qi2), .val (.int (((qi1 &&& (255 : Int32))).toUInt32.toUInt16.toUInt32.toInt32)), .val (.int ((((((qi1).toUInt32 >>> ((8 : Int32) &&& 31).toUInt32).toInt32) &&& (255 : Int32))).toUInt32.toUInt16.toUInt32.toInt32)), .val (.int ((((((qi1).toUInt32 >>> ((16 : Int32) &&& 31).toUInt32).toInt32) &&& (255 : Int32))).toUInt32.toUInt16.toUInt32.toInt32))] [(.int (2 : Int32)), (.int qi2)])) _
    refine XS.icmpYes X0.here hx rfl (pc0 := 65) (pc' := 87) rfl (hb hby d0_65) rfl (XT.ii_ne_t (hc3 : ¬ (qi2 = (2 : Int32)))) (by decide) (by decide) ?_
    show Steps p.tables e below (s₁.setTop (mkF m 87 #[.val (.int qi1), .val (.int qi2), .val (.int (((qi1 &&& (255 : Int32))).toUInt32.toUInt16.toUInt32.toInt32)), .val (.int ((((((qi1).toUInt32 >>> ((8 : Int32) &&& 31).toUInt32).toInt32) &&& (255 : Int32))).toUInt32.toUInt16.toUInt32.toInt32)), .val (.int ((((((qi1).toUInt32 >>> ((16 : Int32) &&& 31).toUInt32).toInt32) &&& (255 : Int32))).toUInt32.toUInt16.toUInt32.toInt32))] [])) _
    refine st4 _ ?_
    show Steps p.tables e below (T4.setTop (mkF m 90 #[.val (.int qi1), .val (.int qi2), .val (.int (((qi1 &&& (255 : Int32))).toUInt32.toUInt16.toUInt32.toInt32)), .val (.int ((((((qi1).toUInt32 >>> ((8 : Int32) &&& 31).toUInt32).toInt32) &&& (255 : Int32))).toUInt32.toUInt16.toUInt32.toInt32)), .val (.int ((((((qi1).toUInt32 >>> ((16 : Int32) &&& 31).toUInt32).toInt32) &&& (255 : Int32))).toUInt32.toUInt16.toUInt32.toInt32))] [(.ref b4)])) _
    refine XS.dup X4.here hx rfl (hb hby d0_90) rfl rfl ?_
    show Steps p.tables e below (T4.setTop (mkF m 91 #[.val (.int qi1), .val (.int qi2), .val (.int (((qi1 &&& (255 : Int32))).toUInt32.toUInt16.toUInt32.toInt32)), .val (.int ((((((qi1).toUInt32 >>> ((8 : Int32) &&& 31).toUInt32).toInt32) &&& (255 : Int32))).toUInt32.toUInt16.toUInt32.toInt32)), .val (.int ((((((qi1).toUInt32 >>> ((16 : Int32) &&& 31).toUInt32).toInt32) &&& (255 : Int32))).toUInt32.toUInt16.toUInt32.toInt32))] [(.ref b4), (.ref b4)])) _
    refine XS.iconst X4.here hx rfl (hb hby d0_91) ?_
    show Steps p.tables e below (T4.setTop (mkF m 92 #[.val (.int qi1), .val (.int qi2), .val (.int (((qi1 &&& (255 : Int32))).toUInt32.toUInt16.toUInt32.toInt32)), .val (.int ((((((qi1).toUInt32 >>> ((8 : Int32) &&& 31).toUInt32).toInt32) &&& (255 : Int32))).toUInt32.toUInt16.toUInt32.toInt32)), .val (.int ((((((qi1).toUInt32 >>> ((16 : Int32) &&& 31).toUInt32).toInt32) &&& (255 : Int32))).toUInt32.toUInt16.toUInt32.toInt32))] [(.int (3 : Int32)), (.ref b4), (.ref b4)])) _
    refine st8 _ ?_
    show Steps p.tables e below (T8.setTop (mkF m 94 #[.val (.int qi1), .val (.int qi2), .val (.int (((qi1 &&& (255 : Int32))).toUInt32.toUInt16.toUInt32.toInt32)), .val (.int ((((((qi1).toUInt32 >>> ((8 : Int32) &&& 31).toUInt32).toInt32) &&& (255 : Int32))).toUInt32.toUInt16.toUInt32.toInt32)), .val (.int ((((((qi1).toUInt32 >>> ((16 : Int32) &&& 31).toUInt32).toInt32) &&& (255 : Int32))).toUInt32.toUInt16.toUInt32.toInt32))] [(.ref b8), (.ref b4), (.ref b4)])) _
    refine XS.dup X8.here hx rfl (hb hby d0_94) rfl rfl ?_
    show Steps p.tables e below (T8.setTop (mkF m 95 #[.val (.int qi1), .val (.int qi2), .val (.int (((qi1 &&& (255 : Int32))).toUInt32.toUInt16.toUInt32.toInt32)), .val (.int ((((((qi1).toUInt32 >>> ((8 : Int32) &&& 31).toUInt32).toInt32) &&& (255 : Int32))).toUInt32.toUInt16.toUInt32.toInt32)), .val (.int ((((((qi1).toUInt32 >>> ((16 : Int32) &&& 31).toUInt32).toInt32) &&& (255 : Int32))).toUInt32.toUInt16.toUInt32.toInt32))] [(.ref b8), (.ref b8), (.ref b4), (.ref b4)])) _
    refine XS.iconst X8.here hx rfl (hb hby d0_95) ?_
    show Steps p.tables e below (T8.setTop (mkF m 96 #[.val (.int qi1), .val (.int qi2), .val (.int (((qi1 &&& (255 : Int32))).toUInt32.toUInt16.toUInt32.toInt32)), .val (.int ((((((qi1).toUInt32 >>> ((8 : Int32) &&& 31).toUInt32).toInt32) &&& (255 : Int32))).toUInt32.toUInt16.toUInt32.toInt32)), .val (.int ((((((qi1).toUInt32 >>> ((16 : Int32) &&& 31).toUInt32).toInt32) &&& (255 : Int32))).toUInt32.toUInt16.toUInt32.toInt32))] [(.int (0 : Int32)), (.ref b8), (.ref b8), (.ref b4), (.ref b4)])) _
    refine XS.iloadN X8.here hx rfl (hb hby d0_96) rfl ?_
    show Steps p.tables e below (T8.setTop (mkF m 97 #[.val (.int qi1), .val (.int qi2), .val (.int (((qi1 &&& (255 : Int32))).toUInt32.toUInt16.toUInt32.toInt32)), .val (.int ((((((qi1).toUInt32 >>> ((8 : Int32) &&& 31).toUInt32).toInt32) &&& (255 : Int32))).toUInt32.toUInt16.toUInt32.toInt32)), .val (.int ((((((qi1).toUInt32 >>> ((16 : Int32) &&& 31).toUInt32).toInt32) &&& (255 : Int32))).toUInt32.toUInt16.toUInt32.toInt32))] [(.int (((qi1 &&& (255 : Int32))).toUInt32.toUInt16.toUInt32.toInt32)), (.int (0 : Int32)), (.ref b8), (.ref b8), (.ref b4), (.ref b4)])) _
    refine st12 _ ?_
    show Steps p.tables e below (T12.setTop (mkF m 98 #[.val (.int qi1), .val (.int qi2), .val (.int (((qi1 &&& (255 : Int32))).toUInt32.toUInt16.toUInt32.toInt32)), .val (.int ((((((qi1).toUInt32 >>> ((8 : Int32) &&& 31).toUInt32).toInt32) &&& (255 : Int32))).toUInt32.toUInt16.toUInt32.toInt32)), .val (.int ((((((qi1).toUInt32 >>> ((16 : Int32) &&& 31).toUInt32).toInt32) &&& (255 : Int32))).toUInt32.toUInt16.toUInt32.toInt32))] [(.ref b8), (.ref b4), (.ref b4)])) _
    refine XS.dup X12.here hx rfl (hb hby d0_98) rfl rfl ?_
    show Steps p.tables e below (T12.setTop (mkF m 99 #[.val (.int qi1), .val (.int qi2), .val (.int (((qi1 &&& (255 : Int32))).toUInt32.toUInt16.toUInt32.toInt32)), .val (.int ((((((qi1).toUInt32 >>> ((8 : Int32) &&& 31).toUInt32).toInt32) &&& (255 : Int32))).toUInt32.toUInt16.toUInt32.toInt32)), .val (.int ((((((qi1).toUInt32 >>> ((16 : Int32) &&& 31).toUInt32).toInt32) &&& (255 : Int32))).toUInt32.toUInt16.toUInt32.toInt32))] [(.ref b8), (.ref b8), (.ref b4), (.ref b4)])) _
    refine XS.iconst X12.here hx rfl (hb hby d0_99) ?_
    show Steps p.tables e below (T12.setTop (mkF m 100 #[.val (.int qi1), .val (.int qi2), .val (.int (((qi1 &&& (255 : Int32))).toUInt32.toUInt16.toUInt32.toInt32)), .val (.int ((((((qi1).toUInt32 >>> ((8 : Int32) &&& 31).toUInt32).toInt32) &&& (255 : Int32))).toUInt32.toUInt16.toUInt32.toInt32)), .val (.int ((((((qi1).toUInt32 >>> ((16 : Int32) &&& 31).toUInt32).toInt32) &&& (255 : Int32))).toUInt32.toUInt16.toUInt32.toInt32))] [(.int (1 : Int32)), (.ref b8), (.ref b8), (.ref b4), (.ref b4)])) _
    refine XS.iloadN X12.here hx rfl (hb hby d0_100) rfl ?_
    show Steps p.tables e below (T12.setTop (mkF m 101 #[.val (.int qi1), .val (.int qi2), .val (.int (((qi1 &&& (255 : Int32))).toUInt32.toUInt16.toUInt32.toInt32)), .val (.int ((((((qi1).toUInt32 >>> ((8 : Int32) &&& 31).toUInt32).toInt32) &&& (255 : Int32))).toUInt32.toUInt16.toUInt32.toInt32)), .val (.int ((((((qi1).toUInt32 >>> ((16 : Int32) &&& 31).toUInt32).toInt32) &&& (255 : Int32))).toUInt32.toUInt16.toUInt32.toInt32))] [(.int ((((((qi1).toUInt32 >>> ((8 : Int32) &&& 31).toUInt32).toInt32) &&& (255 : Int32))).toUInt32.toUInt16.toUInt32.toInt32)), (.int (1 : Int32)), (.ref b8), (.ref b8), (.ref b4), (.ref b4)])) _
    refine st17 _ ?_
    show Steps p.tables e below (T17.setTop (mkF m 102 #[.val (.int qi1), .val (.int qi2), .val (.int (((qi1 &&& (255 : Int32))).toUInt32.toUInt16.toUInt32.toInt32)), .val (.int ((((((qi1).toUInt32 >>> ((8 : Int32) &&& 31).toUInt32).toInt32) &&& (255 : Int32))).toUInt32.toUInt16.toUInt32.toInt32)), .val (.int ((((((qi1).toUInt32 >>> ((16 : Int32) &&& 31).toUInt32).toInt32) &&& (255 : Int32))).toUInt32.toUInt16.toUInt32.toInt32))] [(.ref b8), (.ref b4), (.ref b4)])) _
    refine XS.dup X17.here hx rfl (hb hby d0_102) rfl rfl ?_
    show Steps p.tables e below (T17.setTop (mkF m 103 #[.val (.int qi1), .val (.int qi2), .val (.int (((qi1 &&& (255 : Int32))).toUInt32.toUInt16.toUInt32.toInt32)), .val (.int ((((((qi1).toUInt32 >>> ((8 : Int32) &&& 31).toUInt32).toInt32) &&& (255 : Int32))).toUInt32.toUInt16.toUInt32.toInt32)), .val (.int ((((((qi1).toUInt32 >>> ((16 : Int32) &&& 31).toUInt32).toInt32) &&& (255 : Int32))).toUInt32.toUInt16.toUInt32.toInt32))] [(.ref b8), (.ref b8), (.ref b4), (.ref b4)])) _
    refine XS.iconst X17.here hx rfl (hb hby d0_103) ?_
    show Steps p.tables e below (T17.setTop (mkF m 104 #[.val (.int qi1), .val (.int qi2), .val (.int (((qi1 &&& (255 : Int32))).toUInt32.toUInt16.toUInt32.toInt32)), .val (.int ((((((qi1).toUInt32 >>> ((8 : Int32) &&& 31).toUInt32).toInt32) &&& (255 : Int32))).toUInt32.toUInt16.toUInt32.toInt32)), .val (.int ((((((qi1).toUInt32 >>> ((16 : Int32) &&& 31).toUInt32).toInt32) &&& (255 : Int32))).toUInt32.toUInt16.toUInt32.toInt32))] [(.int (2 : Int32)), (.ref b8), (.ref b8), (.ref b4), (.ref b4)])) _
    refine XS.iload X17.here hx rfl (hb hby d0_104) rfl ?_
    show Steps p.tables e below (T17.setTop (mkF m 106 #[.val (.int qi1), .val (.int qi2), .val (.int (((qi1 &&& (255 : Int32))).toUInt32.toUInt16.toUInt32.toInt32)), .val (.int ((((((qi1).toUInt32 >>> ((8 : Int32) &&& 31).toUInt32).toInt32) &&& (255 : Int32))).toUInt32.toUInt16.toUInt32.toInt32)), .val (.int ((((((qi1).toUInt32 >>> ((16 : Int32) &&& 31).toUInt32).toInt32) &&& (255 : Int32))).toUInt32.toUInt16.toUInt32.toInt32))] [(.int ((((((qi1).toUInt32 >>> ((16 : Int32) &&& 31).toUInt32).toInt32) &&& (255 : Int32))).toUInt32.toUInt16.toUInt32.toInt32)), (.int (2 : Int32)), (.ref b8), (.ref b8), (.ref b4), (.ref b4)])) _
    refine st21 _ ?_
    show Steps p.tables e below (T21.setTop (mkF m 107 #[.val (.int qi1), .val (.int qi2), .val (.int (((qi1 &&& (255 : Int32))).toUInt32.toUInt16.toUInt32.toInt32)), .val (.int ((((((qi1).toUInt32 >>> ((8 : Int32) &&& 31).toUInt32).toInt32) &&& (255 : Int32))).toUInt32.toUInt16.toUInt32.toInt32)), .val (.int ((((((qi1).toUInt32 >>> ((16 : Int32) &&& 31).toUInt32).toInt32) &&& (255 : Int32))).toUInt32.toUInt16.toUInt32.toInt32))] [(.ref b8), (.ref b4), (.ref b4)])) _
    refine st24.trans ?_
    show Steps p.tables e below (T24.setTop (mkF m 110 #[.val (.int qi1), .val (.int qi2), .val (.int (((qi1 &&& (255 : Int32))).toUInt32.toUInt16.toUInt32.toInt32)), .val (.int ((((((qi1).toUInt32 >>> ((8 : Int32) &&& 31).toUInt32).toInt32) &&& (255 : Int32))).toUInt32.toUInt16.toUInt32.toInt32)), .val (.int ((((((qi1).toUInt32 >>> ((16 : Int32) &&& 31).toUInt32).toInt32) &&& (255 : Int32))).toUInt32.toUInt16.toUInt32.toInt32))] [(.ref b4)])) _
    exact retOut X24 hx Bd.returns rfl (Or.inr (Or.inr (Or.inr (Or.inr ⟨rfl, rfl, rfl⟩)))) (hb hby d0_110) hr
  · show Q13 Z G1 qi1 qi2 h0 n0 _ T24.heap _
    exact ⟨b4, b42, c42_, rfl, N24, K43, sz_b4, sz_b42, (Ne.symm ne42), E44_, C24q, V42_, A42_⟩
def Q0 (n0 : Nat) (v : Option Value) (h : Heap) (L : List Loc) : Prop := v = some (.int 1) ∧ Fr n0 L
set_option maxRecDepth 65536 in
set_option maxHeartbeats 40000000 in
theorem rm0 (l : Launch) (Z : State) (a0 : Array Value) (hw : ∀ d ∈ tables_1, d.before a0 Z = true) (ws : List Jvm.Cond) (g_HTTP_STATUS : Addr) (G1 : Int32) (p1 : Int32) (p2 : Int32) (p3 : Int32) (h0 : Heap) (n0 : Nat) (X00 : Old Z n0 h0) (hEN : OwnEN Z g_HTTP_STATUS) (O2 : Sta Z Z.heap "java/lang/String" "COMPACT_STRINGS" "Z" (.int G1)) (P5 : ¬ (G1 = (0 : Int32))) :
    MetFree l x (head1 (Jvm.Cond.code x code maxLocals ret :: ws) room_1) (fun a U => a = #[(.int p1), (.int p2), (.int p3)] ∧ Z.Warmed39 U.vm ∧ U.heap = h0 ∧ CHv Z consts_1 U.vm h0) (fun _ _ _ _ _ => True) (fun _ U o U' => ∃ v L, o = .returned v ∧ Q0 n0 v U'.heap L ∧ CHr Z consts_1 U.vm U.heap U'.vm U'.heap ∧ ReturnedEndW U o U' L room_1.cells room_1.slots) := by
  refine MetFree.of_bodySF (plainFor_of_name pn0) hisR ?_
  intro p e s m args below meth c s₁ Bd hml0 hP hK
  obtain ⟨rfl, hZ, hh, hC0⟩ := hP
  have hx := Bd.exec
  have hby := Bd.bytes
  have hml : c.maxLocals = 7 := hml0
  have hown : s.vm.findClass "com/example/foreground_courier/foregroundcourier/FailureHttpStatusPinLaw" = some m.cls := findClass_of_methodNamed Bd.named
  have hnm := (name_of_methodNamed Bd.named Bd.method).1
  have X0 : Stand p l e room_1 (s.setVm s.vm) m #[(.int p1), (.int p2), (.int p3)] below meth c s₁ [] 0 0 := Stand.of_body Bd
  have e0 : s₁.heap = h0 := by rw [← hh, Bd.state]; rfl
  have N0 := Fr.nil n0
  have pre0 : ∀ t, Steps p.tables e below (s₁.setTop (mkF m 0 #[.val (.int p1), .val (.int p2), .val (.int p3), .unset, .unset, .unset, .unset] [])) t → Steps p.tables e below (s₁.setTop (entryFrame m #[(.int p1), (.int p2), (.int p3)] maxLocals)) t := fun t k => castTop (ef0 m p1 p2 p3) k
  have hS0 : s.Since s.vm h0.size := (State.WarmedH.refl s).since _
  have hk0 : h0.size ≤ h0.size := Nat.le_refl _
  have hR0 : CHr Z consts_1 s.vm h0 s.vm h0 := CHr.refl hC0
  have hEL := own_EW hw
  have hwS := own_wS hw
  have pr2 : ∀ t, Steps p.tables e below (s₁.setTop (mkF m 6 #[.val (.int p1), .val (.int p2), .val (.int p3), .val (.int (p3 &&& (3 : Int32))), .unset, .unset, .unset] [(.int (p3 &&& (3 : Int32))), (.int p2)])) t → Steps p.tables e below (s₁.setTop (entryFrame m #[(.int p1), (.int p2), (.int p3)] maxLocals)) t := fun t k => pre0 t (by
    show Steps p.tables e below (s₁.setTop (mkF m 0 #[.val (.int p1), .val (.int p2), .val (.int p3), .unset, .unset, .unset, .unset] [])) _
    refine XS.iloadN X0.here hx rfl (hb hby at_0) rfl ?_
    show Steps p.tables e below (s₁.setTop (mkF m 1 #[.val (.int p1), .val (.int p2), .val (.int p3), .unset, .unset, .unset, .unset] [(.int p3)])) _
    refine XS.iconst X0.here hx rfl (hb hby at_1) ?_
    show Steps p.tables e below (s₁.setTop (mkF m 2 #[.val (.int p1), .val (.int p2), .val (.int p3), .unset, .unset, .unset, .unset] [(.int (3 : Int32)), (.int p3)])) _
    refine XS.iand X0.here hx rfl (hb hby at_2) rfl ?_
    show Steps p.tables e below (s₁.setTop (mkF m 3 #[.val (.int p1), .val (.int p2), .val (.int p3), .unset, .unset, .unset, .unset] [(.int (p3 &&& (3 : Int32)))])) _
    refine XS.istoreN X0.here hx rfl (hb hby at_3) rfl (l' := #[.val (.int p1), .val (.int p2), .val (.int p3), .val (.int (p3 &&& (3 : Int32))), .unset, .unset, .unset]) rfl ?_
    show Steps p.tables e below (s₁.setTop (mkF m 4 #[.val (.int p1), .val (.int p2), .val (.int p3), .val (.int (p3 &&& (3 : Int32))), .unset, .unset, .unset] [])) _
    refine XS.iloadN X0.here hx rfl (hb hby at_4) rfl ?_
    show Steps p.tables e below (s₁.setTop (mkF m 5 #[.val (.int p1), .val (.int p2), .val (.int p3), .val (.int (p3 &&& (3 : Int32))), .unset, .unset, .unset] [(.int p2)])) _
    refine XS.iloadN X0.here hx rfl (hb hby at_5) rfl ?_
    exact k)
  by_cases hc3 : (p3 &&& (3 : Int32)) = (0 : Int32)
  ·
    skip
    obtain ⟨_, _, ⟨T4, L4, k4, n4⟩, -, X4, hS4, hgr4, ⟨Lc4, hQ4, l4, y4, z4, CR4⟩, st4⟩ := callSS X0 hx (y := (⟨"com/example/foreground_courier/foregroundcourier/FailureHttpStatusPinLaw", "makeBody", "(II)Ljava/lang/String;"⟩ : MethodName)) hown (mvT hZ (hw _ (List.mem_of_getElem? (i := 0) rfl))) (mvT hZ (hw _ (List.mem_of_getElem? (i := 1) rfl))) (mvT hZ (hw _ (List.mem_of_getElem? (i := 2) rfl))) (mvT hZ (hw _ (List.mem_of_getElem? (i := 3) rfl))) (by decide) (backOfSH (W := 0) (EL := consts_1) (s := s) (rm3 l Z a0 hw []  p2 (p3 &&& (3 : Int32)) h0 n0 X00 hc3) hZ (hw _ (List.mem_of_getElem? (i := 3) rfl)) (hw _ (List.mem_of_getElem? (i := 2) rfl)) (by decide) (by decide) hEL hC0) (g := (mkF m 6 #[.val (.int p1), .val (.int p2), .val (.int p3), .val (.int (p3 &&& (3 : Int32))), .unset, .unset, .unset] [(.int (p3 &&& (3 : Int32))), (.int p2)])) rfl (by rw [hml]; rfl) (argsL := [(.int p2), (.int (p3 &&& (3 : Int32)))]) (rest := []) (lenOf pd2 rfl) rfl (by show 2 * 0 + _ ≤ _; exact Nat.le_of_eq rfl) (hb hby at_6) (fun _ _ => ⟨rfl, e0, (by decide : 0 + 6 ≤ _), (by decide : 0 + 12 ≤ _)⟩)
    dsimp only [Pt.U, Pt.locs, Pt.cells, Pt.slots] at X4 l4 y4 z4 st4 hQ4 CR4 hS4 hgr4
    subst l4 y4 z4
    obtain ⟨b5, b6, c7_, rfl, N4q, K4q, w8, w9, w10, w11, w12⟩ := hQ4
    have N4 := Fr.app N0 N4q
    have hS4_ : s.Since T4.vm T4.heap.size := hS0.trans hS4 (Nat.le_trans hk0 (show h0.size ≤ T4.heap.size from (e0 ▸ hgr4)))
    have hZ4 : Z.Warmed39 T4.vm := State.Warmed39.trans (t := s.setVm s.vm) hZ hS4.1
    have ho4 : T4.vm.findClass "com/example/foreground_courier/foregroundcourier/FailureHttpStatusPinLaw" = some m.cls := by rw [hS4.1.alike.findClass]; exact hown
    have X4_ : Stand p l e room_1 (s.setVm T4.vm) m #[(.int p1), (.int p2), (.int p3)] below meth c T4 _ _ _ := X4
    have hk4 : T4.heap.size ≤ T4.heap.size := Nat.le_refl _
    have K13 : Keep h0 T4.heap [] := (Keep.refl h0 []).trans K4q (fun x q => nomatch q)
    have R15 : CHr Z consts_1 s.vm h0 T4.vm T4.heap := hR0.trans CR4
    have O17 : Old Z n0 T4.heap := X00.keep K4q all0
    obtain ⟨_, _, ⟨T16, L16, k16, n16⟩, -, X16, ⟨Lc16, hQ16, l16, y16, z16⟩, st16⟩ := Jvm.LawKit.callS X4_ hx (y := (⟨"com/example/foreground_courier/foregroundcourier/Failure", "httpStatus", "(ILjava/lang/String;)Lcom/example/foreground_courier/foregroundcourier/Failure;"⟩ : MethodName)) ho4 (mvT hZ4 (hw _ (List.mem_of_getElem? (i := 34) rfl))) (mvT hZ4 (hw _ (List.mem_of_getElem? (i := 35) rfl))) (mvT hZ4 (hw _ (List.mem_of_getElem? (i := 36) rfl))) (mvT hZ4 (hw _ (List.mem_of_getElem? (i := 37) rfl))) (by decide) (backOf (s := s.setVm T4.vm) (W := 0) (rm5 l Z a0 hw [] g_HTTP_STATUS p1 b5 T4.heap n0 O17 hEN) hZ4 (hw _ (List.mem_of_getElem? (i := 37) rfl)) (hw _ (List.mem_of_getElem? (i := 36) rfl)) (by decide) (by decide)) (g := (mkF m 14 #[.val (.int p1), .val (.int p2), .val (.int p3), .val (.int (p3 &&& (3 : Int32))), .val (.ref b5), .unset, .unset] [(.ref b5), (.int p1)])) rfl (by rw [hml]; rfl) (argsL := [(.int p1), (.ref b5)]) (rest := []) (lenOf pd4 rfl) rfl (by show 2 * 0 + _ ≤ _; exact Nat.le_of_eq rfl) (hb hby at_14) (fun _ _ => ⟨rfl, rfl, (by decide : 6 + 1 ≤ _), (by decide : 12 + 4 ≤ _)⟩)
    dsimp only [Pt.U, Pt.locs, Pt.cells, Pt.slots] at X16 l16 y16 z16 st16 hQ16
    subst l16 y16 z16
    obtain ⟨b18, rfl, N16q, K16q, w19, w20, w21, w22, w23, w24⟩ := hQ16
    have N16 := Fr.app N4 N16q
    have K25 : Keep h0 T16.heap [] := K13.trans K16q (fun x q => nomatch q)
    have C26 : CHv Z consts_1 T4.vm T16.heap := CHv.keep K16q sf0 CR4.1
    have R27 : CHr Z consts_1 s.vm h0 T4.vm T16.heap := R15.trans (CHr.keep K16q sf0 CR4.1)
    have O29 : Old Z n0 T16.heap := O17.keep K16q all0
    obtain ⟨cq28, kq28, q28a, q28b, q28c⟩ := isOf hZ4 rfl w20
    obtain ⟨_, _, ⟨T28, L28, k28, n28⟩, -, X28, ⟨Lc28, hQ28, l28, y28, z28⟩, st28⟩ := X16.virtualBack hx (y := (⟨"com/example/foreground_courier/foregroundcourier/Failure", "body", "()Ljava/lang/String;"⟩ : MethodName)) (z := (⟨"com/example/foreground_courier/foregroundcourier/Failure", "body", "()Ljava/lang/String;"⟩ : MethodName)) ho4 (mvT hZ4 (hw _ (List.mem_of_getElem? (i := 55) rfl))) (mvT hZ4 (hw _ (List.mem_of_getElem? (i := 56) rfl))) (notFace_of_selects (args := #[]) (mvT hZ4 (hw _ (List.mem_of_getElem? (i := 58) rfl)))) (mvT hZ4 (hw _ (List.mem_of_getElem? (i := 58) rfl))) (mvT hZ4 (hw _ (List.mem_of_getElem? (i := 57) rfl))) (by decide) (backOf (s := s.setVm T4.vm) (W := 0) (rm6 l Z a0 hw []  b18 b5 T16.heap n0 O29 w23) hZ4 (hw _ (List.mem_of_getElem? (i := 59) rfl)) (hw _ (List.mem_of_getElem? (i := 36) rfl)) (by decide) (by decide)) q28a q28c (g := (mkF m 28 #[.val (.int p1), .val (.int p2), .val (.int p3), .val (.int (p3 &&& (3 : Int32))), .val (.ref b5), .val (.ref b18), .unset] [(.ref b18)])) rfl (by rw [hml]; rfl) (Steps.refl _) (argsL := []) (rest := []) (lenOf pd5 rfl) rfl (by show 2 * 0 + _ ≤ _; exact Nat.le_of_eq rfl) (hb hby at_28) (fun _ _ => ⟨rfl, rfl, (by decide : 7 + 0 ≤ _), (by decide : 16 + 0 ≤ _)⟩)
    dsimp only [Pt.U, Pt.locs, Pt.cells, Pt.slots] at X28 l28 y28 z28 st28 hQ28
    subst l28 y28 z28
    obtain ⟨rfl, N28q, e28q⟩ := hQ28
    have N28 := Fr.app N16 N28q
    obtain ⟨cq30, kq30, q30a, q30b, q30c⟩ := isOf hZ4 e28q w20
    obtain ⟨_, _, ⟨T30, L30, k30, n30⟩, -, X30, ⟨Lc30, hQ30, l30, y30, z30⟩, st30⟩ := X28.virtualBack hx (y := (⟨"com/example/foreground_courier/foregroundcourier/Failure", "kind", "()Lcom/example/foreground_courier/foregroundcourier/Failure$Kind;"⟩ : MethodName)) (z := (⟨"com/example/foreground_courier/foregroundcourier/Failure", "kind", "()Lcom/example/foreground_courier/foregroundcourier/Failure$Kind;"⟩ : MethodName)) ho4 (mvT hZ4 (hw _ (List.mem_of_getElem? (i := 60) rfl))) (mvT hZ4 (hw _ (List.mem_of_getElem? (i := 61) rfl))) (notFace_of_selects (args := #[]) (mvT hZ4 (hw _ (List.mem_of_getElem? (i := 63) rfl)))) (mvT hZ4 (hw _ (List.mem_of_getElem? (i := 63) rfl))) (mvT hZ4 (hw _ (List.mem_of_getElem? (i := 62) rfl))) (by decide) (backOf (s := s.setVm T4.vm) (W := 0) (rm7 l Z a0 hw [] g_HTTP_STATUS b18 T16.heap n0 O29 hEN w21) hZ4 (hw _ (List.mem_of_getElem? (i := 64) rfl)) (hw _ (List.mem_of_getElem? (i := 36) rfl)) (by decide) (by decide)) q30a q30c (g := (mkF m 35 #[.val (.int p1), .val (.int p2), .val (.int p3), .val (.int (p3 &&& (3 : Int32))), .val (.ref b5), .val (.ref b18), .val (.ref b5)] [(.ref b18)])) rfl (by rw [hml]; rfl) (Steps.refl _) (argsL := []) (rest := []) (lenOf pd6 rfl) rfl (by show 2 * 0 + _ ≤ _; exact Nat.le_of_eq rfl) (hb hby at_35) (fun _ _ => ⟨rfl, e28q, (by decide : 7 + 0 ≤ _), (by decide : 16 + 0 ≤ _)⟩)
    dsimp only [Pt.U, Pt.locs, Pt.cells, Pt.slots] at X30 l30 y30 z30 st30 hQ30
    subst l30 y30 z30
    obtain ⟨rfl, N30q, e30q⟩ := hQ30
    have N30 := Fr.app N28 N30q
    obtain ⟨T31, X31, e31, st31⟩ := getS2 X30 hx hZ4 ho4 (host := "") (Or.inl (hw _ (List.mem_of_getElem? (i := 65) rfl))) Via.refl e30q (hEN.1.ext O29.2) (g := (mkF m 38 #[.val (.int p1), .val (.int p2), .val (.int p3), .val (.int (p3 &&& (3 : Int32))), .val (.ref b5), .val (.ref b18), .val (.ref b5)] [(.ref g_HTTP_STATUS)])) rfl (hb hby at_38)
    obtain ⟨cq32, kq32, q32a, q32b, q32c⟩ := isOf hZ4 e31 w20
    obtain ⟨_, _, ⟨T32, L32, k32, n32⟩, -, X32, ⟨Lc32, hQ32, l32, y32, z32⟩, st32⟩ := X31.virtualBack hx (y := (⟨"com/example/foreground_courier/foregroundcourier/Failure", "statusCode", "()I"⟩ : MethodName)) (z := (⟨"com/example/foreground_courier/foregroundcourier/Failure", "statusCode", "()I"⟩ : MethodName)) ho4 (mvT hZ4 (hw _ (List.mem_of_getElem? (i := 66) rfl))) (mvT hZ4 (hw _ (List.mem_of_getElem? (i := 67) rfl))) (notFace_of_selects (args := #[]) (mvT hZ4 (hw _ (List.mem_of_getElem? (i := 69) rfl)))) (mvT hZ4 (hw _ (List.mem_of_getElem? (i := 69) rfl))) (mvT hZ4 (hw _ (List.mem_of_getElem? (i := 68) rfl))) (by decide) (backOf (s := s.setVm T4.vm) (W := 0) (rm8 l Z a0 hw []  b18 p1 T16.heap n0 O29 w22) hZ4 (hw _ (List.mem_of_getElem? (i := 70) rfl)) (hw _ (List.mem_of_getElem? (i := 36) rfl)) (by decide) (by decide)) q32a q32c (g := (mkF m 46 #[.val (.int p1), .val (.int p2), .val (.int p3), .val (.int (p3 &&& (3 : Int32))), .val (.ref b5), .val (.ref b18), .val (.ref b5)] [(.ref b18)])) rfl (by rw [hml]; rfl) (Steps.refl _) (argsL := []) (rest := []) (lenOf pd7 rfl) rfl (by show 2 * 0 + _ ≤ _; exact Nat.le_of_eq rfl) (hb hby at_46) (fun _ _ => ⟨rfl, e31, (by decide : 7 + 0 ≤ _), (by decide : 16 + 0 ≤ _)⟩)
    dsimp only [Pt.U, Pt.locs, Pt.cells, Pt.slots] at X32 l32 y32 z32 st32 hQ32
    subst l32 y32 z32
    obtain ⟨rfl, N32q, e32q⟩ := hQ32
    have N32 := Fr.app N30 N32q
    have hp34 : ∀ c ∈ ([] : List Int32), ¬ c < 0 ∧ ¬ (255 : Int32) < c := (fun _ q => nomatch q)
    have E35_ : Exa Z T16.heap b5 "java/lang/String" := w9.keep K16q
    have F36_ : Fld Z T16.heap b5 "java/lang/String" "value" "[B" (.ref b6) := w10.keep K16q nin0
    have F37_ : Fld Z T16.heap b5 "java/lang/String" "coder" "B" (.int (0 : Int32)) := w11.keep K16q nin0
    have A38_ : Arv Z T16.heap b6 c7_ .byte (0 : Int32) [] (.int 0) := w12.keep K16q nin0
    have hcd39 : StrChars.Road.CodA ([] : List Int32) 0 (0 : Int32) [] := StrChars.Road.codOf (n := 0) rfl (fun x hx => (hp34 x hx).2)
    have hbd39 : ∀ x ∈ ([] : List Int32), ¬ x < 0 ∧ ¬ (65535 : Int32) < x := own_up _ hp34
    obtain ⟨cq33, kq33, q33a, q33b, q33c⟩ := isOf hZ4 e32q E35_
    obtain ⟨_, _, ⟨T33, L33, k33, n33⟩, -, X33, ⟨Lc33, hQ33, l33, y33, z33⟩, st33⟩ := X32.virtualBack hx (y := (⟨"java/lang/String", "length", "()I"⟩ : MethodName)) (z := (⟨"java/lang/String", "length", "()I"⟩ : MethodName)) ho4 (mvT hZ4 (hw _ (List.mem_of_getElem? (i := 71) rfl))) (mvT hZ4 (hw _ (List.mem_of_getElem? (i := 72) rfl))) (notFace_of_selects (args := #[]) (mvT hZ4 (hw _ (List.mem_of_getElem? (i := 74) rfl)))) (mvT hZ4 (hw _ (List.mem_of_getElem? (i := 74) rfl))) (mvT hZ4 (hw _ (List.mem_of_getElem? (i := 73) rfl))) (by decide) (StrChars.Road.lenW (s := s.setVm T4.vm) (W := 0) hZ4 (own_wl hw) (kI := 4) (hw _ (List.mem_of_getElem? (i := 5) rfl)) E35_ F36_ F37_ A38_ hcd39 hbd39 (O2.ext O29.2) P5 (Nat.le_of_ble_eq_true rfl) (by decide) (by decide)) q33a q33c (g := (mkF m 60 #[.val (.int p1), .val (.int p2), .val (.int p3), .val (.int (p3 &&& (3 : Int32))), .val (.ref b5), .val (.ref b18), .val (.ref b5)] [(.ref b5)])) rfl (by rw [hml]; rfl) (Steps.refl _) (argsL := []) (rest := []) (lenOf pd7 rfl) rfl (by show 2 * 0 + _ ≤ _; exact Nat.le_of_eq rfl) (hb hby at_60) (fun _ _ => ⟨rfl, e32q, (by decide : 7 + 0 ≤ _), (by decide : 16 + 0 ≤ _)⟩)
    dsimp only [Pt.U, Pt.locs, Pt.cells, Pt.slots] at X33 l33 y33 z33 st33 hQ33
    subst l33 y33 z33
    obtain ⟨rfl, rfl, e33q⟩ := hQ33
    have N33 := Fr.app N32 (Fr.nil n0)
    obtain ⟨cq40, kq40, q40a, q40b, q40c⟩ := isOf hZ4 e33q E35_
    obtain ⟨_, _, ⟨T40, L40, k40, n40⟩, -, X40, ⟨Lc40, hQ40, l40, y40, z40⟩, st40⟩ := X33.virtualBack hx (y := (⟨"java/lang/String", "equals", "(Ljava/lang/Object;)Z"⟩ : MethodName)) (z := (⟨"java/lang/String", "equals", "(Ljava/lang/Object;)Z"⟩ : MethodName)) ho4 (mvT hZ4 (hw _ (List.mem_of_getElem? (i := 81) rfl))) (mvT hZ4 (hw _ (List.mem_of_getElem? (i := 82) rfl))) (notFace_of_selects (args := #[]) (mvT hZ4 (hw _ (List.mem_of_getElem? (i := 84) rfl)))) (mvT hZ4 (hw _ (List.mem_of_getElem? (i := 84) rfl))) (mvT hZ4 (hw _ (List.mem_of_getElem? (i := 83) rfl))) (by decide) (backOf (s := s.setVm T4.vm) (W := 0) (rm9 l Z a0 hw []  b5 T16.heap n0 O29 ) hZ4 (hw _ (List.mem_of_getElem? (i := 85) rfl)) (hw _ (List.mem_of_getElem? (i := 6) rfl)) (by decide) (by decide)) q40a q40c (g := (mkF m 71 #[.val (.int p1), .val (.int p2), .val (.int p3), .val (.int (p3 &&& (3 : Int32))), .val (.ref b5), .val (.ref b18), .val (.ref b5)] [(.ref b5), (.ref b5)])) rfl (by rw [hml]; rfl) (Steps.refl _) (argsL := [(.ref b5)]) (rest := []) (lenOf pd8 rfl) rfl (by show 2 * 0 + _ ≤ _; exact Nat.le_of_eq rfl) (hb hby at_71) (fun _ _ => ⟨rfl, e33q, (by decide : 7 + 0 ≤ _), (by decide : 16 + 0 ≤ _)⟩)
    dsimp only [Pt.U, Pt.locs, Pt.cells, Pt.slots] at X40 l40 y40 z40 st40 hQ40
    subst l40 y40 z40
    obtain ⟨rfl, N40q, e40q⟩ := hQ40
    have N40 := Fr.app N33 N40q
    obtain ⟨cq41, kq41, q41a, q41b, q41c⟩ := isOf hZ4 e40q w20
    obtain ⟨_, _, ⟨T41, L41, k41, n41⟩, -, X41, ⟨Lc41, hQ41, l41, y41, z41⟩, st41⟩ := X40.virtualBack hx (y := (⟨"com/example/foreground_courier/foregroundcourier/Failure", "cause", "()Ljava/lang/Throwable;"⟩ : MethodName)) (z := (⟨"com/example/foreground_courier/foregroundcourier/Failure", "cause", "()Ljava/lang/Throwable;"⟩ : MethodName)) ho4 (mvT hZ4 (hw _ (List.mem_of_getElem? (i := 86) rfl))) (mvT hZ4 (hw _ (List.mem_of_getElem? (i := 87) rfl))) (notFace_of_selects (args := #[]) (mvT hZ4 (hw _ (List.mem_of_getElem? (i := 89) rfl)))) (mvT hZ4 (hw _ (List.mem_of_getElem? (i := 89) rfl))) (mvT hZ4 (hw _ (List.mem_of_getElem? (i := 88) rfl))) (by decide) (backOf (s := s.setVm T4.vm) (W := 0) (rm10 l Z a0 hw []  b18 T16.heap n0 O29 w24) hZ4 (hw _ (List.mem_of_getElem? (i := 90) rfl)) (hw _ (List.mem_of_getElem? (i := 36) rfl)) (by decide) (by decide)) q41a q41c (g := (mkF m 79 #[.val (.int p1), .val (.int p2), .val (.int p3), .val (.int (p3 &&& (3 : Int32))), .val (.ref b5), .val (.ref b18), .val (.ref b5)] [(.ref b18)])) rfl (by rw [hml]; rfl) (Steps.refl _) (argsL := []) (rest := []) (lenOf pd9 rfl) rfl (by show 2 * 0 + _ ≤ _; exact Nat.le_of_eq rfl) (hb hby at_79) (fun _ _ => ⟨rfl, e40q, (by decide : 7 + 0 ≤ _), (by decide : 16 + 0 ≤ _)⟩)
    dsimp only [Pt.U, Pt.locs, Pt.cells, Pt.slots] at X41 l41 y41 z41 st41 hQ41
    subst l41 y41 z41
    obtain ⟨rfl, N41q, e41q⟩ := hQ41
    have N41 := Fr.app N40 N41q
    have hk42' : _ ≤ T16.heap.size := (Nat.le_trans hk4 K16q.1)
    obtain ⟨fs, hr, hrun, hended, hEnd⟩ := X41.leaveW (s := s) hS4_ (by rw [show T41.heap = T16.heap from e41q]; exact hk42') (v := (some (.int (1 : Int32)))) (fun h => by rw [Bd.returns] at h; cases h)
    have hCe : CHr Z consts_1 s.vm h0 T41.vm T16.heap := R27.trans (CHv.at X41 hZ4 hEL C26)
    refine ⟨_, _, pr2 _ ?_, hrun, hended, _, _, rfl, ?_, ?_, hEnd.1, hEnd.2.1, hEnd.2.2.1, hEnd.2.2.2.mono (by decide) (by decide)⟩
    · show Steps p.tables e below (s₁.setTop (mkF m 6 #[.val (.int p1), .val (.int p2), .val (.int p3), .val (.int (p3 &&& (3 : Int32))), .unset, .unset, .unset] [(.int (p3 &&& (3 : Int32))), (.int p2)])) _
      refine st4.trans ?_
      show Steps p.tables e below (T4.setTop (mkF m 9 #[.val (.int p1), .val (.int p2), .val (.int p3), .val (.int (p3 &&& (3 : Int32))), .unset, .unset, .unset] [(.ref b5)])) _
      refine XS.astore X4_.here hx rfl (hb hby at_9) rfl rfl (l' := #[.val (.int p1), .val (.int p2), .val (.int p3), .val (.int (p3 &&& (3 : Int32))), .val (.ref b5), .unset, .unset]) rfl ?_
      show Steps p.tables e below (T4.setTop (mkF m 11 #[.val (.int p1), .val (.int p2), .val (.int p3), .val (.int (p3 &&& (3 : Int32))), .val (.ref b5), .unset, .unset] [])) _
      refine XS.iloadN X4_.here hx rfl (hb hby at_11) rfl ?_
      show Steps p.tables e below (T4.setTop (mkF m 12 #[.val (.int p1), .val (.int p2), .val (.int p3), .val (.int (p3 &&& (3 : Int32))), .val (.ref b5), .unset, .unset] [(.int p1)])) _
      refine XS.aload X4_.here hx rfl (hb hby at_12) rfl rfl ?_
      show Steps p.tables e below (T4.setTop (mkF m 14 #[.val (.int p1), .val (.int p2), .val (.int p3), .val (.int (p3 &&& (3 : Int32))), .val (.ref b5), .unset, .unset] [(.ref b5), (.int p1)])) _
      refine st16 _ ?_
      show Steps p.tables e below (T16.setTop (mkF m 17 #[.val (.int p1), .val (.int p2), .val (.int p3), .val (.int (p3 &&& (3 : Int32))), .val (.ref b5), .unset, .unset] [(.ref b18)])) _
      refine XS.astore X16.here hx rfl (hb hby at_17) rfl rfl (l' := #[.val (.int p1), .val (.int p2), .val (.int p3), .val (.int (p3 &&& (3 : Int32))), .val (.ref b5), .val (.ref b18), .unset]) rfl ?_
      show Steps p.tables e below (T16.setTop (mkF m 19 #[.val (.int p1), .val (.int p2), .val (.int p3), .val (.int (p3 &&& (3 : Int32))), .val (.ref b5), .val (.ref b18), .unset] [])) _
      refine XS.aload X16.here hx rfl (hb hby at_19) rfl rfl ?_
      show Steps p.tables e below (T16.setTop (mkF m 21 #[.val (.int p1), .val (.int p2), .val (.int p3), .val (.int (p3 &&& (3 : Int32))), .val (.ref b5), .val (.ref b18), .unset] [(.ref b18)])) _
      refine XS.ifnonnullYes X16.here hx rfl (pc0 := 21) (pc' := 26) rfl (hb hby at_21) rfl (by decide) (by decide) ?_
      show Steps p.tables e below (T16.setTop (mkF m 26 #[.val (.int p1), .val (.int p2), .val (.int p3), .val (.int (p3 &&& (3 : Int32))), .val (.ref b5), .val (.ref b18), .unset] [])) _
      refine XS.aload X16.here hx rfl (hb hby at_26) rfl rfl ?_
      show Steps p.tables e below (T16.setTop (mkF m 28 #[.val (.int p1), .val (.int p2), .val (.int p3), .val (.int (p3 &&& (3 : Int32))), .val (.ref b5), .val (.ref b18), .unset] [(.ref b18)])) _
      refine st28.trans ?_
      show Steps p.tables e below (T28.setTop (mkF m 31 #[.val (.int p1), .val (.int p2), .val (.int p3), .val (.int (p3 &&& (3 : Int32))), .val (.ref b5), .val (.ref b18), .unset] [(.ref b5)])) _
      refine XS.astore X28.here hx rfl (hb hby at_31) rfl rfl (l' := #[.val (.int p1), .val (.int p2), .val (.int p3), .val (.int (p3 &&& (3 : Int32))), .val (.ref b5), .val (.ref b18), .val (.ref b5)]) rfl ?_
      show Steps p.tables e below (T28.setTop (mkF m 33 #[.val (.int p1), .val (.int p2), .val (.int p3), .val (.int (p3 &&& (3 : Int32))), .val (.ref b5), .val (.ref b18), .val (.ref b5)] [])) _
      refine XS.aload X28.here hx rfl (hb hby at_33) rfl rfl ?_
      show Steps p.tables e below (T28.setTop (mkF m 35 #[.val (.int p1), .val (.int p2), .val (.int p3), .val (.int (p3 &&& (3 : Int32))), .val (.ref b5), .val (.ref b18), .val (.ref b5)] [(.ref b18)])) _
      refine st30.trans ?_
      show Steps p.tables e below (T30.setTop (mkF m 38 #[.val (.int p1), .val (.int p2), .val (.int p3), .val (.int (p3 &&& (3 : Int32))), .val (.ref b5), .val (.ref b18), .val (.ref b5)] [(.ref g_HTTP_STATUS)])) _
      refine st31 _ ?_
      show Steps p.tables e below (T31.setTop (mkF m 41 #[.val (.int p1), .val (.int p2), .val (.int p3), .val (.int (p3 &&& (3 : Int32))), .val (.ref b5), .val (.ref b18), .val (.ref b5)] [(.ref g_HTTP_STATUS), (.ref g_HTTP_STATUS)])) _
      refine Jvm.RoadKit.acmp (g := (mkF m 41 #[.val (.int p1), .val (.int p2), .val (.int p3), .val (.int (p3 &&& (3 : Int32))), .val (.ref b5), .val (.ref b18), .val (.ref b5)] [(.ref g_HTTP_STATUS), (.ref g_HTTP_STATUS)])) X31 hx rfl rfl rfl (pc0 := 41) (pc' := 44) (same := true) rfl (hb hby at_41) rfl (decide_eq_true rfl) (by decide) (by decide) ?_
      show Steps p.tables e below (T31.setTop (mkF m 44 #[.val (.int p1), .val (.int p2), .val (.int p3), .val (.int (p3 &&& (3 : Int32))), .val (.ref b5), .val (.ref b18), .val (.ref b5)] [])) _
      refine XS.aload X31.here hx rfl (hb hby at_44) rfl rfl ?_
      show Steps p.tables e below (T31.setTop (mkF m 46 #[.val (.int p1), .val (.int p2), .val (.int p3), .val (.int (p3 &&& (3 : Int32))), .val (.ref b5), .val (.ref b18), .val (.ref b5)] [(.ref b18)])) _
      refine st32.trans ?_
      show Steps p.tables e below (T32.setTop (mkF m 49 #[.val (.int p1), .val (.int p2), .val (.int p3), .val (.int (p3 &&& (3 : Int32))), .val (.ref b5), .val (.ref b18), .val (.ref b5)] [(.int p1)])) _
      refine XS.iloadN X32.here hx rfl (hb hby at_49) rfl ?_
      show Steps p.tables e below (T32.setTop (mkF m 50 #[.val (.int p1), .val (.int p2), .val (.int p3), .val (.int (p3 &&& (3 : Int32))), .val (.ref b5), .val (.ref b18), .val (.ref b5)] [(.int p1), (.int p1)])) _
      refine XS.icmpNo X32.here hx rfl (hb hby at_50) rfl (XT.ii_ne_f (rfl : p1 = p1)) ?_
      show Steps p.tables e below (T32.setTop (mkF m 53 #[.val (.int p1), .val (.int p2), .val (.int p3), .val (.int (p3 &&& (3 : Int32))), .val (.ref b5), .val (.ref b18), .val (.ref b5)] [])) _
      refine XS.aload X32.here hx rfl (hb hby at_53) rfl rfl ?_
      show Steps p.tables e below (T32.setTop (mkF m 55 #[.val (.int p1), .val (.int p2), .val (.int p3), .val (.int (p3 &&& (3 : Int32))), .val (.ref b5), .val (.ref b18), .val (.ref b5)] [(.ref b5)])) _
      refine XS.ifnullNo X32.here hx rfl (hb hby at_55) rfl ?_
      show Steps p.tables e below (T32.setTop (mkF m 58 #[.val (.int p1), .val (.int p2), .val (.int p3), .val (.int (p3 &&& (3 : Int32))), .val (.ref b5), .val (.ref b18), .val (.ref b5)] [])) _
      refine XS.aload X32.here hx rfl (hb hby at_58) rfl rfl ?_
      show Steps p.tables e below (T32.setTop (mkF m 60 #[.val (.int p1), .val (.int p2), .val (.int p3), .val (.int (p3 &&& (3 : Int32))), .val (.ref b5), .val (.ref b18), .val (.ref b5)] [(.ref b5)])) _
      refine st33.trans ?_
      show Steps p.tables e below (T33.setTop (mkF m 63 #[.val (.int p1), .val (.int p2), .val (.int p3), .val (.int (p3 &&& (3 : Int32))), .val (.ref b5), .val (.ref b18), .val (.ref b5)] [(.int (0 : Int32))])) _
      refine XS.iloadN X33.here hx rfl (hb hby at_63) rfl ?_
      show Steps p.tables e below (T33.setTop (mkF m 64 #[.val (.int p1), .val (.int p2), .val (.int p3), .val (.int (p3 &&& (3 : Int32))), .val (.ref b5), .val (.ref b18), .val (.ref b5)] [(.int (p3 &&& (3 : Int32))), (.int (0 : Int32))])) _
      refine XS.icmpNo X33.here hx rfl (hb hby at_64) rfl (XT.ii_ne_f (hc3.symm : (0 : Int32) = (p3 &&& (3 : Int32)))) ?_
      show Steps p.tables e below (T33.setTop (mkF m 67 #[.val (.int p1), .val (.int p2), .val (.int p3), .val (.int (p3 &&& (3 : Int32))), .val (.ref b5), .val (.ref b18), .val (.ref b5)] [])) _
      refine XS.aload X33.here hx rfl (hb hby at_67) rfl rfl ?_
      show Steps p.tables e below (T33.setTop (mkF m 69 #[.val (.int p1), .val (.int p2), .val (.int p3), .val (.int (p3 &&& (3 : Int32))), .val (.ref b5), .val (.ref b18), .val (.ref b5)] [(.ref b5)])) _
      refine XS.aload X33.here hx rfl (hb hby at_69) rfl rfl ?_
      show Steps p.tables e below (T33.setTop (mkF m 71 #[.val (.int p1), .val (.int p2), .val (.int p3), .val (.int (p3 &&& (3 : Int32))), .val (.ref b5), .val (.ref b18), .val (.ref b5)] [(.ref b5), (.ref b5)])) _
      refine st40.trans ?_
      show Steps p.tables e below (T40.setTop (mkF m 74 #[.val (.int p1), .val (.int p2), .val (.int p3), .val (.int (p3 &&& (3 : Int32))), .val (.ref b5), .val (.ref b18), .val (.ref b5)] [(.int (1 : Int32))])) _
      refine XS.ifNo X40.here hx rfl (hb hby at_74) rfl (XT.i0_eq_f ((by decide) : ¬ ((1 : Int32) = (0 : Int32)))) ?_
      show Steps p.tables e below (T40.setTop (mkF m 77 #[.val (.int p1), .val (.int p2), .val (.int p3), .val (.int (p3 &&& (3 : Int32))), .val (.ref b5), .val (.ref b18), .val (.ref b5)] [])) _
      refine XS.aload X40.here hx rfl (hb hby at_77) rfl rfl ?_
      show Steps p.tables e below (T40.setTop (mkF m 79 #[.val (.int p1), .val (.int p2), .val (.int p3), .val (.int (p3 &&& (3 : Int32))), .val (.ref b5), .val (.ref b18), .val (.ref b5)] [(.ref b18)])) _
      refine st41.trans ?_
      show Steps p.tables e below (T41.setTop (mkF m 82 #[.val (.int p1), .val (.int p2), .val (.int p3), .val (.int (p3 &&& (3 : Int32))), .val (.ref b5), .val (.ref b18), .val (.ref b5)] [.null])) _
      refine XS.ifnonnullNo X41.here hx rfl (hb hby at_82) rfl ?_
      show Steps p.tables e below (T41.setTop (mkF m 85 #[.val (.int p1), .val (.int p2), .val (.int p3), .val (.int (p3 &&& (3 : Int32))), .val (.ref b5), .val (.ref b18), .val (.ref b5)] [])) _
      refine XS.iconst X41.here hx rfl (hb hby at_85) ?_
      show Steps p.tables e below (T41.setTop (mkF m 86 #[.val (.int p1), .val (.int p2), .val (.int p3), .val (.int (p3 &&& (3 : Int32))), .val (.ref b5), .val (.ref b18), .val (.ref b5)] [(.int (1 : Int32))])) _
      refine XS.goto X41.here hx rfl (pc0 := 86) (pc' := 90) rfl (hb hby at_86) (by decide) (by decide) ?_
      show Steps p.tables e below (T41.setTop (mkF m 90 #[.val (.int p1), .val (.int p2), .val (.int p3), .val (.int (p3 &&& (3 : Int32))), .val (.ref b5), .val (.ref b18), .val (.ref b5)] [(.int (1 : Int32))])) _
      exact retN X41 hx (t := .boolean) Bd.returns (by simp) (hb hby at_90) hr
    · show Q0 n0 _ T41.heap _
      rw [show T41.heap = T16.heap from e41q]
      exact ⟨rfl, N41⟩
    · show CHr Z consts_1 s.vm s.heap T41.vm T41.heap
      rw [hh]
      rw [show T41.heap = T16.heap from e41q]
      exact hCe
  ·
    skip
    by_cases hc44 : (p3 &&& (3 : Int32)) = (1 : Int32)
    ·
      skip
      obtain ⟨_, _, ⟨T45, L45, k45, n45⟩, -, X45, ⟨Lc45, hQ45, l45, y45, z45⟩, st45⟩ := Jvm.LawKit.callS X0 hx (y := (⟨"com/example/foreground_courier/foregroundcourier/FailureHttpStatusPinLaw", "makeBody", "(II)Ljava/lang/String;"⟩ : MethodName)) hown (mvT hZ (hw _ (List.mem_of_getElem? (i := 0) rfl))) (mvT hZ (hw _ (List.mem_of_getElem? (i := 1) rfl))) (mvT hZ (hw _ (List.mem_of_getElem? (i := 2) rfl))) (mvT hZ (hw _ (List.mem_of_getElem? (i := 3) rfl))) (by decide) (backOf (s := s.setVm s.vm) (W := 0) (rm11 l Z a0 hw [] G1 p2 (p3 &&& (3 : Int32)) h0 n0 X00 O2 P5 hc3 hc44) hZ (hw _ (List.mem_of_getElem? (i := 3) rfl)) (hw _ (List.mem_of_getElem? (i := 2) rfl)) (by decide) (by decide)) (g := (mkF m 6 #[.val (.int p1), .val (.int p2), .val (.int p3), .val (.int (p3 &&& (3 : Int32))), .unset, .unset, .unset] [(.int (p3 &&& (3 : Int32))), (.int p2)])) rfl (by rw [hml]; rfl) (argsL := [(.int p2), (.int (p3 &&& (3 : Int32)))]) (rest := []) (lenOf pd2 rfl) rfl (by show 2 * 0 + _ ≤ _; exact Nat.le_of_eq rfl) (hb hby at_6) (fun _ _ => ⟨rfl, e0, (by decide : 0 + 3 ≤ _), (by decide : 0 + 6 ≤ _)⟩)
      dsimp only [Pt.U, Pt.locs, Pt.cells, Pt.slots] at X45 l45 y45 z45 st45 hQ45
      subst l45 y45 z45
      obtain ⟨b46, b47, c48_, rfl, N45q, K45q, w49, w50, w51, w52, w53, w54, w55⟩ := hQ45
      have N45 := Fr.app N0 N45q
      have K56 : Keep h0 T45.heap [] := (Keep.refl h0 []).trans K45q (fun x q => nomatch q)
      have C57 : CHv Z consts_1 s.vm T45.heap := CHv.keep K45q sf0 hC0
      have R58 : CHr Z consts_1 s.vm h0 s.vm T45.heap := hR0.trans (CHr.keep K45q sf0 hC0)
      have O60 : Old Z n0 T45.heap := X00.keep K45q all0
      obtain ⟨_, _, ⟨T59, L59, k59, n59⟩, -, X59, ⟨Lc59, hQ59, l59, y59, z59⟩, st59⟩ := Jvm.LawKit.callS X45 hx (y := (⟨"com/example/foreground_courier/foregroundcourier/Failure", "httpStatus", "(ILjava/lang/String;)Lcom/example/foreground_courier/foregroundcourier/Failure;"⟩ : MethodName)) hown (mvT hZ (hw _ (List.mem_of_getElem? (i := 34) rfl))) (mvT hZ (hw _ (List.mem_of_getElem? (i := 35) rfl))) (mvT hZ (hw _ (List.mem_of_getElem? (i := 36) rfl))) (mvT hZ (hw _ (List.mem_of_getElem? (i := 37) rfl))) (by decide) (backOf (s := s.setVm s.vm) (W := 0) (rm5 l Z a0 hw [] g_HTTP_STATUS p1 b46 T45.heap n0 O60 hEN) hZ (hw _ (List.mem_of_getElem? (i := 37) rfl)) (hw _ (List.mem_of_getElem? (i := 36) rfl)) (by decide) (by decide)) (g := (mkF m 14 #[.val (.int p1), .val (.int p2), .val (.int p3), .val (.int (p3 &&& (3 : Int32))), .val (.ref b46), .unset, .unset] [(.ref b46), (.int p1)])) rfl (by rw [hml]; rfl) (argsL := [(.int p1), (.ref b46)]) (rest := []) (lenOf pd4 rfl) rfl (by show 2 * 0 + _ ≤ _; exact Nat.le_of_eq rfl) (hb hby at_14) (fun _ _ => ⟨rfl, rfl, (by decide : 3 + 1 ≤ _), (by decide : 6 + 4 ≤ _)⟩)
      dsimp only [Pt.U, Pt.locs, Pt.cells, Pt.slots] at X59 l59 y59 z59 st59 hQ59
      subst l59 y59 z59
      obtain ⟨b61, rfl, N59q, K59q, w62, w63, w64, w65, w66, w67⟩ := hQ59
      have N59 := Fr.app N45 N59q
      have K68 : Keep h0 T59.heap [] := K56.trans K59q (fun x q => nomatch q)
      have C69 : CHv Z consts_1 s.vm T59.heap := CHv.keep K59q sf0 C57
      have R70 : CHr Z consts_1 s.vm h0 s.vm T59.heap := R58.trans (CHr.keep K59q sf0 C57)
      have O72 : Old Z n0 T59.heap := O60.keep K59q all0
      obtain ⟨cq71, kq71, q71a, q71b, q71c⟩ := isOf hZ rfl w63
      obtain ⟨_, _, ⟨T71, L71, k71, n71⟩, -, X71, ⟨Lc71, hQ71, l71, y71, z71⟩, st71⟩ := X59.virtualBack hx (y := (⟨"com/example/foreground_courier/foregroundcourier/Failure", "body", "()Ljava/lang/String;"⟩ : MethodName)) (z := (⟨"com/example/foreground_courier/foregroundcourier/Failure", "body", "()Ljava/lang/String;"⟩ : MethodName)) hown (mvT hZ (hw _ (List.mem_of_getElem? (i := 55) rfl))) (mvT hZ (hw _ (List.mem_of_getElem? (i := 56) rfl))) (notFace_of_selects (args := #[]) (mvT hZ (hw _ (List.mem_of_getElem? (i := 58) rfl)))) (mvT hZ (hw _ (List.mem_of_getElem? (i := 58) rfl))) (mvT hZ (hw _ (List.mem_of_getElem? (i := 57) rfl))) (by decide) (backOf (s := s.setVm s.vm) (W := 0) (rm6 l Z a0 hw []  b61 b46 T59.heap n0 O72 w66) hZ (hw _ (List.mem_of_getElem? (i := 59) rfl)) (hw _ (List.mem_of_getElem? (i := 36) rfl)) (by decide) (by decide)) q71a q71c (g := (mkF m 28 #[.val (.int p1), .val (.int p2), .val (.int p3), .val (.int (p3 &&& (3 : Int32))), .val (.ref b46), .val (.ref b61), .unset] [(.ref b61)])) rfl (by rw [hml]; rfl) (Steps.refl _) (argsL := []) (rest := []) (lenOf pd5 rfl) rfl (by show 2 * 0 + _ ≤ _; exact Nat.le_of_eq rfl) (hb hby at_28) (fun _ _ => ⟨rfl, rfl, (by decide : 4 + 0 ≤ _), (by decide : 10 + 0 ≤ _)⟩)
      dsimp only [Pt.U, Pt.locs, Pt.cells, Pt.slots] at X71 l71 y71 z71 st71 hQ71
      subst l71 y71 z71
      obtain ⟨rfl, N71q, e71q⟩ := hQ71
      have N71 := Fr.app N59 N71q
      obtain ⟨cq73, kq73, q73a, q73b, q73c⟩ := isOf hZ e71q w63
      obtain ⟨_, _, ⟨T73, L73, k73, n73⟩, -, X73, ⟨Lc73, hQ73, l73, y73, z73⟩, st73⟩ := X71.virtualBack hx (y := (⟨"com/example/foreground_courier/foregroundcourier/Failure", "kind", "()Lcom/example/foreground_courier/foregroundcourier/Failure$Kind;"⟩ : MethodName)) (z := (⟨"com/example/foreground_courier/foregroundcourier/Failure", "kind", "()Lcom/example/foreground_courier/foregroundcourier/Failure$Kind;"⟩ : MethodName)) hown (mvT hZ (hw _ (List.mem_of_getElem? (i := 60) rfl))) (mvT hZ (hw _ (List.mem_of_getElem? (i := 61) rfl))) (notFace_of_selects (args := #[]) (mvT hZ (hw _ (List.mem_of_getElem? (i := 63) rfl)))) (mvT hZ (hw _ (List.mem_of_getElem? (i := 63) rfl))) (mvT hZ (hw _ (List.mem_of_getElem? (i := 62) rfl))) (by decide) (backOf (s := s.setVm s.vm) (W := 0) (rm7 l Z a0 hw [] g_HTTP_STATUS b61 T59.heap n0 O72 hEN w64) hZ (hw _ (List.mem_of_getElem? (i := 64) rfl)) (hw _ (List.mem_of_getElem? (i := 36) rfl)) (by decide) (by decide)) q73a q73c (g := (mkF m 35 #[.val (.int p1), .val (.int p2), .val (.int p3), .val (.int (p3 &&& (3 : Int32))), .val (.ref b46), .val (.ref b61), .val (.ref b46)] [(.ref b61)])) rfl (by rw [hml]; rfl) (Steps.refl _) (argsL := []) (rest := []) (lenOf pd6 rfl) rfl (by show 2 * 0 + _ ≤ _; exact Nat.le_of_eq rfl) (hb hby at_35) (fun _ _ => ⟨rfl, e71q, (by decide : 4 + 0 ≤ _), (by decide : 10 + 0 ≤ _)⟩)
      dsimp only [Pt.U, Pt.locs, Pt.cells, Pt.slots] at X73 l73 y73 z73 st73 hQ73
      subst l73 y73 z73
      obtain ⟨rfl, N73q, e73q⟩ := hQ73
      have N73 := Fr.app N71 N73q
      obtain ⟨T74, X74, e74, st74⟩ := getS2 X73 hx hZ hown (host := "") (Or.inl (hw _ (List.mem_of_getElem? (i := 65) rfl))) Via.refl e73q (hEN.1.ext O72.2) (g := (mkF m 38 #[.val (.int p1), .val (.int p2), .val (.int p3), .val (.int (p3 &&& (3 : Int32))), .val (.ref b46), .val (.ref b61), .val (.ref b46)] [(.ref g_HTTP_STATUS)])) rfl (hb hby at_38)
      obtain ⟨cq75, kq75, q75a, q75b, q75c⟩ := isOf hZ e74 w63
      obtain ⟨_, _, ⟨T75, L75, k75, n75⟩, -, X75, ⟨Lc75, hQ75, l75, y75, z75⟩, st75⟩ := X74.virtualBack hx (y := (⟨"com/example/foreground_courier/foregroundcourier/Failure", "statusCode", "()I"⟩ : MethodName)) (z := (⟨"com/example/foreground_courier/foregroundcourier/Failure", "statusCode", "()I"⟩ : MethodName)) hown (mvT hZ (hw _ (List.mem_of_getElem? (i := 66) rfl))) (mvT hZ (hw _ (List.mem_of_getElem? (i := 67) rfl))) (notFace_of_selects (args := #[]) (mvT hZ (hw _ (List.mem_of_getElem? (i := 69) rfl)))) (mvT hZ (hw _ (List.mem_of_getElem? (i := 69) rfl))) (mvT hZ (hw _ (List.mem_of_getElem? (i := 68) rfl))) (by decide) (backOf (s := s.setVm s.vm) (W := 0) (rm8 l Z a0 hw []  b61 p1 T59.heap n0 O72 w65) hZ (hw _ (List.mem_of_getElem? (i := 70) rfl)) (hw _ (List.mem_of_getElem? (i := 36) rfl)) (by decide) (by decide)) q75a q75c (g := (mkF m 46 #[.val (.int p1), .val (.int p2), .val (.int p3), .val (.int (p3 &&& (3 : Int32))), .val (.ref b46), .val (.ref b61), .val (.ref b46)] [(.ref b61)])) rfl (by rw [hml]; rfl) (Steps.refl _) (argsL := []) (rest := []) (lenOf pd7 rfl) rfl (by show 2 * 0 + _ ≤ _; exact Nat.le_of_eq rfl) (hb hby at_46) (fun _ _ => ⟨rfl, e74, (by decide : 4 + 0 ≤ _), (by decide : 10 + 0 ≤ _)⟩)
      dsimp only [Pt.U, Pt.locs, Pt.cells, Pt.slots] at X75 l75 y75 z75 st75 hQ75
      subst l75 y75 z75
      obtain ⟨rfl, N75q, e75q⟩ := hQ75
      have N75 := Fr.app N73 N75q
      have hp77 : ∀ c ∈ ([(((p2 &&& (255 : Int32))).toUInt32.toUInt16.toUInt32.toInt32)] : List Int32), ¬ c < 0 ∧ ¬ (255 : Int32) < c := (List.forall_mem_cons.mpr ⟨(own_lat p2), (fun _ q => nomatch q)⟩)
      have E78_ : Exa Z T59.heap b46 "java/lang/String" := w52.keep K59q
      have F79_ : Fld Z T59.heap b46 "java/lang/String" "value" "[B" (.ref b47) := w54.keep K59q nin0
      have F80_ : Fld Z T59.heap b46 "java/lang/String" "coder" "B" (.int (0 : Int32)) := w53.keep K59q nin0
      have A81_ : Arv Z T59.heap b47 c48_ .byte (1 : Int32) ((([(((p2 &&& (255 : Int32))).toUInt32.toUInt16.toUInt32.toInt32)] : List Int32).map (fun c => c.toInt8.toInt32)).map Value.int) (.int 0) := w55.keep K59q nin0
      have hcd82 : StrChars.Road.CodA ([(((p2 &&& (255 : Int32))).toUInt32.toUInt16.toUInt32.toInt32)] : List Int32) 0 (1 : Int32) ((([(((p2 &&& (255 : Int32))).toUInt32.toUInt16.toUInt32.toInt32)] : List Int32).map (fun c => c.toInt8.toInt32)).map Value.int) := StrChars.Road.codOf (n := 1) rfl (fun x hx => (hp77 x hx).2)
      have hbd82 : ∀ x ∈ ([(((p2 &&& (255 : Int32))).toUInt32.toUInt16.toUInt32.toInt32)] : List Int32), ¬ x < 0 ∧ ¬ (65535 : Int32) < x := own_up _ hp77
      obtain ⟨cq76, kq76, q76a, q76b, q76c⟩ := isOf hZ e75q E78_
      obtain ⟨_, _, ⟨T76, L76, k76, n76⟩, -, X76, ⟨Lc76, hQ76, l76, y76, z76⟩, st76⟩ := X75.virtualBack hx (y := (⟨"java/lang/String", "length", "()I"⟩ : MethodName)) (z := (⟨"java/lang/String", "length", "()I"⟩ : MethodName)) hown (mvT hZ (hw _ (List.mem_of_getElem? (i := 71) rfl))) (mvT hZ (hw _ (List.mem_of_getElem? (i := 72) rfl))) (notFace_of_selects (args := #[]) (mvT hZ (hw _ (List.mem_of_getElem? (i := 74) rfl)))) (mvT hZ (hw _ (List.mem_of_getElem? (i := 74) rfl))) (mvT hZ (hw _ (List.mem_of_getElem? (i := 73) rfl))) (by decide) (StrChars.Road.lenW (s := s.setVm s.vm) (W := 0) hZ (own_wl hw) (kI := 4) (hw _ (List.mem_of_getElem? (i := 5) rfl)) E78_ F79_ F80_ A81_ hcd82 hbd82 (O2.ext O72.2) P5 (Nat.le_of_ble_eq_true rfl) (by decide) (by decide)) q76a q76c (g := (mkF m 60 #[.val (.int p1), .val (.int p2), .val (.int p3), .val (.int (p3 &&& (3 : Int32))), .val (.ref b46), .val (.ref b61), .val (.ref b46)] [(.ref b46)])) rfl (by rw [hml]; rfl) (Steps.refl _) (argsL := []) (rest := []) (lenOf pd7 rfl) rfl (by show 2 * 0 + _ ≤ _; exact Nat.le_of_eq rfl) (hb hby at_60) (fun _ _ => ⟨rfl, e75q, (by decide : 4 + 0 ≤ _), (by decide : 10 + 0 ≤ _)⟩)
      dsimp only [Pt.U, Pt.locs, Pt.cells, Pt.slots] at X76 l76 y76 z76 st76 hQ76
      subst l76 y76 z76
      obtain ⟨rfl, rfl, e76q⟩ := hQ76
      have N76 := Fr.app N75 (Fr.nil n0)
      obtain ⟨cq83, kq83, q83a, q83b, q83c⟩ := isOf hZ e76q E78_
      obtain ⟨_, _, ⟨T83, L83, k83, n83⟩, -, X83, ⟨Lc83, hQ83, l83, y83, z83⟩, st83⟩ := X76.virtualBack hx (y := (⟨"java/lang/String", "equals", "(Ljava/lang/Object;)Z"⟩ : MethodName)) (z := (⟨"java/lang/String", "equals", "(Ljava/lang/Object;)Z"⟩ : MethodName)) hown (mvT hZ (hw _ (List.mem_of_getElem? (i := 81) rfl))) (mvT hZ (hw _ (List.mem_of_getElem? (i := 82) rfl))) (notFace_of_selects (args := #[]) (mvT hZ (hw _ (List.mem_of_getElem? (i := 84) rfl)))) (mvT hZ (hw _ (List.mem_of_getElem? (i := 84) rfl))) (mvT hZ (hw _ (List.mem_of_getElem? (i := 83) rfl))) (by decide) (backOf (s := s.setVm s.vm) (W := 0) (rm9 l Z a0 hw []  b46 T59.heap n0 O72 ) hZ (hw _ (List.mem_of_getElem? (i := 85) rfl)) (hw _ (List.mem_of_getElem? (i := 6) rfl)) (by decide) (by decide)) q83a q83c (g := (mkF m 71 #[.val (.int p1), .val (.int p2), .val (.int p3), .val (.int (p3 &&& (3 : Int32))), .val (.ref b46), .val (.ref b61), .val (.ref b46)] [(.ref b46), (.ref b46)])) rfl (by rw [hml]; rfl) (Steps.refl _) (argsL := [(.ref b46)]) (rest := []) (lenOf pd8 rfl) rfl (by show 2 * 0 + _ ≤ _; exact Nat.le_of_eq rfl) (hb hby at_71) (fun _ _ => ⟨rfl, e76q, (by decide : 4 + 0 ≤ _), (by decide : 10 + 0 ≤ _)⟩)
      dsimp only [Pt.U, Pt.locs, Pt.cells, Pt.slots] at X83 l83 y83 z83 st83 hQ83
      subst l83 y83 z83
      obtain ⟨rfl, N83q, e83q⟩ := hQ83
      have N83 := Fr.app N76 N83q
      obtain ⟨cq84, kq84, q84a, q84b, q84c⟩ := isOf hZ e83q w63
      obtain ⟨_, _, ⟨T84, L84, k84, n84⟩, -, X84, ⟨Lc84, hQ84, l84, y84, z84⟩, st84⟩ := X83.virtualBack hx (y := (⟨"com/example/foreground_courier/foregroundcourier/Failure", "cause", "()Ljava/lang/Throwable;"⟩ : MethodName)) (z := (⟨"com/example/foreground_courier/foregroundcourier/Failure", "cause", "()Ljava/lang/Throwable;"⟩ : MethodName)) hown (mvT hZ (hw _ (List.mem_of_getElem? (i := 86) rfl))) (mvT hZ (hw _ (List.mem_of_getElem? (i := 87) rfl))) (notFace_of_selects (args := #[]) (mvT hZ (hw _ (List.mem_of_getElem? (i := 89) rfl)))) (mvT hZ (hw _ (List.mem_of_getElem? (i := 89) rfl))) (mvT hZ (hw _ (List.mem_of_getElem? (i := 88) rfl))) (by decide) (backOf (s := s.setVm s.vm) (W := 0) (rm10 l Z a0 hw []  b61 T59.heap n0 O72 w67) hZ (hw _ (List.mem_of_getElem? (i := 90) rfl)) (hw _ (List.mem_of_getElem? (i := 36) rfl)) (by decide) (by decide)) q84a q84c (g := (mkF m 79 #[.val (.int p1), .val (.int p2), .val (.int p3), .val (.int (p3 &&& (3 : Int32))), .val (.ref b46), .val (.ref b61), .val (.ref b46)] [(.ref b61)])) rfl (by rw [hml]; rfl) (Steps.refl _) (argsL := []) (rest := []) (lenOf pd9 rfl) rfl (by show 2 * 0 + _ ≤ _; exact Nat.le_of_eq rfl) (hb hby at_79) (fun _ _ => ⟨rfl, e83q, (by decide : 4 + 0 ≤ _), (by decide : 10 + 0 ≤ _)⟩)
      dsimp only [Pt.U, Pt.locs, Pt.cells, Pt.slots] at X84 l84 y84 z84 st84 hQ84
      subst l84 y84 z84
      obtain ⟨rfl, N84q, e84q⟩ := hQ84
      have N84 := Fr.app N83 N84q
      have hk85' : _ ≤ T59.heap.size := (Nat.le_trans (Nat.le_trans hk0 K45q.1) K59q.1)
      obtain ⟨fs, hr, hrun, hended, hEnd⟩ := X84.leaveW (s := s) hS0 (by rw [show T84.heap = T59.heap from e84q]; exact hk85') (v := (some (.int (1 : Int32)))) (fun h => by rw [Bd.returns] at h; cases h)
      have hCe : CHr Z consts_1 s.vm h0 T84.vm T59.heap := R70.trans (CHv.at X84 hZ hEL C69)
      refine ⟨_, _, pr2 _ ?_, hrun, hended, _, _, rfl, ?_, ?_, hEnd.1, hEnd.2.1, hEnd.2.2.1, hEnd.2.2.2.mono (by decide) (by decide)⟩
      · show Steps p.tables e below (s₁.setTop (mkF m 6 #[.val (.int p1), .val (.int p2), .val (.int p3), .val (.int (p3 &&& (3 : Int32))), .unset, .unset, .unset] [(.int (p3 &&& (3 : Int32))), (.int p2)])) _
        refine st45 _ ?_
        show Steps p.tables e below (T45.setTop (mkF m 9 #[.val (.int p1), .val (.int p2), .val (.int p3), .val (.int (p3 &&& (3 : Int32))), .unset, .unset, .unset] [(.ref b46)])) _
        refine XS.astore X45.here hx rfl (hb hby at_9) rfl rfl (l' := #[.val (.int p1), .val (.int p2), .val (.int p3), .val (.int (p3 &&& (3 : Int32))), .val (.ref b46), .unset, .unset]) rfl ?_
        show Steps p.tables e below (T45.setTop (mkF m 11 #[.val (.int p1), .val (.int p2), .val (.int p3), .val (.int (p3 &&& (3 : Int32))), .val (.ref b46), .unset, .unset] [])) _
        refine XS.iloadN X45.here hx rfl (hb hby at_11) rfl ?_
        show Steps p.tables e below (T45.setTop (mkF m 12 #[.val (.int p1), .val (.int p2), .val (.int p3), .val (.int (p3 &&& (3 : Int32))), .val (.ref b46), .unset, .unset] [(.int p1)])) _
        refine XS.aload X45.here hx rfl (hb hby at_12) rfl rfl ?_
        show Steps p.tables e below (T45.setTop (mkF m 14 #[.val (.int p1), .val (.int p2), .val (.int p3), .val (.int (p3 &&& (3 : Int32))), .val (.ref b46), .unset, .unset] [(.ref b46), (.int p1)])) _
        refine st59 _ ?_
        show Steps p.tables e below (T59.setTop (mkF m 17 #[.val (.int p1), .val (.int p2), .val (.int p3), .val (.int (p3 &&& (3 : Int32))), .val (.ref b46), .unset, .unset] [(.ref b61)])) _
        refine XS.astore X59.here hx rfl (hb hby at_17) rfl rfl (l' := #[.val (.int p1), .val (.int p2), .val (.int p3), .val (.int (p3 &&& (3 : Int32))), .val (.ref b46), .val (.ref b61), .unset]) rfl ?_
        show Steps p.tables e below (T59.setTop (mkF m 19 #[.val (.int p1), .val (.int p2), .val (.int p3), .val (.int (p3 &&& (3 : Int32))), .val (.ref b46), .val (.ref b61), .unset] [])) _
        refine XS.aload X59.here hx rfl (hb hby at_19) rfl rfl ?_
        show Steps p.tables e below (T59.setTop (mkF m 21 #[.val (.int p1), .val (.int p2), .val (.int p3), .val (.int (p3 &&& (3 : Int32))), .val (.ref b46), .val (.ref b61), .unset] [(.ref b61)])) _
        refine XS.ifnonnullYes X59.here hx rfl (pc0 := 21) (pc' := 26) rfl (hb hby at_21) rfl (by decide) (by decide) ?_
        show Steps p.tables e below (T59.setTop (mkF m 26 #[.val (.int p1), .val (.int p2), .val (.int p3), .val (.int (p3 &&& (3 : Int32))), .val (.ref b46), .val (.ref b61), .unset] [])) _
        refine XS.aload X59.here hx rfl (hb hby at_26) rfl rfl ?_
        show Steps p.tables e below (T59.setTop (mkF m 28 #[.val (.int p1), .val (.int p2), .val (.int p3), .val (.int (p3 &&& (3 : Int32))), .val (.ref b46), .val (.ref b61), .unset] [(.ref b61)])) _
        refine st71.trans ?_
        show Steps p.tables e below (T71.setTop (mkF m 31 #[.val (.int p1), .val (.int p2), .val (.int p3), .val (.int (p3 &&& (3 : Int32))), .val (.ref b46), .val (.ref b61), .unset] [(.ref b46)])) _
        refine XS.astore X71.here hx rfl (hb hby at_31) rfl rfl (l' := #[.val (.int p1), .val (.int p2), .val (.int p3), .val (.int (p3 &&& (3 : Int32))), .val (.ref b46), .val (.ref b61), .val (.ref b46)]) rfl ?_
        show Steps p.tables e below (T71.setTop (mkF m 33 #[.val (.int p1), .val (.int p2), .val (.int p3), .val (.int (p3 &&& (3 : Int32))), .val (.ref b46), .val (.ref b61), .val (.ref b46)] [])) _
        refine XS.aload X71.here hx rfl (hb hby at_33) rfl rfl ?_
        show Steps p.tables e below (T71.setTop (mkF m 35 #[.val (.int p1), .val (.int p2), .val (.int p3), .val (.int (p3 &&& (3 : Int32))), .val (.ref b46), .val (.ref b61), .val (.ref b46)] [(.ref b61)])) _
        refine st73.trans ?_
        show Steps p.tables e below (T73.setTop (mkF m 38 #[.val (.int p1), .val (.int p2), .val (.int p3), .val (.int (p3 &&& (3 : Int32))), .val (.ref b46), .val (.ref b61), .val (.ref b46)] [(.ref g_HTTP_STATUS)])) _
        refine st74 _ ?_
        show Steps p.tables e below (T74.setTop (mkF m 41 #[.val (.int p1), .val (.int p2), .val (.int p3), .val (.int (p3 &&& (3 : Int32))), .val (.ref b46), .val (.ref b61), .val (.ref b46)] [(.ref g_HTTP_STATUS), (.ref g_HTTP_STATUS)])) _
        refine Jvm.RoadKit.acmp (g := (mkF m 41 #[.val (.int p1), .val (.int p2), .val (.int p3), .val (.int (p3 &&& (3 : Int32))), .val (.ref b46), .val (.ref b61), .val (.ref b46)] [(.ref g_HTTP_STATUS), (.ref g_HTTP_STATUS)])) X74 hx rfl rfl rfl (pc0 := 41) (pc' := 44) (same := true) rfl (hb hby at_41) rfl (decide_eq_true rfl) (by decide) (by decide) ?_
        show Steps p.tables e below (T74.setTop (mkF m 44 #[.val (.int p1), .val (.int p2), .val (.int p3), .val (.int (p3 &&& (3 : Int32))), .val (.ref b46), .val (.ref b61), .val (.ref b46)] [])) _
        refine XS.aload X74.here hx rfl (hb hby at_44) rfl rfl ?_
        show Steps p.tables e below (T74.setTop (mkF m 46 #[.val (.int p1), .val (.int p2), .val (.int p3), .val (.int (p3 &&& (3 : Int32))), .val (.ref b46), .val (.ref b61), .val (.ref b46)] [(.ref b61)])) _
        refine st75.trans ?_
        show Steps p.tables e below (T75.setTop (mkF m 49 #[.val (.int p1), .val (.int p2), .val (.int p3), .val (.int (p3 &&& (3 : Int32))), .val (.ref b46), .val (.ref b61), .val (.ref b46)] [(.int p1)])) _
        refine XS.iloadN X75.here hx rfl (hb hby at_49) rfl ?_
        show Steps p.tables e below (T75.setTop (mkF m 50 #[.val (.int p1), .val (.int p2), .val (.int p3), .val (.int (p3 &&& (3 : Int32))), .val (.ref b46), .val (.ref b61), .val (.ref b46)] [(.int p1), (.int p1)])) _
        refine XS.icmpNo X75.here hx rfl (hb hby at_50) rfl (XT.ii_ne_f (rfl : p1 = p1)) ?_
        show Steps p.tables e below (T75.setTop (mkF m 53 #[.val (.int p1), .val (.int p2), .val (.int p3), .val (.int (p3 &&& (3 : Int32))), .val (.ref b46), .val (.ref b61), .val (.ref b46)] [])) _
        refine XS.aload X75.here hx rfl (hb hby at_53) rfl rfl ?_
        show Steps p.tables e below (T75.setTop (mkF m 55 #[.val (.int p1), .val (.int p2), .val (.int p3), .val (.int (p3 &&& (3 : Int32))), .val (.ref b46), .val (.ref b61), .val (.ref b46)] [(.ref b46)])) _
        refine XS.ifnullNo X75.here hx rfl (hb hby at_55) rfl ?_
        show Steps p.tables e below (T75.setTop (mkF m 58 #[.val (.int p1), .val (.int p2), .val (.int p3), .val (.int (p3 &&& (3 : Int32))), .val (.ref b46), .val (.ref b61), .val (.ref b46)] [])) _
        refine XS.aload X75.here hx rfl (hb hby at_58) rfl rfl ?_
        show Steps p.tables e below (T75.setTop (mkF m 60 #[.val (.int p1), .val (.int p2), .val (.int p3), .val (.int (p3 &&& (3 : Int32))), .val (.ref b46), .val (.ref b61), .val (.ref b46)] [(.ref b46)])) _
        refine st76.trans ?_
        show Steps p.tables e below (T76.setTop (mkF m 63 #[.val (.int p1), .val (.int p2), .val (.int p3), .val (.int (p3 &&& (3 : Int32))), .val (.ref b46), .val (.ref b61), .val (.ref b46)] [(.int (1 : Int32))])) _
        refine XS.iloadN X76.here hx rfl (hb hby at_63) rfl ?_
        show Steps p.tables e below (T76.setTop (mkF m 64 #[.val (.int p1), .val (.int p2), .val (.int p3), .val (.int (p3 &&& (3 : Int32))), .val (.ref b46), .val (.ref b61), .val (.ref b46)] [(.int (p3 &&& (3 : Int32))), (.int (1 : Int32))])) _
        refine XS.icmpNo X76.here hx rfl (hb hby at_64) rfl (XT.ii_ne_f (hc44.symm : (1 : Int32) = (p3 &&& (3 : Int32)))) ?_
        show Steps p.tables e below (T76.setTop (mkF m 67 #[.val (.int p1), .val (.int p2), .val (.int p3), .val (.int (p3 &&& (3 : Int32))), .val (.ref b46), .val (.ref b61), .val (.ref b46)] [])) _
        refine XS.aload X76.here hx rfl (hb hby at_67) rfl rfl ?_
        show Steps p.tables e below (T76.setTop (mkF m 69 #[.val (.int p1), .val (.int p2), .val (.int p3), .val (.int (p3 &&& (3 : Int32))), .val (.ref b46), .val (.ref b61), .val (.ref b46)] [(.ref b46)])) _
        refine XS.aload X76.here hx rfl (hb hby at_69) rfl rfl ?_
        show Steps p.tables e below (T76.setTop (mkF m 71 #[.val (.int p1), .val (.int p2), .val (.int p3), .val (.int (p3 &&& (3 : Int32))), .val (.ref b46), .val (.ref b61), .val (.ref b46)] [(.ref b46), (.ref b46)])) _
        refine st83.trans ?_
        show Steps p.tables e below (T83.setTop (mkF m 74 #[.val (.int p1), .val (.int p2), .val (.int p3), .val (.int (p3 &&& (3 : Int32))), .val (.ref b46), .val (.ref b61), .val (.ref b46)] [(.int (1 : Int32))])) _
        refine XS.ifNo X83.here hx rfl (hb hby at_74) rfl (XT.i0_eq_f ((by decide) : ¬ ((1 : Int32) = (0 : Int32)))) ?_
        show Steps p.tables e below (T83.setTop (mkF m 77 #[.val (.int p1), .val (.int p2), .val (.int p3), .val (.int (p3 &&& (3 : Int32))), .val (.ref b46), .val (.ref b61), .val (.ref b46)] [])) _
        refine XS.aload X83.here hx rfl (hb hby at_77) rfl rfl ?_
        show Steps p.tables e below (T83.setTop (mkF m 79 #[.val (.int p1), .val (.int p2), .val (.int p3), .val (.int (p3 &&& (3 : Int32))), .val (.ref b46), .val (.ref b61), .val (.ref b46)] [(.ref b61)])) _
        refine st84.trans ?_
        show Steps p.tables e below (T84.setTop (mkF m 82 #[.val (.int p1), .val (.int p2), .val (.int p3), .val (.int (p3 &&& (3 : Int32))), .val (.ref b46), .val (.ref b61), .val (.ref b46)] [.null])) _
        refine XS.ifnonnullNo X84.here hx rfl (hb hby at_82) rfl ?_
        show Steps p.tables e below (T84.setTop (mkF m 85 #[.val (.int p1), .val (.int p2), .val (.int p3), .val (.int (p3 &&& (3 : Int32))), .val (.ref b46), .val (.ref b61), .val (.ref b46)] [])) _
        refine XS.iconst X84.here hx rfl (hb hby at_85) ?_
        show Steps p.tables e below (T84.setTop (mkF m 86 #[.val (.int p1), .val (.int p2), .val (.int p3), .val (.int (p3 &&& (3 : Int32))), .val (.ref b46), .val (.ref b61), .val (.ref b46)] [(.int (1 : Int32))])) _
        refine XS.goto X84.here hx rfl (pc0 := 86) (pc' := 90) rfl (hb hby at_86) (by decide) (by decide) ?_
        show Steps p.tables e below (T84.setTop (mkF m 90 #[.val (.int p1), .val (.int p2), .val (.int p3), .val (.int (p3 &&& (3 : Int32))), .val (.ref b46), .val (.ref b61), .val (.ref b46)] [(.int (1 : Int32))])) _
        exact retN X84 hx (t := .boolean) Bd.returns (by simp) (hb hby at_90) hr
      · show Q0 n0 _ T84.heap _
        rw [show T84.heap = T59.heap from e84q]
        exact ⟨rfl, N84⟩
      · show CHr Z consts_1 s.vm s.heap T84.vm T84.heap
        rw [hh]
        rw [show T84.heap = T59.heap from e84q]
        exact hCe
    ·
      skip
      by_cases hc87 : (p3 &&& (3 : Int32)) = (2 : Int32)
      ·
        skip
        obtain ⟨_, _, ⟨T88, L88, k88, n88⟩, -, X88, ⟨Lc88, hQ88, l88, y88, z88⟩, st88⟩ := Jvm.LawKit.callS X0 hx (y := (⟨"com/example/foreground_courier/foregroundcourier/FailureHttpStatusPinLaw", "makeBody", "(II)Ljava/lang/String;"⟩ : MethodName)) hown (mvT hZ (hw _ (List.mem_of_getElem? (i := 0) rfl))) (mvT hZ (hw _ (List.mem_of_getElem? (i := 1) rfl))) (mvT hZ (hw _ (List.mem_of_getElem? (i := 2) rfl))) (mvT hZ (hw _ (List.mem_of_getElem? (i := 3) rfl))) (by decide) (backOf (s := s.setVm s.vm) (W := 0) (rm12 l Z a0 hw [] G1 p2 (p3 &&& (3 : Int32)) h0 n0 X00 O2 P5 hc3 hc44 hc87) hZ (hw _ (List.mem_of_getElem? (i := 3) rfl)) (hw _ (List.mem_of_getElem? (i := 2) rfl)) (by decide) (by decide)) (g := (mkF m 6 #[.val (.int p1), .val (.int p2), .val (.int p3), .val (.int (p3 &&& (3 : Int32))), .unset, .unset, .unset] [(.int (p3 &&& (3 : Int32))), (.int p2)])) rfl (by rw [hml]; rfl) (argsL := [(.int p2), (.int (p3 &&& (3 : Int32)))]) (rest := []) (lenOf pd2 rfl) rfl (by show 2 * 0 + _ ≤ _; exact Nat.le_of_eq rfl) (hb hby at_6) (fun _ _ => ⟨rfl, e0, (by decide : 0 + 3 ≤ _), (by decide : 0 + 8 ≤ _)⟩)
        dsimp only [Pt.U, Pt.locs, Pt.cells, Pt.slots] at X88 l88 y88 z88 st88 hQ88
        subst l88 y88 z88
        obtain ⟨b89, b90, c91_, rfl, N88q, K88q, w92, w93, w94, w95, w96, w97, w98⟩ := hQ88
        have N88 := Fr.app N0 N88q
        have K99 : Keep h0 T88.heap [] := (Keep.refl h0 []).trans K88q (fun x q => nomatch q)
        have C100 : CHv Z consts_1 s.vm T88.heap := CHv.keep K88q sf0 hC0
        have R101 : CHr Z consts_1 s.vm h0 s.vm T88.heap := hR0.trans (CHr.keep K88q sf0 hC0)
        have O103 : Old Z n0 T88.heap := X00.keep K88q all0
        obtain ⟨_, _, ⟨T102, L102, k102, n102⟩, -, X102, ⟨Lc102, hQ102, l102, y102, z102⟩, st102⟩ := Jvm.LawKit.callS X88 hx (y := (⟨"com/example/foreground_courier/foregroundcourier/Failure", "httpStatus", "(ILjava/lang/String;)Lcom/example/foreground_courier/foregroundcourier/Failure;"⟩ : MethodName)) hown (mvT hZ (hw _ (List.mem_of_getElem? (i := 34) rfl))) (mvT hZ (hw _ (List.mem_of_getElem? (i := 35) rfl))) (mvT hZ (hw _ (List.mem_of_getElem? (i := 36) rfl))) (mvT hZ (hw _ (List.mem_of_getElem? (i := 37) rfl))) (by decide) (backOf (s := s.setVm s.vm) (W := 0) (rm5 l Z a0 hw [] g_HTTP_STATUS p1 b89 T88.heap n0 O103 hEN) hZ (hw _ (List.mem_of_getElem? (i := 37) rfl)) (hw _ (List.mem_of_getElem? (i := 36) rfl)) (by decide) (by decide)) (g := (mkF m 14 #[.val (.int p1), .val (.int p2), .val (.int p3), .val (.int (p3 &&& (3 : Int32))), .val (.ref b89), .unset, .unset] [(.ref b89), (.int p1)])) rfl (by rw [hml]; rfl) (argsL := [(.int p1), (.ref b89)]) (rest := []) (lenOf pd4 rfl) rfl (by show 2 * 0 + _ ≤ _; exact Nat.le_of_eq rfl) (hb hby at_14) (fun _ _ => ⟨rfl, rfl, (by decide : 3 + 1 ≤ _), (by decide : 8 + 4 ≤ _)⟩)
        dsimp only [Pt.U, Pt.locs, Pt.cells, Pt.slots] at X102 l102 y102 z102 st102 hQ102
        subst l102 y102 z102
        obtain ⟨b104, rfl, N102q, K102q, w105, w106, w107, w108, w109, w110⟩ := hQ102
        have N102 := Fr.app N88 N102q
        have K111 : Keep h0 T102.heap [] := K99.trans K102q (fun x q => nomatch q)
        have C112 : CHv Z consts_1 s.vm T102.heap := CHv.keep K102q sf0 C100
        have R113 : CHr Z consts_1 s.vm h0 s.vm T102.heap := R101.trans (CHr.keep K102q sf0 C100)
        have O115 : Old Z n0 T102.heap := O103.keep K102q all0
        obtain ⟨cq114, kq114, q114a, q114b, q114c⟩ := isOf hZ rfl w106
        obtain ⟨_, _, ⟨T114, L114, k114, n114⟩, -, X114, ⟨Lc114, hQ114, l114, y114, z114⟩, st114⟩ := X102.virtualBack hx (y := (⟨"com/example/foreground_courier/foregroundcourier/Failure", "body", "()Ljava/lang/String;"⟩ : MethodName)) (z := (⟨"com/example/foreground_courier/foregroundcourier/Failure", "body", "()Ljava/lang/String;"⟩ : MethodName)) hown (mvT hZ (hw _ (List.mem_of_getElem? (i := 55) rfl))) (mvT hZ (hw _ (List.mem_of_getElem? (i := 56) rfl))) (notFace_of_selects (args := #[]) (mvT hZ (hw _ (List.mem_of_getElem? (i := 58) rfl)))) (mvT hZ (hw _ (List.mem_of_getElem? (i := 58) rfl))) (mvT hZ (hw _ (List.mem_of_getElem? (i := 57) rfl))) (by decide) (backOf (s := s.setVm s.vm) (W := 0) (rm6 l Z a0 hw []  b104 b89 T102.heap n0 O115 w109) hZ (hw _ (List.mem_of_getElem? (i := 59) rfl)) (hw _ (List.mem_of_getElem? (i := 36) rfl)) (by decide) (by decide)) q114a q114c (g := (mkF m 28 #[.val (.int p1), .val (.int p2), .val (.int p3), .val (.int (p3 &&& (3 : Int32))), .val (.ref b89), .val (.ref b104), .unset] [(.ref b104)])) rfl (by rw [hml]; rfl) (Steps.refl _) (argsL := []) (rest := []) (lenOf pd5 rfl) rfl (by show 2 * 0 + _ ≤ _; exact Nat.le_of_eq rfl) (hb hby at_28) (fun _ _ => ⟨rfl, rfl, (by decide : 4 + 0 ≤ _), (by decide : 12 + 0 ≤ _)⟩)
        dsimp only [Pt.U, Pt.locs, Pt.cells, Pt.slots] at X114 l114 y114 z114 st114 hQ114
        subst l114 y114 z114
        obtain ⟨rfl, N114q, e114q⟩ := hQ114
        have N114 := Fr.app N102 N114q
        obtain ⟨cq116, kq116, q116a, q116b, q116c⟩ := isOf hZ e114q w106
        obtain ⟨_, _, ⟨T116, L116, k116, n116⟩, -, X116, ⟨Lc116, hQ116, l116, y116, z116⟩, st116⟩ := X114.virtualBack hx (y := (⟨"com/example/foreground_courier/foregroundcourier/Failure", "kind", "()Lcom/example/foreground_courier/foregroundcourier/Failure$Kind;"⟩ : MethodName)) (z := (⟨"com/example/foreground_courier/foregroundcourier/Failure", "kind", "()Lcom/example/foreground_courier/foregroundcourier/Failure$Kind;"⟩ : MethodName)) hown (mvT hZ (hw _ (List.mem_of_getElem? (i := 60) rfl))) (mvT hZ (hw _ (List.mem_of_getElem? (i := 61) rfl))) (notFace_of_selects (args := #[]) (mvT hZ (hw _ (List.mem_of_getElem? (i := 63) rfl)))) (mvT hZ (hw _ (List.mem_of_getElem? (i := 63) rfl))) (mvT hZ (hw _ (List.mem_of_getElem? (i := 62) rfl))) (by decide) (backOf (s := s.setVm s.vm) (W := 0) (rm7 l Z a0 hw [] g_HTTP_STATUS b104 T102.heap n0 O115 hEN w107) hZ (hw _ (List.mem_of_getElem? (i := 64) rfl)) (hw _ (List.mem_of_getElem? (i := 36) rfl)) (by decide) (by decide)) q116a q116c (g := (mkF m 35 #[.val (.int p1), .val (.int p2), .val (.int p3), .val (.int (p3 &&& (3 : Int32))), .val (.ref b89), .val (.ref b104), .val (.ref b89)] [(.ref b104)])) rfl (by rw [hml]; rfl) (Steps.refl _) (argsL := []) (rest := []) (lenOf pd6 rfl) rfl (by show 2 * 0 + _ ≤ _; exact Nat.le_of_eq rfl) (hb hby at_35) (fun _ _ => ⟨rfl, e114q, (by decide : 4 + 0 ≤ _), (by decide : 12 + 0 ≤ _)⟩)
        dsimp only [Pt.U, Pt.locs, Pt.cells, Pt.slots] at X116 l116 y116 z116 st116 hQ116
        subst l116 y116 z116
        obtain ⟨rfl, N116q, e116q⟩ := hQ116
        have N116 := Fr.app N114 N116q
        obtain ⟨T117, X117, e117, st117⟩ := getS2 X116 hx hZ hown (host := "") (Or.inl (hw _ (List.mem_of_getElem? (i := 65) rfl))) Via.refl e116q (hEN.1.ext O115.2) (g := (mkF m 38 #[.val (.int p1), .val (.int p2), .val (.int p3), .val (.int (p3 &&& (3 : Int32))), .val (.ref b89), .val (.ref b104), .val (.ref b89)] [(.ref g_HTTP_STATUS)])) rfl (hb hby at_38)
        obtain ⟨cq118, kq118, q118a, q118b, q118c⟩ := isOf hZ e117 w106
        obtain ⟨_, _, ⟨T118, L118, k118, n118⟩, -, X118, ⟨Lc118, hQ118, l118, y118, z118⟩, st118⟩ := X117.virtualBack hx (y := (⟨"com/example/foreground_courier/foregroundcourier/Failure", "statusCode", "()I"⟩ : MethodName)) (z := (⟨"com/example/foreground_courier/foregroundcourier/Failure", "statusCode", "()I"⟩ : MethodName)) hown (mvT hZ (hw _ (List.mem_of_getElem? (i := 66) rfl))) (mvT hZ (hw _ (List.mem_of_getElem? (i := 67) rfl))) (notFace_of_selects (args := #[]) (mvT hZ (hw _ (List.mem_of_getElem? (i := 69) rfl)))) (mvT hZ (hw _ (List.mem_of_getElem? (i := 69) rfl))) (mvT hZ (hw _ (List.mem_of_getElem? (i := 68) rfl))) (by decide) (backOf (s := s.setVm s.vm) (W := 0) (rm8 l Z a0 hw []  b104 p1 T102.heap n0 O115 w108) hZ (hw _ (List.mem_of_getElem? (i := 70) rfl)) (hw _ (List.mem_of_getElem? (i := 36) rfl)) (by decide) (by decide)) q118a q118c (g := (mkF m 46 #[.val (.int p1), .val (.int p2), .val (.int p3), .val (.int (p3 &&& (3 : Int32))), .val (.ref b89), .val (.ref b104), .val (.ref b89)] [(.ref b104)])) rfl (by rw [hml]; rfl) (Steps.refl _) (argsL := []) (rest := []) (lenOf pd7 rfl) rfl (by show 2 * 0 + _ ≤ _; exact Nat.le_of_eq rfl) (hb hby at_46) (fun _ _ => ⟨rfl, e117, (by decide : 4 + 0 ≤ _), (by decide : 12 + 0 ≤ _)⟩)
        dsimp only [Pt.U, Pt.locs, Pt.cells, Pt.slots] at X118 l118 y118 z118 st118 hQ118
        subst l118 y118 z118
        obtain ⟨rfl, N118q, e118q⟩ := hQ118
        have N118 := Fr.app N116 N118q
        have hp120 : ∀ c ∈ ([(((p2 &&& (255 : Int32))).toUInt32.toUInt16.toUInt32.toInt32), ((((((p2).toUInt32 >>> ((8 : Int32) &&& 31).toUInt32).toInt32) &&& (255 : Int32))).toUInt32.toUInt16.toUInt32.toInt32)] : List Int32), ¬ c < 0 ∧ ¬ (255 : Int32) < c := (List.forall_mem_cons.mpr ⟨(own_lat p2), (List.forall_mem_cons.mpr ⟨(own_lat (((p2).toUInt32 >>> ((8 : Int32) &&& 31).toUInt32).toInt32)), (fun _ q => nomatch q)⟩)⟩)
        have E121_ : Exa Z T102.heap b89 "java/lang/String" := w95.keep K102q
        have F122_ : Fld Z T102.heap b89 "java/lang/String" "value" "[B" (.ref b90) := w97.keep K102q nin0
        have F123_ : Fld Z T102.heap b89 "java/lang/String" "coder" "B" (.int (0 : Int32)) := w96.keep K102q nin0
        have A124_ : Arv Z T102.heap b90 c91_ .byte (2 : Int32) ((([(((p2 &&& (255 : Int32))).toUInt32.toUInt16.toUInt32.toInt32), ((((((p2).toUInt32 >>> ((8 : Int32) &&& 31).toUInt32).toInt32) &&& (255 : Int32))).toUInt32.toUInt16.toUInt32.toInt32)] : List Int32).map (fun c => c.toInt8.toInt32)).map Value.int) (.int 0) := w98.keep K102q nin0
        have hcd125 : StrChars.Road.CodA ([(((p2 &&& (255 : Int32))).toUInt32.toUInt16.toUInt32.toInt32), ((((((p2).toUInt32 >>> ((8 : Int32) &&& 31).toUInt32).toInt32) &&& (255 : Int32))).toUInt32.toUInt16.toUInt32.toInt32)] : List Int32) 0 (2 : Int32) ((([(((p2 &&& (255 : Int32))).toUInt32.toUInt16.toUInt32.toInt32), ((((((p2).toUInt32 >>> ((8 : Int32) &&& 31).toUInt32).toInt32) &&& (255 : Int32))).toUInt32.toUInt16.toUInt32.toInt32)] : List Int32).map (fun c => c.toInt8.toInt32)).map Value.int) := StrChars.Road.codOf (n := 2) rfl (fun x hx => (hp120 x hx).2)
        have hbd125 : ∀ x ∈ ([(((p2 &&& (255 : Int32))).toUInt32.toUInt16.toUInt32.toInt32), ((((((p2).toUInt32 >>> ((8 : Int32) &&& 31).toUInt32).toInt32) &&& (255 : Int32))).toUInt32.toUInt16.toUInt32.toInt32)] : List Int32), ¬ x < 0 ∧ ¬ (65535 : Int32) < x := own_up _ hp120
        obtain ⟨cq119, kq119, q119a, q119b, q119c⟩ := isOf hZ e118q E121_
        obtain ⟨_, _, ⟨T119, L119, k119, n119⟩, -, X119, ⟨Lc119, hQ119, l119, y119, z119⟩, st119⟩ := X118.virtualBack hx (y := (⟨"java/lang/String", "length", "()I"⟩ : MethodName)) (z := (⟨"java/lang/String", "length", "()I"⟩ : MethodName)) hown (mvT hZ (hw _ (List.mem_of_getElem? (i := 71) rfl))) (mvT hZ (hw _ (List.mem_of_getElem? (i := 72) rfl))) (notFace_of_selects (args := #[]) (mvT hZ (hw _ (List.mem_of_getElem? (i := 74) rfl)))) (mvT hZ (hw _ (List.mem_of_getElem? (i := 74) rfl))) (mvT hZ (hw _ (List.mem_of_getElem? (i := 73) rfl))) (by decide) (StrChars.Road.lenW (s := s.setVm s.vm) (W := 0) hZ (own_wl hw) (kI := 4) (hw _ (List.mem_of_getElem? (i := 5) rfl)) E121_ F122_ F123_ A124_ hcd125 hbd125 (O2.ext O115.2) P5 (Nat.le_of_ble_eq_true rfl) (by decide) (by decide)) q119a q119c (g := (mkF m 60 #[.val (.int p1), .val (.int p2), .val (.int p3), .val (.int (p3 &&& (3 : Int32))), .val (.ref b89), .val (.ref b104), .val (.ref b89)] [(.ref b89)])) rfl (by rw [hml]; rfl) (Steps.refl _) (argsL := []) (rest := []) (lenOf pd7 rfl) rfl (by show 2 * 0 + _ ≤ _; exact Nat.le_of_eq rfl) (hb hby at_60) (fun _ _ => ⟨rfl, e118q, (by decide : 4 + 0 ≤ _), (by decide : 12 + 0 ≤ _)⟩)
        dsimp only [Pt.U, Pt.locs, Pt.cells, Pt.slots] at X119 l119 y119 z119 st119 hQ119
        subst l119 y119 z119
        obtain ⟨rfl, rfl, e119q⟩ := hQ119
        have N119 := Fr.app N118 (Fr.nil n0)
        obtain ⟨cq126, kq126, q126a, q126b, q126c⟩ := isOf hZ e119q E121_
        obtain ⟨_, _, ⟨T126, L126, k126, n126⟩, -, X126, ⟨Lc126, hQ126, l126, y126, z126⟩, st126⟩ := X119.virtualBack hx (y := (⟨"java/lang/String", "equals", "(Ljava/lang/Object;)Z"⟩ : MethodName)) (z := (⟨"java/lang/String", "equals", "(Ljava/lang/Object;)Z"⟩ : MethodName)) hown (mvT hZ (hw _ (List.mem_of_getElem? (i := 81) rfl))) (mvT hZ (hw _ (List.mem_of_getElem? (i := 82) rfl))) (notFace_of_selects (args := #[]) (mvT hZ (hw _ (List.mem_of_getElem? (i := 84) rfl)))) (mvT hZ (hw _ (List.mem_of_getElem? (i := 84) rfl))) (mvT hZ (hw _ (List.mem_of_getElem? (i := 83) rfl))) (by decide) (backOf (s := s.setVm s.vm) (W := 0) (rm9 l Z a0 hw []  b89 T102.heap n0 O115 ) hZ (hw _ (List.mem_of_getElem? (i := 85) rfl)) (hw _ (List.mem_of_getElem? (i := 6) rfl)) (by decide) (by decide)) q126a q126c (g := (mkF m 71 #[.val (.int p1), .val (.int p2), .val (.int p3), .val (.int (p3 &&& (3 : Int32))), .val (.ref b89), .val (.ref b104), .val (.ref b89)] [(.ref b89), (.ref b89)])) rfl (by rw [hml]; rfl) (Steps.refl _) (argsL := [(.ref b89)]) (rest := []) (lenOf pd8 rfl) rfl (by show 2 * 0 + _ ≤ _; exact Nat.le_of_eq rfl) (hb hby at_71) (fun _ _ => ⟨rfl, e119q, (by decide : 4 + 0 ≤ _), (by decide : 12 + 0 ≤ _)⟩)
        dsimp only [Pt.U, Pt.locs, Pt.cells, Pt.slots] at X126 l126 y126 z126 st126 hQ126
        subst l126 y126 z126
        obtain ⟨rfl, N126q, e126q⟩ := hQ126
        have N126 := Fr.app N119 N126q
        obtain ⟨cq127, kq127, q127a, q127b, q127c⟩ := isOf hZ e126q w106
        obtain ⟨_, _, ⟨T127, L127, k127, n127⟩, -, X127, ⟨Lc127, hQ127, l127, y127, z127⟩, st127⟩ := X126.virtualBack hx (y := (⟨"com/example/foreground_courier/foregroundcourier/Failure", "cause", "()Ljava/lang/Throwable;"⟩ : MethodName)) (z := (⟨"com/example/foreground_courier/foregroundcourier/Failure", "cause", "()Ljava/lang/Throwable;"⟩ : MethodName)) hown (mvT hZ (hw _ (List.mem_of_getElem? (i := 86) rfl))) (mvT hZ (hw _ (List.mem_of_getElem? (i := 87) rfl))) (notFace_of_selects (args := #[]) (mvT hZ (hw _ (List.mem_of_getElem? (i := 89) rfl)))) (mvT hZ (hw _ (List.mem_of_getElem? (i := 89) rfl))) (mvT hZ (hw _ (List.mem_of_getElem? (i := 88) rfl))) (by decide) (backOf (s := s.setVm s.vm) (W := 0) (rm10 l Z a0 hw []  b104 T102.heap n0 O115 w110) hZ (hw _ (List.mem_of_getElem? (i := 90) rfl)) (hw _ (List.mem_of_getElem? (i := 36) rfl)) (by decide) (by decide)) q127a q127c (g := (mkF m 79 #[.val (.int p1), .val (.int p2), .val (.int p3), .val (.int (p3 &&& (3 : Int32))), .val (.ref b89), .val (.ref b104), .val (.ref b89)] [(.ref b104)])) rfl (by rw [hml]; rfl) (Steps.refl _) (argsL := []) (rest := []) (lenOf pd9 rfl) rfl (by show 2 * 0 + _ ≤ _; exact Nat.le_of_eq rfl) (hb hby at_79) (fun _ _ => ⟨rfl, e126q, (by decide : 4 + 0 ≤ _), (by decide : 12 + 0 ≤ _)⟩)
        dsimp only [Pt.U, Pt.locs, Pt.cells, Pt.slots] at X127 l127 y127 z127 st127 hQ127
        subst l127 y127 z127
        obtain ⟨rfl, N127q, e127q⟩ := hQ127
        have N127 := Fr.app N126 N127q
        have hk128' : _ ≤ T102.heap.size := (Nat.le_trans (Nat.le_trans hk0 K88q.1) K102q.1)
        obtain ⟨fs, hr, hrun, hended, hEnd⟩ := X127.leaveW (s := s) hS0 (by rw [show T127.heap = T102.heap from e127q]; exact hk128') (v := (some (.int (1 : Int32)))) (fun h => by rw [Bd.returns] at h; cases h)
        have hCe : CHr Z consts_1 s.vm h0 T127.vm T102.heap := R113.trans (CHv.at X127 hZ hEL C112)
        refine ⟨_, _, pr2 _ ?_, hrun, hended, _, _, rfl, ?_, ?_, hEnd.1, hEnd.2.1, hEnd.2.2.1, hEnd.2.2.2.mono (by decide) (by decide)⟩
        · show Steps p.tables e below (s₁.setTop (mkF m 6 #[.val (.int p1), .val (.int p2), .val (.int p3), .val (.int (p3 &&& (3 : Int32))), .unset, .unset, .unset] [(.int (p3 &&& (3 : Int32))), (.int p2)])) _
          refine st88 _ ?_
          show Steps p.tables e below (T88.setTop (mkF m 9 #[.val (.int p1), .val (.int p2), .val (.int p3), .val (.int (p3 &&& (3 : Int32))), .unset, .unset, .unset] [(.ref b89)])) _
          refine XS.astore X88.here hx rfl (hb hby at_9) rfl rfl (l' := #[.val (.int p1), .val (.int p2), .val (.int p3), .val (.int (p3 &&& (3 : Int32))), .val (.ref b89), .unset, .unset]) rfl ?_
          show Steps p.tables e below (T88.setTop (mkF m 11 #[.val (.int p1), .val (.int p2), .val (.int p3), .val (.int (p3 &&& (3 : Int32))), .val (.ref b89), .unset, .unset] [])) _
          refine XS.iloadN X88.here hx rfl (hb hby at_11) rfl ?_
          show Steps p.tables e below (T88.setTop (mkF m 12 #[.val (.int p1), .val (.int p2), .val (.int p3), .val (.int (p3 &&& (3 : Int32))), .val (.ref b89), .unset, .unset] [(.int p1)])) _
          refine XS.aload X88.here hx rfl (hb hby at_12) rfl rfl ?_
          show Steps p.tables e below (T88.setTop (mkF m 14 #[.val (.int p1), .val (.int p2), .val (.int p3), .val (.int (p3 &&& (3 : Int32))), .val (.ref b89), .unset, .unset] [(.ref b89), (.int p1)])) _
          refine st102 _ ?_
          show Steps p.tables e below (T102.setTop (mkF m 17 #[.val (.int p1), .val (.int p2), .val (.int p3), .val (.int (p3 &&& (3 : Int32))), .val (.ref b89), .unset, .unset] [(.ref b104)])) _
          refine XS.astore X102.here hx rfl (hb hby at_17) rfl rfl (l' := #[.val (.int p1), .val (.int p2), .val (.int p3), .val (.int (p3 &&& (3 : Int32))), .val (.ref b89), .val (.ref b104), .unset]) rfl ?_
          show Steps p.tables e below (T102.setTop (mkF m 19 #[.val (.int p1), .val (.int p2), .val (.int p3), .val (.int (p3 &&& (3 : Int32))), .val (.ref b89), .val (.ref b104), .unset] [])) _
          refine XS.aload X102.here hx rfl (hb hby at_19) rfl rfl ?_
          show Steps p.tables e below (T102.setTop (mkF m 21 #[.val (.int p1), .val (.int p2), .val (.int p3), .val (.int (p3 &&& (3 : Int32))), .val (.ref b89), .val (.ref b104), .unset] [(.ref b104)])) _
          refine XS.ifnonnullYes X102.here hx rfl (pc0 := 21) (pc' := 26) rfl (hb hby at_21) rfl (by decide) (by decide) ?_
          show Steps p.tables e below (T102.setTop (mkF m 26 #[.val (.int p1), .val (.int p2), .val (.int p3), .val (.int (p3 &&& (3 : Int32))), .val (.ref b89), .val (.ref b104), .unset] [])) _
          refine XS.aload X102.here hx rfl (hb hby at_26) rfl rfl ?_
          show Steps p.tables e below (T102.setTop (mkF m 28 #[.val (.int p1), .val (.int p2), .val (.int p3), .val (.int (p3 &&& (3 : Int32))), .val (.ref b89), .val (.ref b104), .unset] [(.ref b104)])) _
          refine st114.trans ?_
          show Steps p.tables e below (T114.setTop (mkF m 31 #[.val (.int p1), .val (.int p2), .val (.int p3), .val (.int (p3 &&& (3 : Int32))), .val (.ref b89), .val (.ref b104), .unset] [(.ref b89)])) _
          refine XS.astore X114.here hx rfl (hb hby at_31) rfl rfl (l' := #[.val (.int p1), .val (.int p2), .val (.int p3), .val (.int (p3 &&& (3 : Int32))), .val (.ref b89), .val (.ref b104), .val (.ref b89)]) rfl ?_
          show Steps p.tables e below (T114.setTop (mkF m 33 #[.val (.int p1), .val (.int p2), .val (.int p3), .val (.int (p3 &&& (3 : Int32))), .val (.ref b89), .val (.ref b104), .val (.ref b89)] [])) _
          refine XS.aload X114.here hx rfl (hb hby at_33) rfl rfl ?_
          show Steps p.tables e below (T114.setTop (mkF m 35 #[.val (.int p1), .val (.int p2), .val (.int p3), .val (.int (p3 &&& (3 : Int32))), .val (.ref b89), .val (.ref b104), .val (.ref b89)] [(.ref b104)])) _
          refine st116.trans ?_
          show Steps p.tables e below (T116.setTop (mkF m 38 #[.val (.int p1), .val (.int p2), .val (.int p3), .val (.int (p3 &&& (3 : Int32))), .val (.ref b89), .val (.ref b104), .val (.ref b89)] [(.ref g_HTTP_STATUS)])) _
          refine st117 _ ?_
          show Steps p.tables e below (T117.setTop (mkF m 41 #[.val (.int p1), .val (.int p2), .val (.int p3), .val (.int (p3 &&& (3 : Int32))), .val (.ref b89), .val (.ref b104), .val (.ref b89)] [(.ref g_HTTP_STATUS), (.ref g_HTTP_STATUS)])) _
          refine Jvm.RoadKit.acmp (g := (mkF m 41 #[.val (.int p1), .val (.int p2), .val (.int p3), .val (.int (p3 &&& (3 : Int32))), .val (.ref b89), .val (.ref b104), .val (.ref b89)] [(.ref g_HTTP_STATUS), (.ref g_HTTP_STATUS)])) X117 hx rfl rfl rfl (pc0 := 41) (pc' := 44) (same := true) rfl (hb hby at_41) rfl (decide_eq_true rfl) (by decide) (by decide) ?_
          show Steps p.tables e below (T117.setTop (mkF m 44 #[.val (.int p1), .val (.int p2), .val (.int p3), .val (.int (p3 &&& (3 : Int32))), .val (.ref b89), .val (.ref b104), .val (.ref b89)] [])) _
          refine XS.aload X117.here hx rfl (hb hby at_44) rfl rfl ?_
          show Steps p.tables e below (T117.setTop (mkF m 46 #[.val (.int p1), .val (.int p2), .val (.int p3), .val (.int (p3 &&& (3 : Int32))), .val (.ref b89), .val (.ref b104), .val (.ref b89)] [(.ref b104)])) _
          refine st118.trans ?_
          show Steps p.tables e below (T118.setTop (mkF m 49 #[.val (.int p1), .val (.int p2), .val (.int p3), .val (.int (p3 &&& (3 : Int32))), .val (.ref b89), .val (.ref b104), .val (.ref b89)] [(.int p1)])) _
          refine XS.iloadN X118.here hx rfl (hb hby at_49) rfl ?_
          show Steps p.tables e below (T118.setTop (mkF m 50 #[.val (.int p1), .val (.int p2), .val (.int p3), .val (.int (p3 &&& (3 : Int32))), .val (.ref b89), .val (.ref b104), .val (.ref b89)] [(.int p1), (.int p1)])) _
          refine XS.icmpNo X118.here hx rfl (hb hby at_50) rfl (XT.ii_ne_f (rfl : p1 = p1)) ?_
          show Steps p.tables e below (T118.setTop (mkF m 53 #[.val (.int p1), .val (.int p2), .val (.int p3), .val (.int (p3 &&& (3 : Int32))), .val (.ref b89), .val (.ref b104), .val (.ref b89)] [])) _
          refine XS.aload X118.here hx rfl (hb hby at_53) rfl rfl ?_
          show Steps p.tables e below (T118.setTop (mkF m 55 #[.val (.int p1), .val (.int p2), .val (.int p3), .val (.int (p3 &&& (3 : Int32))), .val (.ref b89), .val (.ref b104), .val (.ref b89)] [(.ref b89)])) _
          refine XS.ifnullNo X118.here hx rfl (hb hby at_55) rfl ?_
          show Steps p.tables e below (T118.setTop (mkF m 58 #[.val (.int p1), .val (.int p2), .val (.int p3), .val (.int (p3 &&& (3 : Int32))), .val (.ref b89), .val (.ref b104), .val (.ref b89)] [])) _
          refine XS.aload X118.here hx rfl (hb hby at_58) rfl rfl ?_
          show Steps p.tables e below (T118.setTop (mkF m 60 #[.val (.int p1), .val (.int p2), .val (.int p3), .val (.int (p3 &&& (3 : Int32))), .val (.ref b89), .val (.ref b104), .val (.ref b89)] [(.ref b89)])) _
          refine st119.trans ?_
          show Steps p.tables e below (T119.setTop (mkF m 63 #[.val (.int p1), .val (.int p2), .val (.int p3), .val (.int (p3 &&& (3 : Int32))), .val (.ref b89), .val (.ref b104), .val (.ref b89)] [(.int (2 : Int32))])) _
          refine XS.iloadN X119.here hx rfl (hb hby at_63) rfl ?_
          show Steps p.tables e below (T119.setTop (mkF m 64 #[.val (.int p1), .val (.int p2), .val (.int p3), .val (.int (p3 &&& (3 : Int32))), .val (.ref b89), .val (.ref b104), .val (.ref b89)] [(.int (p3 &&& (3 : Int32))), (.int (2 : Int32))])) _
          refine XS.icmpNo X119.here hx rfl (hb hby at_64) rfl (XT.ii_ne_f (hc87.symm : (2 : Int32) = (p3 &&& (3 : Int32)))) ?_
          show Steps p.tables e below (T119.setTop (mkF m 67 #[.val (.int p1), .val (.int p2), .val (.int p3), .val (.int (p3 &&& (3 : Int32))), .val (.ref b89), .val (.ref b104), .val (.ref b89)] [])) _
          refine XS.aload X119.here hx rfl (hb hby at_67) rfl rfl ?_
          show Steps p.tables e below (T119.setTop (mkF m 69 #[.val (.int p1), .val (.int p2), .val (.int p3), .val (.int (p3 &&& (3 : Int32))), .val (.ref b89), .val (.ref b104), .val (.ref b89)] [(.ref b89)])) _
          refine XS.aload X119.here hx rfl (hb hby at_69) rfl rfl ?_
          show Steps p.tables e below (T119.setTop (mkF m 71 #[.val (.int p1), .val (.int p2), .val (.int p3), .val (.int (p3 &&& (3 : Int32))), .val (.ref b89), .val (.ref b104), .val (.ref b89)] [(.ref b89), (.ref b89)])) _
          refine st126.trans ?_
          show Steps p.tables e below (T126.setTop (mkF m 74 #[.val (.int p1), .val (.int p2), .val (.int p3), .val (.int (p3 &&& (3 : Int32))), .val (.ref b89), .val (.ref b104), .val (.ref b89)] [(.int (1 : Int32))])) _
          refine XS.ifNo X126.here hx rfl (hb hby at_74) rfl (XT.i0_eq_f ((by decide) : ¬ ((1 : Int32) = (0 : Int32)))) ?_
          show Steps p.tables e below (T126.setTop (mkF m 77 #[.val (.int p1), .val (.int p2), .val (.int p3), .val (.int (p3 &&& (3 : Int32))), .val (.ref b89), .val (.ref b104), .val (.ref b89)] [])) _
          refine XS.aload X126.here hx rfl (hb hby at_77) rfl rfl ?_
          show Steps p.tables e below (T126.setTop (mkF m 79 #[.val (.int p1), .val (.int p2), .val (.int p3), .val (.int (p3 &&& (3 : Int32))), .val (.ref b89), .val (.ref b104), .val (.ref b89)] [(.ref b104)])) _
          refine st127.trans ?_
          show Steps p.tables e below (T127.setTop (mkF m 82 #[.val (.int p1), .val (.int p2), .val (.int p3), .val (.int (p3 &&& (3 : Int32))), .val (.ref b89), .val (.ref b104), .val (.ref b89)] [.null])) _
          refine XS.ifnonnullNo X127.here hx rfl (hb hby at_82) rfl ?_
          show Steps p.tables e below (T127.setTop (mkF m 85 #[.val (.int p1), .val (.int p2), .val (.int p3), .val (.int (p3 &&& (3 : Int32))), .val (.ref b89), .val (.ref b104), .val (.ref b89)] [])) _
          refine XS.iconst X127.here hx rfl (hb hby at_85) ?_
          show Steps p.tables e below (T127.setTop (mkF m 86 #[.val (.int p1), .val (.int p2), .val (.int p3), .val (.int (p3 &&& (3 : Int32))), .val (.ref b89), .val (.ref b104), .val (.ref b89)] [(.int (1 : Int32))])) _
          refine XS.goto X127.here hx rfl (pc0 := 86) (pc' := 90) rfl (hb hby at_86) (by decide) (by decide) ?_
          show Steps p.tables e below (T127.setTop (mkF m 90 #[.val (.int p1), .val (.int p2), .val (.int p3), .val (.int (p3 &&& (3 : Int32))), .val (.ref b89), .val (.ref b104), .val (.ref b89)] [(.int (1 : Int32))])) _
          exact retN X127 hx (t := .boolean) Bd.returns (by simp) (hb hby at_90) hr
        · show Q0 n0 _ T127.heap _
          rw [show T127.heap = T102.heap from e127q]
          exact ⟨rfl, N127⟩
        · show CHr Z consts_1 s.vm s.heap T127.vm T127.heap
          rw [hh]
          rw [show T127.heap = T102.heap from e127q]
          exact hCe
      ·
        skip
        obtain ⟨_, _, ⟨T129, L129, k129, n129⟩, -, X129, ⟨Lc129, hQ129, l129, y129, z129⟩, st129⟩ := Jvm.LawKit.callS X0 hx (y := (⟨"com/example/foreground_courier/foregroundcourier/FailureHttpStatusPinLaw", "makeBody", "(II)Ljava/lang/String;"⟩ : MethodName)) hown (mvT hZ (hw _ (List.mem_of_getElem? (i := 0) rfl))) (mvT hZ (hw _ (List.mem_of_getElem? (i := 1) rfl))) (mvT hZ (hw _ (List.mem_of_getElem? (i := 2) rfl))) (mvT hZ (hw _ (List.mem_of_getElem? (i := 3) rfl))) (by decide) (backOf (s := s.setVm s.vm) (W := 0) (rm13 l Z a0 hw [] G1 p2 (p3 &&& (3 : Int32)) h0 n0 X00 O2 P5 hc3 hc44 hc87) hZ (hw _ (List.mem_of_getElem? (i := 3) rfl)) (hw _ (List.mem_of_getElem? (i := 2) rfl)) (by decide) (by decide)) (g := (mkF m 6 #[.val (.int p1), .val (.int p2), .val (.int p3), .val (.int (p3 &&& (3 : Int32))), .unset, .unset, .unset] [(.int (p3 &&& (3 : Int32))), (.int p2)])) rfl (by rw [hml]; rfl) (argsL := [(.int p2), (.int (p3 &&& (3 : Int32)))]) (rest := []) (lenOf pd2 rfl) rfl (by show 2 * 0 + _ ≤ _; exact Nat.le_of_eq rfl) (hb hby at_6) (fun _ _ => ⟨rfl, e0, (by decide : 0 + 3 ≤ _), (by decide : 0 + 10 ≤ _)⟩)
        dsimp only [Pt.U, Pt.locs, Pt.cells, Pt.slots] at X129 l129 y129 z129 st129 hQ129
        subst l129 y129 z129
        obtain ⟨b130, b131, c132_, rfl, N129q, K129q, w133, w134, w135, w136, w137, w138, w139⟩ := hQ129
        have N129 := Fr.app N0 N129q
        have K140 : Keep h0 T129.heap [] := (Keep.refl h0 []).trans K129q (fun x q => nomatch q)
        have C141 : CHv Z consts_1 s.vm T129.heap := CHv.keep K129q sf0 hC0
        have R142 : CHr Z consts_1 s.vm h0 s.vm T129.heap := hR0.trans (CHr.keep K129q sf0 hC0)
        have O144 : Old Z n0 T129.heap := X00.keep K129q all0
        obtain ⟨_, _, ⟨T143, L143, k143, n143⟩, -, X143, ⟨Lc143, hQ143, l143, y143, z143⟩, st143⟩ := Jvm.LawKit.callS X129 hx (y := (⟨"com/example/foreground_courier/foregroundcourier/Failure", "httpStatus", "(ILjava/lang/String;)Lcom/example/foreground_courier/foregroundcourier/Failure;"⟩ : MethodName)) hown (mvT hZ (hw _ (List.mem_of_getElem? (i := 34) rfl))) (mvT hZ (hw _ (List.mem_of_getElem? (i := 35) rfl))) (mvT hZ (hw _ (List.mem_of_getElem? (i := 36) rfl))) (mvT hZ (hw _ (List.mem_of_getElem? (i := 37) rfl))) (by decide) (backOf (s := s.setVm s.vm) (W := 0) (rm5 l Z a0 hw [] g_HTTP_STATUS p1 b130 T129.heap n0 O144 hEN) hZ (hw _ (List.mem_of_getElem? (i := 37) rfl)) (hw _ (List.mem_of_getElem? (i := 36) rfl)) (by decide) (by decide)) (g := (mkF m 14 #[.val (.int p1), .val (.int p2), .val (.int p3), .val (.int (p3 &&& (3 : Int32))), .val (.ref b130), .unset, .unset] [(.ref b130), (.int p1)])) rfl (by rw [hml]; rfl) (argsL := [(.int p1), (.ref b130)]) (rest := []) (lenOf pd4 rfl) rfl (by show 2 * 0 + _ ≤ _; exact Nat.le_of_eq rfl) (hb hby at_14) (fun _ _ => ⟨rfl, rfl, (by decide : 3 + 1 ≤ _), (by decide : 10 + 4 ≤ _)⟩)
        dsimp only [Pt.U, Pt.locs, Pt.cells, Pt.slots] at X143 l143 y143 z143 st143 hQ143
        subst l143 y143 z143
        obtain ⟨b145, rfl, N143q, K143q, w146, w147, w148, w149, w150, w151⟩ := hQ143
        have N143 := Fr.app N129 N143q
        have K152 : Keep h0 T143.heap [] := K140.trans K143q (fun x q => nomatch q)
        have C153 : CHv Z consts_1 s.vm T143.heap := CHv.keep K143q sf0 C141
        have R154 : CHr Z consts_1 s.vm h0 s.vm T143.heap := R142.trans (CHr.keep K143q sf0 C141)
        have O156 : Old Z n0 T143.heap := O144.keep K143q all0
        obtain ⟨cq155, kq155, q155a, q155b, q155c⟩ := isOf hZ rfl w147
        obtain ⟨_, _, ⟨T155, L155, k155, n155⟩, -, X155, ⟨Lc155, hQ155, l155, y155, z155⟩, st155⟩ := X143.virtualBack hx (y := (⟨"com/example/foreground_courier/foregroundcourier/Failure", "body", "()Ljava/lang/String;"⟩ : MethodName)) (z := (⟨"com/example/foreground_courier/foregroundcourier/Failure", "body", "()Ljava/lang/String;"⟩ : MethodName)) hown (mvT hZ (hw _ (List.mem_of_getElem? (i := 55) rfl))) (mvT hZ (hw _ (List.mem_of_getElem? (i := 56) rfl))) (notFace_of_selects (args := #[]) (mvT hZ (hw _ (List.mem_of_getElem? (i := 58) rfl)))) (mvT hZ (hw _ (List.mem_of_getElem? (i := 58) rfl))) (mvT hZ (hw _ (List.mem_of_getElem? (i := 57) rfl))) (by decide) (backOf (s := s.setVm s.vm) (W := 0) (rm6 l Z a0 hw []  b145 b130 T143.heap n0 O156 w150) hZ (hw _ (List.mem_of_getElem? (i := 59) rfl)) (hw _ (List.mem_of_getElem? (i := 36) rfl)) (by decide) (by decide)) q155a q155c (g := (mkF m 28 #[.val (.int p1), .val (.int p2), .val (.int p3), .val (.int (p3 &&& (3 : Int32))), .val (.ref b130), .val (.ref b145), .unset] [(.ref b145)])) rfl (by rw [hml]; rfl) (Steps.refl _) (argsL := []) (rest := []) (lenOf pd5 rfl) rfl (by show 2 * 0 + _ ≤ _; exact Nat.le_of_eq rfl) (hb hby at_28) (fun _ _ => ⟨rfl, rfl, (by decide : 4 + 0 ≤ _), (by decide : 14 + 0 ≤ _)⟩)
        dsimp only [Pt.U, Pt.locs, Pt.cells, Pt.slots] at X155 l155 y155 z155 st155 hQ155
        subst l155 y155 z155
        obtain ⟨rfl, N155q, e155q⟩ := hQ155
        have N155 := Fr.app N143 N155q
        obtain ⟨cq157, kq157, q157a, q157b, q157c⟩ := isOf hZ e155q w147
        obtain ⟨_, _, ⟨T157, L157, k157, n157⟩, -, X157, ⟨Lc157, hQ157, l157, y157, z157⟩, st157⟩ := X155.virtualBack hx (y := (⟨"com/example/foreground_courier/foregroundcourier/Failure", "kind", "()Lcom/example/foreground_courier/foregroundcourier/Failure$Kind;"⟩ : MethodName)) (z := (⟨"com/example/foreground_courier/foregroundcourier/Failure", "kind", "()Lcom/example/foreground_courier/foregroundcourier/Failure$Kind;"⟩ : MethodName)) hown (mvT hZ (hw _ (List.mem_of_getElem? (i := 60) rfl))) (mvT hZ (hw _ (List.mem_of_getElem? (i := 61) rfl))) (notFace_of_selects (args := #[]) (mvT hZ (hw _ (List.mem_of_getElem? (i := 63) rfl)))) (mvT hZ (hw _ (List.mem_of_getElem? (i := 63) rfl))) (mvT hZ (hw _ (List.mem_of_getElem? (i := 62) rfl))) (by decide) (backOf (s := s.setVm s.vm) (W := 0) (rm7 l Z a0 hw [] g_HTTP_STATUS b145 T143.heap n0 O156 hEN w148) hZ (hw _ (List.mem_of_getElem? (i := 64) rfl)) (hw _ (List.mem_of_getElem? (i := 36) rfl)) (by decide) (by decide)) q157a q157c (g := (mkF m 35 #[.val (.int p1), .val (.int p2), .val (.int p3), .val (.int (p3 &&& (3 : Int32))), .val (.ref b130), .val (.ref b145), .val (.ref b130)] [(.ref b145)])) rfl (by rw [hml]; rfl) (Steps.refl _) (argsL := []) (rest := []) (lenOf pd6 rfl) rfl (by show 2 * 0 + _ ≤ _; exact Nat.le_of_eq rfl) (hb hby at_35) (fun _ _ => ⟨rfl, e155q, (by decide : 4 + 0 ≤ _), (by decide : 14 + 0 ≤ _)⟩)
        dsimp only [Pt.U, Pt.locs, Pt.cells, Pt.slots] at X157 l157 y157 z157 st157 hQ157
        subst l157 y157 z157
        obtain ⟨rfl, N157q, e157q⟩ := hQ157
        have N157 := Fr.app N155 N157q
        obtain ⟨T158, X158, e158, st158⟩ := getS2 X157 hx hZ hown (host := "") (Or.inl (hw _ (List.mem_of_getElem? (i := 65) rfl))) Via.refl e157q (hEN.1.ext O156.2) (g := (mkF m 38 #[.val (.int p1), .val (.int p2), .val (.int p3), .val (.int (p3 &&& (3 : Int32))), .val (.ref b130), .val (.ref b145), .val (.ref b130)] [(.ref g_HTTP_STATUS)])) rfl (hb hby at_38)
        obtain ⟨cq159, kq159, q159a, q159b, q159c⟩ := isOf hZ e158 w147
        obtain ⟨_, _, ⟨T159, L159, k159, n159⟩, -, X159, ⟨Lc159, hQ159, l159, y159, z159⟩, st159⟩ := X158.virtualBack hx (y := (⟨"com/example/foreground_courier/foregroundcourier/Failure", "statusCode", "()I"⟩ : MethodName)) (z := (⟨"com/example/foreground_courier/foregroundcourier/Failure", "statusCode", "()I"⟩ : MethodName)) hown (mvT hZ (hw _ (List.mem_of_getElem? (i := 66) rfl))) (mvT hZ (hw _ (List.mem_of_getElem? (i := 67) rfl))) (notFace_of_selects (args := #[]) (mvT hZ (hw _ (List.mem_of_getElem? (i := 69) rfl)))) (mvT hZ (hw _ (List.mem_of_getElem? (i := 69) rfl))) (mvT hZ (hw _ (List.mem_of_getElem? (i := 68) rfl))) (by decide) (backOf (s := s.setVm s.vm) (W := 0) (rm8 l Z a0 hw []  b145 p1 T143.heap n0 O156 w149) hZ (hw _ (List.mem_of_getElem? (i := 70) rfl)) (hw _ (List.mem_of_getElem? (i := 36) rfl)) (by decide) (by decide)) q159a q159c (g := (mkF m 46 #[.val (.int p1), .val (.int p2), .val (.int p3), .val (.int (p3 &&& (3 : Int32))), .val (.ref b130), .val (.ref b145), .val (.ref b130)] [(.ref b145)])) rfl (by rw [hml]; rfl) (Steps.refl _) (argsL := []) (rest := []) (lenOf pd7 rfl) rfl (by show 2 * 0 + _ ≤ _; exact Nat.le_of_eq rfl) (hb hby at_46) (fun _ _ => ⟨rfl, e158, (by decide : 4 + 0 ≤ _), (by decide : 14 + 0 ≤ _)⟩)
        dsimp only [Pt.U, Pt.locs, Pt.cells, Pt.slots] at X159 l159 y159 z159 st159 hQ159
        subst l159 y159 z159
        obtain ⟨rfl, N159q, e159q⟩ := hQ159
        have N159 := Fr.app N157 N159q
        have hp161 : ∀ c ∈ ([(((p2 &&& (255 : Int32))).toUInt32.toUInt16.toUInt32.toInt32), ((((((p2).toUInt32 >>> ((8 : Int32) &&& 31).toUInt32).toInt32) &&& (255 : Int32))).toUInt32.toUInt16.toUInt32.toInt32), ((((((p2).toUInt32 >>> ((16 : Int32) &&& 31).toUInt32).toInt32) &&& (255 : Int32))).toUInt32.toUInt16.toUInt32.toInt32)] : List Int32), ¬ c < 0 ∧ ¬ (255 : Int32) < c := (List.forall_mem_cons.mpr ⟨(own_lat p2), (List.forall_mem_cons.mpr ⟨(own_lat (((p2).toUInt32 >>> ((8 : Int32) &&& 31).toUInt32).toInt32)), (List.forall_mem_cons.mpr ⟨(own_lat (((p2).toUInt32 >>> ((16 : Int32) &&& 31).toUInt32).toInt32)), (fun _ q => nomatch q)⟩)⟩)⟩)
        have E162_ : Exa Z T143.heap b130 "java/lang/String" := w136.keep K143q
        have F163_ : Fld Z T143.heap b130 "java/lang/String" "value" "[B" (.ref b131) := w138.keep K143q nin0
        have F164_ : Fld Z T143.heap b130 "java/lang/String" "coder" "B" (.int (0 : Int32)) := w137.keep K143q nin0
        have A165_ : Arv Z T143.heap b131 c132_ .byte (3 : Int32) ((([(((p2 &&& (255 : Int32))).toUInt32.toUInt16.toUInt32.toInt32), ((((((p2).toUInt32 >>> ((8 : Int32) &&& 31).toUInt32).toInt32) &&& (255 : Int32))).toUInt32.toUInt16.toUInt32.toInt32), ((((((p2).toUInt32 >>> ((16 : Int32) &&& 31).toUInt32).toInt32) &&& (255 : Int32))).toUInt32.toUInt16.toUInt32.toInt32)] : List Int32).map (fun c => c.toInt8.toInt32)).map Value.int) (.int 0) := w139.keep K143q nin0
        have hcd166 : StrChars.Road.CodA ([(((p2 &&& (255 : Int32))).toUInt32.toUInt16.toUInt32.toInt32), ((((((p2).toUInt32 >>> ((8 : Int32) &&& 31).toUInt32).toInt32) &&& (255 : Int32))).toUInt32.toUInt16.toUInt32.toInt32), ((((((p2).toUInt32 >>> ((16 : Int32) &&& 31).toUInt32).toInt32) &&& (255 : Int32))).toUInt32.toUInt16.toUInt32.toInt32)] : List Int32) 0 (3 : Int32) ((([(((p2 &&& (255 : Int32))).toUInt32.toUInt16.toUInt32.toInt32), ((((((p2).toUInt32 >>> ((8 : Int32) &&& 31).toUInt32).toInt32) &&& (255 : Int32))).toUInt32.toUInt16.toUInt32.toInt32), ((((((p2).toUInt32 >>> ((16 : Int32) &&& 31).toUInt32).toInt32) &&& (255 : Int32))).toUInt32.toUInt16.toUInt32.toInt32)] : List Int32).map (fun c => c.toInt8.toInt32)).map Value.int) := StrChars.Road.codOf (n := 3) rfl (fun x hx => (hp161 x hx).2)
        have hbd166 : ∀ x ∈ ([(((p2 &&& (255 : Int32))).toUInt32.toUInt16.toUInt32.toInt32), ((((((p2).toUInt32 >>> ((8 : Int32) &&& 31).toUInt32).toInt32) &&& (255 : Int32))).toUInt32.toUInt16.toUInt32.toInt32), ((((((p2).toUInt32 >>> ((16 : Int32) &&& 31).toUInt32).toInt32) &&& (255 : Int32))).toUInt32.toUInt16.toUInt32.toInt32)] : List Int32), ¬ x < 0 ∧ ¬ (65535 : Int32) < x := own_up _ hp161
        obtain ⟨cq160, kq160, q160a, q160b, q160c⟩ := isOf hZ e159q E162_
        obtain ⟨_, _, ⟨T160, L160, k160, n160⟩, -, X160, ⟨Lc160, hQ160, l160, y160, z160⟩, st160⟩ := X159.virtualBack hx (y := (⟨"java/lang/String", "length", "()I"⟩ : MethodName)) (z := (⟨"java/lang/String", "length", "()I"⟩ : MethodName)) hown (mvT hZ (hw _ (List.mem_of_getElem? (i := 71) rfl))) (mvT hZ (hw _ (List.mem_of_getElem? (i := 72) rfl))) (notFace_of_selects (args := #[]) (mvT hZ (hw _ (List.mem_of_getElem? (i := 74) rfl)))) (mvT hZ (hw _ (List.mem_of_getElem? (i := 74) rfl))) (mvT hZ (hw _ (List.mem_of_getElem? (i := 73) rfl))) (by decide) (StrChars.Road.lenW (s := s.setVm s.vm) (W := 0) hZ (own_wl hw) (kI := 4) (hw _ (List.mem_of_getElem? (i := 5) rfl)) E162_ F163_ F164_ A165_ hcd166 hbd166 (O2.ext O156.2) P5 (Nat.le_of_ble_eq_true rfl) (by decide) (by decide)) q160a q160c (g := (mkF m 60 #[.val (.int p1), .val (.int p2), .val (.int p3), .val (.int (p3 &&& (3 : Int32))), .val (.ref b130), .val (.ref b145), .val (.ref b130)] [(.ref b130)])) rfl (by rw [hml]; rfl) (Steps.refl _) (argsL := []) (rest := []) (lenOf pd7 rfl) rfl (by show 2 * 0 + _ ≤ _; exact Nat.le_of_eq rfl) (hb hby at_60) (fun _ _ => ⟨rfl, e159q, (by decide : 4 + 0 ≤ _), (by decide : 14 + 0 ≤ _)⟩)
        dsimp only [Pt.U, Pt.locs, Pt.cells, Pt.slots] at X160 l160 y160 z160 st160 hQ160
        subst l160 y160 z160
        obtain ⟨rfl, rfl, e160q⟩ := hQ160
        have N160 := Fr.app N159 (Fr.nil n0)
        obtain ⟨cq167, kq167, q167a, q167b, q167c⟩ := isOf hZ e160q E162_
        obtain ⟨_, _, ⟨T167, L167, k167, n167⟩, -, X167, ⟨Lc167, hQ167, l167, y167, z167⟩, st167⟩ := X160.virtualBack hx (y := (⟨"java/lang/String", "equals", "(Ljava/lang/Object;)Z"⟩ : MethodName)) (z := (⟨"java/lang/String", "equals", "(Ljava/lang/Object;)Z"⟩ : MethodName)) hown (mvT hZ (hw _ (List.mem_of_getElem? (i := 81) rfl))) (mvT hZ (hw _ (List.mem_of_getElem? (i := 82) rfl))) (notFace_of_selects (args := #[]) (mvT hZ (hw _ (List.mem_of_getElem? (i := 84) rfl)))) (mvT hZ (hw _ (List.mem_of_getElem? (i := 84) rfl))) (mvT hZ (hw _ (List.mem_of_getElem? (i := 83) rfl))) (by decide) (backOf (s := s.setVm s.vm) (W := 0) (rm9 l Z a0 hw []  b130 T143.heap n0 O156 ) hZ (hw _ (List.mem_of_getElem? (i := 85) rfl)) (hw _ (List.mem_of_getElem? (i := 6) rfl)) (by decide) (by decide)) q167a q167c (g := (mkF m 71 #[.val (.int p1), .val (.int p2), .val (.int p3), .val (.int (p3 &&& (3 : Int32))), .val (.ref b130), .val (.ref b145), .val (.ref b130)] [(.ref b130), (.ref b130)])) rfl (by rw [hml]; rfl) (Steps.refl _) (argsL := [(.ref b130)]) (rest := []) (lenOf pd8 rfl) rfl (by show 2 * 0 + _ ≤ _; exact Nat.le_of_eq rfl) (hb hby at_71) (fun _ _ => ⟨rfl, e160q, (by decide : 4 + 0 ≤ _), (by decide : 14 + 0 ≤ _)⟩)
        dsimp only [Pt.U, Pt.locs, Pt.cells, Pt.slots] at X167 l167 y167 z167 st167 hQ167
        subst l167 y167 z167
        obtain ⟨rfl, N167q, e167q⟩ := hQ167
        have N167 := Fr.app N160 N167q
        obtain ⟨cq168, kq168, q168a, q168b, q168c⟩ := isOf hZ e167q w147
        obtain ⟨_, _, ⟨T168, L168, k168, n168⟩, -, X168, ⟨Lc168, hQ168, l168, y168, z168⟩, st168⟩ := X167.virtualBack hx (y := (⟨"com/example/foreground_courier/foregroundcourier/Failure", "cause", "()Ljava/lang/Throwable;"⟩ : MethodName)) (z := (⟨"com/example/foreground_courier/foregroundcourier/Failure", "cause", "()Ljava/lang/Throwable;"⟩ : MethodName)) hown (mvT hZ (hw _ (List.mem_of_getElem? (i := 86) rfl))) (mvT hZ (hw _ (List.mem_of_getElem? (i := 87) rfl))) (notFace_of_selects (args := #[]) (mvT hZ (hw _ (List.mem_of_getElem? (i := 89) rfl)))) (mvT hZ (hw _ (List.mem_of_getElem? (i := 89) rfl))) (mvT hZ (hw _ (List.mem_of_getElem? (i := 88) rfl))) (by decide) (backOf (s := s.setVm s.vm) (W := 0) (rm10 l Z a0 hw []  b145 T143.heap n0 O156 w151) hZ (hw _ (List.mem_of_getElem? (i := 90) rfl)) (hw _ (List.mem_of_getElem? (i := 36) rfl)) (by decide) (by decide)) q168a q168c (g := (mkF m 79 #[.val (.int p1), .val (.int p2), .val (.int p3), .val (.int (p3 &&& (3 : Int32))), .val (.ref b130), .val (.ref b145), .val (.ref b130)] [(.ref b145)])) rfl (by rw [hml]; rfl) (Steps.refl _) (argsL := []) (rest := []) (lenOf pd9 rfl) rfl (by show 2 * 0 + _ ≤ _; exact Nat.le_of_eq rfl) (hb hby at_79) (fun _ _ => ⟨rfl, e167q, (by decide : 4 + 0 ≤ _), (by decide : 14 + 0 ≤ _)⟩)
        dsimp only [Pt.U, Pt.locs, Pt.cells, Pt.slots] at X168 l168 y168 z168 st168 hQ168
        subst l168 y168 z168
        obtain ⟨rfl, N168q, e168q⟩ := hQ168
        have N168 := Fr.app N167 N168q
        have hk169' : _ ≤ T143.heap.size := (Nat.le_trans (Nat.le_trans hk0 K129q.1) K143q.1)
        obtain ⟨fs, hr, hrun, hended, hEnd⟩ := X168.leaveW (s := s) hS0 (by rw [show T168.heap = T143.heap from e168q]; exact hk169') (v := (some (.int (1 : Int32)))) (fun h => by rw [Bd.returns] at h; cases h)
        have hCe : CHr Z consts_1 s.vm h0 T168.vm T143.heap := R154.trans (CHv.at X168 hZ hEL C153)
        refine ⟨_, _, pr2 _ ?_, hrun, hended, _, _, rfl, ?_, ?_, hEnd.1, hEnd.2.1, hEnd.2.2.1, hEnd.2.2.2.mono (by decide) (by decide)⟩
        · show Steps p.tables e below (s₁.setTop (mkF m 6 #[.val (.int p1), .val (.int p2), .val (.int p3), .val (.int (p3 &&& (3 : Int32))), .unset, .unset, .unset] [(.int (p3 &&& (3 : Int32))), (.int p2)])) _
          refine st129 _ ?_
          show Steps p.tables e below (T129.setTop (mkF m 9 #[.val (.int p1), .val (.int p2), .val (.int p3), .val (.int (p3 &&& (3 : Int32))), .unset, .unset, .unset] [(.ref b130)])) _
          refine XS.astore X129.here hx rfl (hb hby at_9) rfl rfl (l' := #[.val (.int p1), .val (.int p2), .val (.int p3), .val (.int (p3 &&& (3 : Int32))), .val (.ref b130), .unset, .unset]) rfl ?_
          show Steps p.tables e below (T129.setTop (mkF m 11 #[.val (.int p1), .val (.int p2), .val (.int p3), .val (.int (p3 &&& (3 : Int32))), .val (.ref b130), .unset, .unset] [])) _
          refine XS.iloadN X129.here hx rfl (hb hby at_11) rfl ?_
          show Steps p.tables e below (T129.setTop (mkF m 12 #[.val (.int p1), .val (.int p2), .val (.int p3), .val (.int (p3 &&& (3 : Int32))), .val (.ref b130), .unset, .unset] [(.int p1)])) _
          refine XS.aload X129.here hx rfl (hb hby at_12) rfl rfl ?_
          show Steps p.tables e below (T129.setTop (mkF m 14 #[.val (.int p1), .val (.int p2), .val (.int p3), .val (.int (p3 &&& (3 : Int32))), .val (.ref b130), .unset, .unset] [(.ref b130), (.int p1)])) _
          refine st143 _ ?_
          show Steps p.tables e below (T143.setTop (mkF m 17 #[.val (.int p1), .val (.int p2), .val (.int p3), .val (.int (p3 &&& (3 : Int32))), .val (.ref b130), .unset, .unset] [(.ref b145)])) _
          refine XS.astore X143.here hx rfl (hb hby at_17) rfl rfl (l' := #[.val (.int p1), .val (.int p2), .val (.int p3), .val (.int (p3 &&& (3 : Int32))), .val (.ref b130), .val (.ref b145), .unset]) rfl ?_
          show Steps p.tables e below (T143.setTop (mkF m 19 #[.val (.int p1), .val (.int p2), .val (.int p3), .val (.int (p3 &&& (3 : Int32))), .val (.ref b130), .val (.ref b145), .unset] [])) _
          refine XS.aload X143.here hx rfl (hb hby at_19) rfl rfl ?_
          show Steps p.tables e below (T143.setTop (mkF m 21 #[.val (.int p1), .val (.int p2), .val (.int p3), .val (.int (p3 &&& (3 : Int32))), .val (.ref b130), .val (.ref b145), .unset] [(.ref b145)])) _
          refine XS.ifnonnullYes X143.here hx rfl (pc0 := 21) (pc' := 26) rfl (hb hby at_21) rfl (by decide) (by decide) ?_
          show Steps p.tables e below (T143.setTop (mkF m 26 #[.val (.int p1), .val (.int p2), .val (.int p3), .val (.int (p3 &&& (3 : Int32))), .val (.ref b130), .val (.ref b145), .unset] [])) _
          refine XS.aload X143.here hx rfl (hb hby at_26) rfl rfl ?_
          show Steps p.tables e below (T143.setTop (mkF m 28 #[.val (.int p1), .val (.int p2), .val (.int p3), .val (.int (p3 &&& (3 : Int32))), .val (.ref b130), .val (.ref b145), .unset] [(.ref b145)])) _
          refine st155.trans ?_
          show Steps p.tables e below (T155.setTop (mkF m 31 #[.val (.int p1), .val (.int p2), .val (.int p3), .val (.int (p3 &&& (3 : Int32))), .val (.ref b130), .val (.ref b145), .unset] [(.ref b130)])) _
          refine XS.astore X155.here hx rfl (hb hby at_31) rfl rfl (l' := #[.val (.int p1), .val (.int p2), .val (.int p3), .val (.int (p3 &&& (3 : Int32))), .val (.ref b130), .val (.ref b145), .val (.ref b130)]) rfl ?_
          show Steps p.tables e below (T155.setTop (mkF m 33 #[.val (.int p1), .val (.int p2), .val (.int p3), .val (.int (p3 &&& (3 : Int32))), .val (.ref b130), .val (.ref b145), .val (.ref b130)] [])) _
          refine XS.aload X155.here hx rfl (hb hby at_33) rfl rfl ?_
          show Steps p.tables e below (T155.setTop (mkF m 35 #[.val (.int p1), .val (.int p2), .val (.int p3), .val (.int (p3 &&& (3 : Int32))), .val (.ref b130), .val (.ref b145), .val (.ref b130)] [(.ref b145)])) _
          refine st157.trans ?_
          show Steps p.tables e below (T157.setTop (mkF m 38 #[.val (.int p1), .val (.int p2), .val (.int p3), .val (.int (p3 &&& (3 : Int32))), .val (.ref b130), .val (.ref b145), .val (.ref b130)] [(.ref g_HTTP_STATUS)])) _
          refine st158 _ ?_
          show Steps p.tables e below (T158.setTop (mkF m 41 #[.val (.int p1), .val (.int p2), .val (.int p3), .val (.int (p3 &&& (3 : Int32))), .val (.ref b130), .val (.ref b145), .val (.ref b130)] [(.ref g_HTTP_STATUS), (.ref g_HTTP_STATUS)])) _
          refine Jvm.RoadKit.acmp (g := (mkF m 41 #[.val (.int p1), .val (.int p2), .val (.int p3), .val (.int (p3 &&& (3 : Int32))), .val (.ref b130), .val (.ref b145), .val (.ref b130)] [(.ref g_HTTP_STATUS), (.ref g_HTTP_STATUS)])) X158 hx rfl rfl rfl (pc0 := 41) (pc' := 44) (same := true) rfl (hb hby at_41) rfl (decide_eq_true rfl) (by decide) (by decide) ?_
          show Steps p.tables e below (T158.setTop (mkF m 44 #[.val (.int p1), .val (.int p2), .val (.int p3), .val (.int (p3 &&& (3 : Int32))), .val (.ref b130), .val (.ref b145), .val (.ref b130)] [])) _
          refine XS.aload X158.here hx rfl (hb hby at_44) rfl rfl ?_
          show Steps p.tables e below (T158.setTop (mkF m 46 #[.val (.int p1), .val (.int p2), .val (.int p3), .val (.int (p3 &&& (3 : Int32))), .val (.ref b130), .val (.ref b145), .val (.ref b130)] [(.ref b145)])) _
          refine st159.trans ?_
          show Steps p.tables e below (T159.setTop (mkF m 49 #[.val (.int p1), .val (.int p2), .val (.int p3), .val (.int (p3 &&& (3 : Int32))), .val (.ref b130), .val (.ref b145), .val (.ref b130)] [(.int p1)])) _
          refine XS.iloadN X159.here hx rfl (hb hby at_49) rfl ?_
          show Steps p.tables e below (T159.setTop (mkF m 50 #[.val (.int p1), .val (.int p2), .val (.int p3), .val (.int (p3 &&& (3 : Int32))), .val (.ref b130), .val (.ref b145), .val (.ref b130)] [(.int p1), (.int p1)])) _
          refine XS.icmpNo X159.here hx rfl (hb hby at_50) rfl (XT.ii_ne_f (rfl : p1 = p1)) ?_
          show Steps p.tables e below (T159.setTop (mkF m 53 #[.val (.int p1), .val (.int p2), .val (.int p3), .val (.int (p3 &&& (3 : Int32))), .val (.ref b130), .val (.ref b145), .val (.ref b130)] [])) _
          refine XS.aload X159.here hx rfl (hb hby at_53) rfl rfl ?_
          show Steps p.tables e below (T159.setTop (mkF m 55 #[.val (.int p1), .val (.int p2), .val (.int p3), .val (.int (p3 &&& (3 : Int32))), .val (.ref b130), .val (.ref b145), .val (.ref b130)] [(.ref b130)])) _
          refine XS.ifnullNo X159.here hx rfl (hb hby at_55) rfl ?_
          show Steps p.tables e below (T159.setTop (mkF m 58 #[.val (.int p1), .val (.int p2), .val (.int p3), .val (.int (p3 &&& (3 : Int32))), .val (.ref b130), .val (.ref b145), .val (.ref b130)] [])) _
          refine XS.aload X159.here hx rfl (hb hby at_58) rfl rfl ?_
          show Steps p.tables e below (T159.setTop (mkF m 60 #[.val (.int p1), .val (.int p2), .val (.int p3), .val (.int (p3 &&& (3 : Int32))), .val (.ref b130), .val (.ref b145), .val (.ref b130)] [(.ref b130)])) _
          refine st160.trans ?_
          show Steps p.tables e below (T160.setTop (mkF m 63 #[.val (.int p1), .val (.int p2), .val (.int p3), .val (.int (p3 &&& (3 : Int32))), .val (.ref b130), .val (.ref b145), .val (.ref b130)] [(.int (3 : Int32))])) _
          refine XS.iloadN X160.here hx rfl (hb hby at_63) rfl ?_
          show Steps p.tables e below (T160.setTop (mkF m 64 #[.val (.int p1), .val (.int p2), .val (.int p3), .val (.int (p3 &&& (3 : Int32))), .val (.ref b130), .val (.ref b145), .val (.ref b130)] [(.int (p3 &&& (3 : Int32))), (.int (3 : Int32))])) _
          refine XS.icmpNo X160.here hx rfl (hb hby at_64) rfl (XT.ii_ne_f ((own_three3 hc3 hc44 hc87).symm : (3 : Int32) = (p3 &&& (3 : Int32)))) ?_
          show Steps p.tables e below (T160.setTop (mkF m 67 #[.val (.int p1), .val (.int p2), .val (.int p3), .val (.int (p3 &&& (3 : Int32))), .val (.ref b130), .val (.ref b145), .val (.ref b130)] [])) _
          refine XS.aload X160.here hx rfl (hb hby at_67) rfl rfl ?_
          show Steps p.tables e below (T160.setTop (mkF m 69 #[.val (.int p1), .val (.int p2), .val (.int p3), .val (.int (p3 &&& (3 : Int32))), .val (.ref b130), .val (.ref b145), .val (.ref b130)] [(.ref b130)])) _
          refine XS.aload X160.here hx rfl (hb hby at_69) rfl rfl ?_
          show Steps p.tables e below (T160.setTop (mkF m 71 #[.val (.int p1), .val (.int p2), .val (.int p3), .val (.int (p3 &&& (3 : Int32))), .val (.ref b130), .val (.ref b145), .val (.ref b130)] [(.ref b130), (.ref b130)])) _
          refine st167.trans ?_
          show Steps p.tables e below (T167.setTop (mkF m 74 #[.val (.int p1), .val (.int p2), .val (.int p3), .val (.int (p3 &&& (3 : Int32))), .val (.ref b130), .val (.ref b145), .val (.ref b130)] [(.int (1 : Int32))])) _
          refine XS.ifNo X167.here hx rfl (hb hby at_74) rfl (XT.i0_eq_f ((by decide) : ¬ ((1 : Int32) = (0 : Int32)))) ?_
          show Steps p.tables e below (T167.setTop (mkF m 77 #[.val (.int p1), .val (.int p2), .val (.int p3), .val (.int (p3 &&& (3 : Int32))), .val (.ref b130), .val (.ref b145), .val (.ref b130)] [])) _
          refine XS.aload X167.here hx rfl (hb hby at_77) rfl rfl ?_
          show Steps p.tables e below (T167.setTop (mkF m 79 #[.val (.int p1), .val (.int p2), .val (.int p3), .val (.int (p3 &&& (3 : Int32))), .val (.ref b130), .val (.ref b145), .val (.ref b130)] [(.ref b145)])) _
          refine st168.trans ?_
          show Steps p.tables e below (T168.setTop (mkF m 82 #[.val (.int p1), .val (.int p2), .val (.int p3), .val (.int (p3 &&& (3 : Int32))), .val (.ref b130), .val (.ref b145), .val (.ref b130)] [.null])) _
          refine XS.ifnonnullNo X168.here hx rfl (hb hby at_82) rfl ?_
          show Steps p.tables e below (T168.setTop (mkF m 85 #[.val (.int p1), .val (.int p2), .val (.int p3), .val (.int (p3 &&& (3 : Int32))), .val (.ref b130), .val (.ref b145), .val (.ref b130)] [])) _
          refine XS.iconst X168.here hx rfl (hb hby at_85) ?_
          show Steps p.tables e below (T168.setTop (mkF m 86 #[.val (.int p1), .val (.int p2), .val (.int p3), .val (.int (p3 &&& (3 : Int32))), .val (.ref b130), .val (.ref b145), .val (.ref b130)] [(.int (1 : Int32))])) _
          refine XS.goto X168.here hx rfl (pc0 := 86) (pc' := 90) rfl (hb hby at_86) (by decide) (by decide) ?_
          show Steps p.tables e below (T168.setTop (mkF m 90 #[.val (.int p1), .val (.int p2), .val (.int p3), .val (.int (p3 &&& (3 : Int32))), .val (.ref b130), .val (.ref b145), .val (.ref b130)] [(.int (1 : Int32))])) _
          exact retN X168 hx (t := .boolean) Bd.returns (by simp) (hb hby at_90) hr
        · show Q0 n0 _ T168.heap _
          rw [show T168.heap = T143.heap from e168q]
          exact ⟨rfl, N168⟩
        · show CHr Z consts_1 s.vm s.heap T168.vm T168.heap
          rw [hh]
          rw [show T168.heap = T143.heap from e168q]
          exact hCe
set_option maxRecDepth 65536 in
set_option maxHeartbeats 40000000 in
theorem comes_1 {Post : Tables → Env → Array Value → State → Outcome → State → Prop} (hpost : ∀ tb e args s v u, (limb_1_1.after args s (.returned v) u = true ∧ limb_1_2.after args s (.returned v) u = true ∧ True) → ReturnedEndW s (.returned v) u (Jvm.fieldLocs frame_1_writes args s ++ Jvm.arrayLocs frame_1_arrays args s ++ Jvm.staticLocs frame_1_statics s) 24 1152 → Post tb e args s (.returned v) u) :
    ArmFor flags0 classFile x code maxLocals ret World_1 tables_1 room_1 Calls_1 rest_1 Pre_1 Post := by
  intro l hfl _ _ p e ha hc hk s m args below hf hA hF happ hP
  obtain ⟨hcalls, hrest, hpre⟩ := hP
  obtain ⟨-, -, -, hnamed, -, -, -, hat⟩ := (Spec.applies_iff hf).mp happ
  obtain ⟨hg, hn⟩ := and_e (Cond.before_iff.mp (show (Jvm.Cond.and given_1 narrow_1).before args s = true from hpre))
  obtain ⟨hg0, hg1⟩ := and_e hg
  obtain ⟨ha1, hg2⟩ := and_e hg1
  obtain ⟨ha2, hg3⟩ := and_e hg2
  obtain ⟨w1, w2, w3, rfl⟩ : ∃ w1 w2 w3 : Value, args = #[w1, w2, w3] := by
    have hs : args.size = 3 := by simpa [Cond.value, given_1] using hg0
    obtain ⟨L⟩ := args
    match L, hs with
    | [w1, w2, w3], _ => exact ⟨w1, w2, w3, rfl⟩
  have hw := fun d (hd : d ∈ tables_1) => atoms_spec (ws := Jvm.Cond.code x code maxLocals ret :: tables_1) hat d (List.mem_cons_of_mem _ hd)
  obtain ⟨hsets, hown0⟩ := atoms_of _ (rest_1_c_eq ▸ (show rest_1_c.before _ s = true from hrest))
  have hfit : Fit s := fun {y c} hc i hi => by
    obtain ⟨ha, rfl⟩ := Array.getElem?_eq_some_iff.mp hc
    have q := List.all_eq_true.mp ((Array.all_eq_true_iff_forall_mem.mp hF) _ (Array.getElem_mem ha)) i (List.mem_range.mpr hi)
    simpa [Array.getElem?_eq_getElem hi] using q
  obtain ⟨i1, ei1⟩ := is_v ha1
  obtain rfl : w1 = (.int i1) := Option.some.inj ei1
  obtain ⟨i2, ei2⟩ := is_v ha2
  obtain rfl : w2 = (.int i2) := Option.some.inj ei2
  obtain ⟨i3, ei3⟩ := is_v hg3
  obtain rfl : w3 = (.int i3) := Option.some.inj ei3
  obtain ⟨g_HTTP_STATUS, ev_g_HTTP_STATUS⟩ := exa_v hn
  have hEN : OwnEN s g_HTTP_STATUS := ⟨Sta.start ev_g_HTTP_STATUS (Or.inr ⟨(hw _ (List.mem_of_getElem? (i := 41) rfl)), (hw _ (List.mem_of_getElem? (i := 42) rfl))⟩), Exa.start ev_g_HTTP_STATUS hn⟩
  have nCS := not_v (Cond.before_iff.mp (hsets _ (List.mem_of_getElem? (i := 2) rfl)))
  obtain ⟨G1, eCS⟩ := is_v (Cond.before_iff.mp (hsets _ (List.mem_of_getElem? (i := 1) rfl)))
  have O2 : Sta s s.heap "java/lang/String" "COMPACT_STRINGS" "Z" (.int G1) := Sta.start eCS (Or.inl (hsets _ (List.mem_of_getElem? (i := 0) rfl)))
  have P5 : ¬ (G1 = (0 : Int32)) := gotF (Cond.eq_ints eCS (Term.int_eval (0))) nCS
  have hCH : CHv s consts_1 s.vm s.heap := CHv.start (own_EW hw) (fun p hp => hcalls.1 p hp) (hsets _ (List.mem_of_getElem? (i := 2) rfl)) (hw _ (List.mem_of_getElem? (i := 23) rfl)) (hw _ (List.mem_of_getElem? (i := 5) rfl))
  obtain ⟨n, o, h1, h2, h3, _, L, rfl, ⟨rfl, N⟩, -, hq⟩ := rm0 l s _ hw tables_1 g_HTTP_STATUS G1 i1 i2 i3 s.heap s.heap.size (Old.start s) hEN O2 P5 p e ha hc hk s m _ below hf ((Spec.applies_iff_loose hf).mp happ).1 ⟨rfl, State.Warmed39.refl s, rfl, hCH⟩ trivial
  refine ⟨n, _, h1, h2, h3, hpost _ _ _ _ _ _ ⟨Cond.after_iff.mpr rfl, Cond.after_iff.mpr (eq_i res_at (Term.int_eval (1)) rfl), trivial⟩ ⟨hq.1, hq.2.1, hq.2.2.1, (hq.2.2.2.sift fun y hy => Or.inr (N y hy)).mono (by decide) (by decide)⟩⟩
theorem main_1_1 : Claimed_1_1 := comes_1 fun _ _ _ _ _ _ h hF => ⟨h.1, hF⟩
theorem main_1_2 : Claimed_1_2 := comes_1 fun _ _ _ _ _ _ h hF => ⟨h.2.1, hF⟩
end Jvm.Pilot.@@N@@
namespace Jvm.Pilot.@@N@@
open Jvm Jvm.ClassFile Sem Op Lib Jvm.Free Jvm.Stand Jvm.Pilot.@@N@@.Jvm.D
/-! MADE BY PROGRAM (witnessworld.py) out of the Statement's table words and the real class files: 22 classes; the members and pool entries that the words name. The judged class is class 1, her method 1. -/
namespace start1
open Jvm.ClassFile
def u (s : String) : CpInfo := .utf8 (stringToUtf16 s)
/-- a pool by its gaps: so many unusable entries, then the entry; so many at the end -/
def gap : Nat → List CpInfo → List CpInfo
  | 0, r => r
  | n + 1, r => .unusable :: gap n r
def poolList (es : List (Nat × CpInfo)) (last : Nat) : List CpInfo := es.foldr (fun e r => gap e.1 (e.2 :: r)) (gap last [])
def pool (es : List (Nat × CpInfo)) (last : Nat) : Array CpInfo := ⟨poolList es last⟩
def fileOf (pool : Array CpInfo) (this : Nat) (attrs : Array Attribute := #[]) (ms : Array MethodInfo := #[]) (fl : Nat := 33) (sup : Nat := 0) (ifs : Array Nat := #[]) (fds : Array FieldInfo := #[]) : ClassFile where
  minorVersion := 0
  majorVersion := 65
  constantPool := pool
  accessFlags := fl
  thisClass := this
  superClass := sup
  interfaces := ifs
  fields := fds
  methods := ms
  attributes := attrs
def plain (name : String) (sup : Option ClassId) : Class where
  name := name
  kind := .ordinary
  loader := none
  accessFlags := 33
  super := sup
  interfaces := #[]
  cf := none
  fields := #[]
  methods := #[]
  instanceTypes := #[]
  staticTypes := #[]
  resolved := #[]
  callSites := []
  init := .initialized
  statics := none
  mirror := none

def pool0 : Array CpInfo := pool [(5, u "<init>"), (0, u "()V"), (1, .class_ 10), (1, u "java/lang/Object")] 113

def k0c0 : Code := { maxStack := 0, maxLocals := 1, code := object_method_1_code, exceptionTable := #[], attributes := #[] }
def k0m0 : Method := { name := "<init>", desc := "()V", sig := { parameters := [], returnType := none }, accessFlags := 1, code := some k0c0 }
/-- java/lang/Object -/
def k0 : Class := { plain "java/lang/Object" none with
  accessFlags := 33
  interfaces := #[]
  cf := some (fileOf pool0 8 #[] #[{ accessFlags := 1, nameIndex := 5, descriptorIndex := 6, attributes := #[] }] 33 0 #[] #[])
  fields := #[]
  methods := #[k0m0]
  instanceTypes := #[]
  staticTypes := #[]
  resolved := Array.replicate 124 none
  statics := none }

def pool1 : Array CpInfo := pool [(2, .class_ 4), (1, u "java/lang/Object"), (0, u "<init>"), (0, u "()V"), (0, .methodref 8 9), (0, .class_ 10), (0, .nameAndType 11 12), (0, u "com/example/foreground_courier/foregroundcourier/FailureHttpStatusPinLaw"), (0, u "makeBody"), (0, u "(II)Ljava/lang/String;"), (0, .methodref 14 15), (0, .class_ 16), (0, .nameAndType 17 18), (0, u "com/example/foreground_courier/foregroundcourier/Failure"), (0, u "httpStatus"), (0, u "(ILjava/lang/String;)Lcom/example/foreground_courier/foregroundcourier/Failure;"), (0, .methodref 14 20), (0, .nameAndType 21 22), (0, u "body"), (0, u "()Ljava/lang/String;"), (0, .methodref 14 24), (0, .nameAndType 25 26), (0, u "kind"), (0, u "()Lcom/example/foreground_courier/foregroundcourier/Failure$Kind;"), (0, .fieldref 28 29), (0, .class_ 30), (0, .nameAndType 31 32), (0, u "com/example/foreground_courier/foregroundcourier/Failure$Kind"), (0, u "HTTP_STATUS"), (0, u "Lcom/example/foreground_courier/foregroundcourier/Failure$Kind;"), (0, .methodref 14 34), (0, .nameAndType 35 36), (0, u "statusCode"), (0, u "()I"), (0, .methodref 38 39), (0, .class_ 40), (0, .nameAndType 41 36), (0, u "java/lang/String"), (0, u "length"), (0, .methodref 38 43), (0, .nameAndType 44 45), (0, u "equals"), (0, u "(Ljava/lang/Object;)Z"), (0, .methodref 14 47), (0, .nameAndType 48 49), (0, u "cause"), (0, u "()Ljava/lang/Throwable;"), (0, .methodref 38 51), (0, .nameAndType 5 52), (0, u "([C)V"), (2, u "law"), (0, u "(III)Z")] 5

def k1m0 : Method := { name := "<init>", desc := "()V", sig := { parameters := [], returnType := none }, accessFlags := 1, code := none }
def k1c1 : Code := { maxStack := 2, maxLocals := 7, code := code, exceptionTable := #[], attributes := #[] }
def k1m1 : Method := { name := "law", desc := "(III)Z", sig := { parameters := [.int, .int, .int], returnType := some .boolean }, accessFlags := 9, code := some k1c1 }
def k1c2 : Code := { maxStack := 6, maxLocals := 5, code := method_3_code, exceptionTable := #[], attributes := #[] }
def k1m2 : Method := { name := "makeBody", desc := "(II)Ljava/lang/String;", sig := { parameters := [.int, .int], returnType := some (.object "java/lang/String") }, accessFlags := 10, code := some k1c2 }
/-- com/example/foreground_courier/foregroundcourier/FailureHttpStatusPinLaw -/
def k1 : Class := { plain "com/example/foreground_courier/foregroundcourier/FailureHttpStatusPinLaw" (some 0) with
  accessFlags := 49
  interfaces := #[]
  cf := some (fileOf pool1 8 #[] #[{ accessFlags := 1, nameIndex := 5, descriptorIndex := 6, attributes := #[] }, { accessFlags := 9, nameIndex := 55, descriptorIndex := 56, attributes := #[] }, { accessFlags := 10, nameIndex := 11, descriptorIndex := 12, attributes := #[] }] 49 2 #[] #[])
  fields := #[]
  methods := #[k1m0, k1m1, k1m2]
  instanceTypes := #[]
  staticTypes := #[]
  resolved := Array.replicate 62 none
  statics := none }

def pool2 : Array CpInfo := pool [(1, .class_ 2), (0, u "java/io/Serializable"), (0, .class_ 4), (0, u "java/lang/Object")] 2

/-- java/io/Serializable -/
def k2 : Class := { plain "java/io/Serializable" (some 0) with
  accessFlags := 1537
  interfaces := #[]
  cf := some (fileOf pool2 1 #[] #[] 1537 3 #[] #[])
  fields := #[]
  methods := #[]
  instanceTypes := #[]
  staticTypes := #[]
  resolved := Array.replicate 7 none
  statics := none }

def pool3 : Array CpInfo := pool [(1, .class_ 2), (0, u "java/lang/Comparable"), (0, .class_ 4), (0, u "java/lang/Object")] 7

/-- java/lang/Comparable -/
def k3 : Class := { plain "java/lang/Comparable" (some 0) with
  accessFlags := 1537
  interfaces := #[]
  cf := some (fileOf pool3 1 #[] #[] 1537 3 #[] #[])
  fields := #[]
  methods := #[]
  instanceTypes := #[]
  staticTypes := #[]
  resolved := Array.replicate 12 none
  statics := none }

def pool4 : Array CpInfo := pool [(2, .class_ 4), (1, u "java/lang/CharSequence"), (42, .class_ 48), (0, u "java/lang/CharSequence$1CodePointIterator"), (10, .class_ 60), (0, u "java/lang/CharSequence$1CharIterator"), (5, .class_ 67), (0, u "java/lang/Object")] 63

/-- java/lang/CharSequence -/
def k4 : Class := { plain "java/lang/CharSequence" (some 0) with
  accessFlags := 1537
  interfaces := #[]
  cf := some (fileOf pool4 2 #[.nestMembers #[47, 59]] #[] 1537 66 #[] #[])
  fields := #[]
  methods := #[]
  instanceTypes := #[]
  staticTypes := #[]
  resolved := Array.replicate 131 none
  statics := none }

def pool5 : Array CpInfo := pool [(1, .class_ 2), (0, u "java/lang/constant/Constable"), (0, .class_ 4), (0, u "java/lang/Object")] 6

/-- java/lang/constant/Constable -/
def k5 : Class := { plain "java/lang/constant/Constable" (some 0) with
  accessFlags := 1537
  interfaces := #[]
  cf := some (fileOf pool5 1 #[] #[] 1537 3 #[] #[])
  fields := #[]
  methods := #[]
  instanceTypes := #[]
  staticTypes := #[]
  resolved := Array.replicate 11 none
  statics := none }

def pool6 : Array CpInfo := pool [(1, .class_ 2), (0, u "java/lang/constant/ConstantDesc"), (0, .class_ 4), (0, u "java/lang/Object")] 32

/-- java/lang/constant/ConstantDesc -/
def k6 : Class := { plain "java/lang/constant/ConstantDesc" (some 0) with
  accessFlags := 1537
  interfaces := #[]
  cf := some (fileOf pool6 1 #[] #[] 1537 3 #[] #[])
  fields := #[]
  methods := #[]
  instanceTypes := #[]
  staticTypes := #[]
  resolved := Array.replicate 37 none
  statics := none }

def pool7 : Array CpInfo := pool [(1, .methodref 2 3), (0, .class_ 4), (0, .nameAndType 5 6), (0, u "java/lang/Object"), (0, u "<init>"), (0, u "()V"), (0, .string 8), (0, u ""), (0, .fieldref 10 11), (0, .class_ 12), (0, .nameAndType 13 14), (0, u "java/lang/String"), (0, u "value"), (0, u "[B"), (0, .fieldref 10 16), (0, .nameAndType 17 18), (0, u "coder"), (0, u "B"), (2, u "hash"), (0, u "I"), (2, u "hashIsZero"), (0, u "Z"), (0, .methodref 10 28), (0, .nameAndType 5 29), (0, u "([CIILjava/lang/Void;)V"), (8, .fieldref 10 39), (0, .nameAndType 40 26), (0, u "COMPACT_STRINGS"), (1, .class_ 44), (1, u "java/lang/StringUTF16"), (0, u "compress"), (1, .methodref 42 48), (0, .nameAndType 49 50), (0, u "coderFromArrayLen"), (0, u "([BI)B"), (126, .methodref 42 178), (0, .nameAndType 45 179), (0, u "([CII)[B"), (154, u "()I"), (0, .methodref 10 336), (0, .nameAndType 17 337), (0, u "()B"), (169, u "length"), (35, u "equals"), (29, u "(Ljava/lang/Object;)Z"), (1, .class_ 576), (0, u "java/lang/CharSequence"), (22, u "CASE_INSENSITIVE_ORDER"), (0, u "Ljava/util/Comparator;"), (409, u "([C)V"), (90, u "serialPersistentFields"), (0, u "[Ljava/io/ObjectStreamField;"), (0, .class_ 1104), (0, u "java/lang/String$CaseInsensitiveComparator"), (1, .class_ 1107), (0, u "java/io/Serializable"), (0, .class_ 1109), (0, u "java/lang/Comparable"), (0, .class_ 1111), (0, u "java/lang/constant/Constable"), (0, .class_ 1113), (0, u "java/lang/constant/ConstantDesc"), (2, u "serialVersionUID"), (0, u "J"), (3, u "REPL"), (0, u "C"), (2, u "LATIN1"), (1, u "UTF16")] 323

def k7m0 : Method := { name := "<init>", desc := "()V", sig := { parameters := [], returnType := none }, accessFlags := 1, code := none }
def k7c1 : Code := { maxStack := 5, maxLocals := 2, code := jdk_42_method_3_code, exceptionTable := #[], attributes := #[] }
def k7m1 : Method := { name := "<init>", desc := "([C)V", sig := { parameters := [(.array .char)], returnType := none }, accessFlags := 1, code := some k7c1 }
def k7c2 : Code := { maxStack := 2, maxLocals := 1, code := jdk_42_method_54_code, exceptionTable := #[], attributes := #[] }
def k7m2 : Method := { name := "length", desc := "()I", sig := { parameters := [], returnType := some .int }, accessFlags := 1, code := some k7c2 }
def k7c3 : Code := { maxStack := 2, maxLocals := 3, code := jdk_42_method_66_code, exceptionTable := #[], attributes := #[] }
def k7m3 : Method := { name := "equals", desc := "(Ljava/lang/Object;)Z", sig := { parameters := [(.object "java/lang/Object")], returnType := some .boolean }, accessFlags := 1, code := some k7c3 }
def k7c4 : Code := { maxStack := 4, maxLocals := 6, code := jdk_42_method_149_code, exceptionTable := #[], attributes := #[] }
def k7m4 : Method := { name := "<init>", desc := "([CIILjava/lang/Void;)V", sig := { parameters := [(.array .char), .int, .int, (.object "java/lang/Void")], returnType := none }, accessFlags := 2, code := some k7c4 }
def k7c5 : Code := { maxStack := 1, maxLocals := 1, code := jdk_42_method_152_code, exceptionTable := #[], attributes := #[] }
def k7m5 : Method := { name := "coder", desc := "()B", sig := { parameters := [], returnType := some .byte }, accessFlags := 0, code := some k7c5 }
/-- java/lang/String -/
def k7 : Class := { plain "java/lang/String" (some 0) with
  accessFlags := 49
  interfaces := #[2, 3, 4, 5, 6]
  cf := some (fileOf pool7 10 #[.nestMembers #[1103]] #[{ accessFlags := 1, nameIndex := 5, descriptorIndex := 6, attributes := #[] }, { accessFlags := 1, nameIndex := 5, descriptorIndex := 1010, attributes := #[] }, { accessFlags := 1, nameIndex := 507, descriptorIndex := 334, attributes := #[] }, { accessFlags := 1, nameIndex := 543, descriptorIndex := 573, attributes := #[] }, { accessFlags := 2, nameIndex := 5, descriptorIndex := 29, attributes := #[] }, { accessFlags := 0, nameIndex := 17, descriptorIndex := 337, attributes := #[] }] 49 2 #[1106, 1108, 575, 1110, 1112] #[{ accessFlags := 18, nameIndex := 13, descriptorIndex := 14, attributes := #[] }, { accessFlags := 18, nameIndex := 17, descriptorIndex := 18, attributes := #[] }, { accessFlags := 2, nameIndex := 21, descriptorIndex := 22, attributes := #[] }, { accessFlags := 2, nameIndex := 25, descriptorIndex := 26, attributes := #[] }, { accessFlags := 26, nameIndex := 1116, descriptorIndex := 1117, attributes := #[] }, { accessFlags := 24, nameIndex := 40, descriptorIndex := 26, attributes := #[] }, { accessFlags := 26, nameIndex := 1101, descriptorIndex := 1102, attributes := #[] }, { accessFlags := 26, nameIndex := 1121, descriptorIndex := 1122, attributes := #[] }, { accessFlags := 25, nameIndex := 599, descriptorIndex := 600, attributes := #[] }, { accessFlags := 24, nameIndex := 1125, descriptorIndex := 18, attributes := #[] }, { accessFlags := 24, nameIndex := 1127, descriptorIndex := 18, attributes := #[] }])
  fields := #[{ name := "value", type := (.array .byte), accessFlags := 18, slot := 0, constantValue := 0 }, { name := "coder", type := .byte, accessFlags := 18, slot := 1, constantValue := 0 }, { name := "hash", type := .int, accessFlags := 2, slot := 2, constantValue := 0 }, { name := "hashIsZero", type := .boolean, accessFlags := 2, slot := 3, constantValue := 0 }, { name := "serialVersionUID", type := .long, accessFlags := 26, slot := 0, constantValue := 0 }, { name := "COMPACT_STRINGS", type := .boolean, accessFlags := 24, slot := 1, constantValue := 0 }, { name := "serialPersistentFields", type := (.array (.object "java/io/ObjectStreamField")), accessFlags := 26, slot := 2, constantValue := 0 }, { name := "REPL", type := .char, accessFlags := 26, slot := 3, constantValue := 0 }, { name := "CASE_INSENSITIVE_ORDER", type := (.object "java/util/Comparator"), accessFlags := 25, slot := 4, constantValue := 0 }, { name := "LATIN1", type := .byte, accessFlags := 24, slot := 5, constantValue := 0 }, { name := "UTF16", type := .byte, accessFlags := 24, slot := 6, constantValue := 0 }]
  methods := #[k7m0, k7m1, k7m2, k7m3, k7m4, k7m5]
  instanceTypes := #[(.array .byte), .byte, .int, .boolean]
  staticTypes := #[.long, .boolean, (.array (.object "java/io/ObjectStreamField")), .char, (.object "java/util/Comparator"), .byte, .byte]
  resolved := Array.replicate 1451 none
  statics := some 0 }

def pool8 : Array CpInfo := pool [(6, .class_ 8), (1, u "java/lang/Object"), (0, u "<init>"), (0, u "()V"), (1, .class_ 14), (1, u "java/lang/StringUTF16"), (31, u "$assertionsDisabled"), (0, u "Z"), (13, u "HI_BYTE_SHIFT"), (0, u "I"), (2, u "LO_BYTE_SHIFT"), (49, .methodref 12 116), (0, .nameAndType 117 118), (0, u "compress"), (0, u "([CI[BII)I"), (3, u "([CII)[B"), (138, u "coderFromArrayLen"), (0, u "([BI)B"), (106, .class_ 371), (1, u "java/lang/StringUTF16$LinesSpliterator"), (58, u "MAX_LENGTH"), (196, .class_ 628), (0, u "java/lang/StringUTF16$CodePointsSpliterator"), (0, .class_ 630), (0, u "java/lang/StringUTF16$CharsSpliterator")] 4

def k8m0 : Method := { name := "<init>", desc := "()V", sig := { parameters := [], returnType := none }, accessFlags := 0, code := none }
def k8c1 : Code := { maxStack := 2, maxLocals := 2, code := jdk_52_method_15_code, exceptionTable := #[], attributes := #[] }
def k8m1 : Method := { name := "coderFromArrayLen", desc := "([BI)B", sig := { parameters := [(.array .byte), .int], returnType := some .byte }, accessFlags := 8, code := some k8c1 }
def k8c2 : Code := { maxStack := 5, maxLocals := 6, code := jdk_52_method_16_code, exceptionTable := #[], attributes := #[] }
def k8m2 : Method := { name := "compress", desc := "([CII)[B", sig := { parameters := [(.array .char), .int, .int], returnType := some (.array .byte) }, accessFlags := 9, code := some k8c2 }
def k8c3 : Code := { maxStack := 3, maxLocals := 7, code := jdk_52_method_21_code, exceptionTable := #[], attributes := #[] }
def k8m3 : Method := { name := "compress", desc := "([CI[BII)I", sig := { parameters := [(.array .char), .int, (.array .byte), .int, .int], returnType := some .int }, accessFlags := 9, code := some k8c3 }
/-- java/lang/StringUTF16 -/
def k8 : Class := { plain "java/lang/StringUTF16" (some 0) with
  accessFlags := 48
  interfaces := #[]
  cf := some (fileOf pool8 12 #[.nestMembers #[627, 629, 369]] #[{ accessFlags := 0, nameIndex := 9, descriptorIndex := 10, attributes := #[] }, { accessFlags := 8, nameIndex := 261, descriptorIndex := 262, attributes := #[] }, { accessFlags := 9, nameIndex := 117, descriptorIndex := 122, attributes := #[] }, { accessFlags := 9, nameIndex := 117, descriptorIndex := 118, attributes := #[] }] 48 6 #[] #[{ accessFlags := 26, nameIndex := 61, descriptorIndex := 62, attributes := #[] }, { accessFlags := 26, nameIndex := 65, descriptorIndex := 62, attributes := #[] }, { accessFlags := 24, nameIndex := 430, descriptorIndex := 62, attributes := #[] }, { accessFlags := 4120, nameIndex := 46, descriptorIndex := 47, attributes := #[] }])
  fields := #[{ name := "HI_BYTE_SHIFT", type := .int, accessFlags := 26, slot := 0, constantValue := 0 }, { name := "LO_BYTE_SHIFT", type := .int, accessFlags := 26, slot := 1, constantValue := 0 }, { name := "MAX_LENGTH", type := .int, accessFlags := 24, slot := 2, constantValue := 0 }, { name := "$assertionsDisabled", type := .boolean, accessFlags := 4120, slot := 3, constantValue := 0 }]
  methods := #[k8m0, k8m1, k8m2, k8m3]
  instanceTypes := #[]
  staticTypes := #[.int, .int, .int, .boolean]
  resolved := Array.replicate 635 none
  statics := none }

def pool9 : Array CpInfo := pool [(1, .methodref 2 3), (0, .class_ 4), (0, .nameAndType 5 6), (0, u "java/lang/Object"), (0, u "<init>"), (0, u "()V"), (0, .fieldref 8 9), (0, .class_ 10), (0, .nameAndType 11 12), (0, u "com/example/foreground_courier/foregroundcourier/Failure"), (0, u "kind"), (0, u "Lcom/example/foreground_courier/foregroundcourier/Failure$Kind;"), (0, .fieldref 8 14), (0, .nameAndType 15 16), (0, u "statusCode"), (0, u "I"), (0, .fieldref 8 18), (0, .nameAndType 19 20), (0, u "body"), (0, u "Ljava/lang/String;"), (0, .fieldref 8 22), (0, .nameAndType 23 24), (0, u "cause"), (0, u "Ljava/lang/Throwable;"), (0, .fieldref 26 27), (0, .class_ 28), (0, .nameAndType 29 12), (0, u "com/example/foreground_courier/foregroundcourier/Failure$Kind"), (0, u "HTTP_STATUS"), (0, .methodref 8 31), (0, .nameAndType 5 32), (0, u "(Lcom/example/foreground_courier/foregroundcourier/Failure$Kind;ILjava/lang/String;Ljava/lang/Throwable;)V"), (20, u "httpStatus"), (0, u "(ILjava/lang/String;)Lcom/example/foreground_courier/foregroundcourier/Failure;"), (2, u "()Lcom/example/foreground_courier/foregroundcourier/Failure$Kind;"), (0, u "()I"), (0, u "()Ljava/lang/String;"), (0, u "()Ljava/lang/Throwable;")] 25

def k9c0 : Code := { maxStack := 2, maxLocals := 5, code := prog_3_method_1_code, exceptionTable := #[], attributes := #[] }
def k9m0 : Method := { name := "<init>", desc := "(Lcom/example/foreground_courier/foregroundcourier/Failure$Kind;ILjava/lang/String;Ljava/lang/Throwable;)V", sig := { parameters := [(.object "com/example/foreground_courier/foregroundcourier/Failure$Kind"), .int, (.object "java/lang/String"), (.object "java/lang/Throwable")], returnType := none }, accessFlags := 2, code := some k9c0 }
def k9c1 : Code := { maxStack := 6, maxLocals := 2, code := prog_3_method_2_code, exceptionTable := #[], attributes := #[] }
def k9m1 : Method := { name := "httpStatus", desc := "(ILjava/lang/String;)Lcom/example/foreground_courier/foregroundcourier/Failure;", sig := { parameters := [.int, (.object "java/lang/String")], returnType := some (.object "com/example/foreground_courier/foregroundcourier/Failure") }, accessFlags := 8, code := some k9c1 }
def k9c2 : Code := { maxStack := 1, maxLocals := 1, code := prog_3_method_4_code, exceptionTable := #[], attributes := #[] }
def k9m2 : Method := { name := "kind", desc := "()Lcom/example/foreground_courier/foregroundcourier/Failure$Kind;", sig := { parameters := [], returnType := some (.object "com/example/foreground_courier/foregroundcourier/Failure$Kind") }, accessFlags := 1, code := some k9c2 }
def k9c3 : Code := { maxStack := 1, maxLocals := 1, code := prog_3_method_5_code, exceptionTable := #[], attributes := #[] }
def k9m3 : Method := { name := "statusCode", desc := "()I", sig := { parameters := [], returnType := some .int }, accessFlags := 1, code := some k9c3 }
def k9c4 : Code := { maxStack := 1, maxLocals := 1, code := prog_3_method_6_code, exceptionTable := #[], attributes := #[] }
def k9m4 : Method := { name := "body", desc := "()Ljava/lang/String;", sig := { parameters := [], returnType := some (.object "java/lang/String") }, accessFlags := 1, code := some k9c4 }
def k9c5 : Code := { maxStack := 1, maxLocals := 1, code := prog_3_method_7_code, exceptionTable := #[], attributes := #[] }
def k9m5 : Method := { name := "cause", desc := "()Ljava/lang/Throwable;", sig := { parameters := [], returnType := some (.object "java/lang/Throwable") }, accessFlags := 1, code := some k9c5 }
/-- com/example/foreground_courier/foregroundcourier/Failure -/
def k9 : Class := { plain "com/example/foreground_courier/foregroundcourier/Failure" (some 0) with
  accessFlags := 49
  interfaces := #[]
  cf := some (fileOf pool9 8 #[.nestMembers #[26]] #[{ accessFlags := 2, nameIndex := 5, descriptorIndex := 32, attributes := #[] }, { accessFlags := 8, nameIndex := 53, descriptorIndex := 54, attributes := #[] }, { accessFlags := 1, nameIndex := 11, descriptorIndex := 57, attributes := #[] }, { accessFlags := 1, nameIndex := 15, descriptorIndex := 58, attributes := #[] }, { accessFlags := 1, nameIndex := 19, descriptorIndex := 59, attributes := #[] }, { accessFlags := 1, nameIndex := 23, descriptorIndex := 60, attributes := #[] }] 49 2 #[] #[{ accessFlags := 18, nameIndex := 11, descriptorIndex := 12, attributes := #[] }, { accessFlags := 18, nameIndex := 15, descriptorIndex := 16, attributes := #[] }, { accessFlags := 18, nameIndex := 19, descriptorIndex := 20, attributes := #[] }, { accessFlags := 18, nameIndex := 23, descriptorIndex := 24, attributes := #[] }])
  fields := #[{ name := "kind", type := (.object "com/example/foreground_courier/foregroundcourier/Failure$Kind"), accessFlags := 18, slot := 0, constantValue := 0 }, { name := "statusCode", type := .int, accessFlags := 18, slot := 1, constantValue := 0 }, { name := "body", type := (.object "java/lang/String"), accessFlags := 18, slot := 2, constantValue := 0 }, { name := "cause", type := (.object "java/lang/Throwable"), accessFlags := 18, slot := 3, constantValue := 0 }]
  methods := #[k9m0, k9m1, k9m2, k9m3, k9m4, k9m5]
  instanceTypes := #[(.object "com/example/foreground_courier/foregroundcourier/Failure$Kind"), .int, (.object "java/lang/String"), (.object "java/lang/Throwable")]
  staticTypes := #[]
  resolved := Array.replicate 86 none
  statics := none }

def pool10 : Array CpInfo := pool [(2, .class_ 4), (1, u "java/lang/Enum"), (0, u "name"), (0, u "Ljava/lang/String;"), (2, u "ordinal"), (0, u "I"), (1, .class_ 14), (1, u "java/lang/Object"), (4, u "hash"), (86, .class_ 108), (1, u "java/lang/Enum$EnumDesc"), (2, .class_ 112), (0, u "java/lang/constant/Constable"), (0, .class_ 114), (0, u "java/lang/Comparable"), (0, .class_ 116), (0, u "java/io/Serializable")] 87

/-- java/lang/Enum -/
def k10 : Class := { plain "java/lang/Enum" (some 0) with
  accessFlags := 1057
  interfaces := #[5, 3, 2]
  cf := some (fileOf pool10 2 #[.nestMembers #[106]] #[] 1057 12 #[111, 113, 115] #[{ accessFlags := 18, nameIndex := 5, descriptorIndex := 6, attributes := #[] }, { accessFlags := 18, nameIndex := 9, descriptorIndex := 10, attributes := #[] }, { accessFlags := 2, nameIndex := 19, descriptorIndex := 10, attributes := #[] }])
  fields := #[{ name := "name", type := (.object "java/lang/String"), accessFlags := 18, slot := 0, constantValue := 0 }, { name := "ordinal", type := .int, accessFlags := 18, slot := 1, constantValue := 0 }, { name := "hash", type := .int, accessFlags := 2, slot := 2, constantValue := 0 }]
  methods := #[]
  instanceTypes := #[(.object "java/lang/String"), .int, .int]
  staticTypes := #[]
  resolved := Array.replicate 204 none
  statics := none }

def pool11 : Array CpInfo := pool [(1, .class_ 2), (0, u "com/example/foreground_courier/foregroundcourier/Failure$Kind"), (2, u "HTTP_STATUS"), (0, u "Lcom/example/foreground_courier/foregroundcourier/Failure$Kind;"), (2, u "MALFORMED_BODY"), (2, u "NETWORK"), (2, u "TIMEOUT"), (2, u "$VALUES"), (0, u "[Lcom/example/foreground_courier/foregroundcourier/Failure$Kind;"), (6, .class_ 28), (1, u "java/lang/Enum"), (27, .class_ 57), (0, u "com/example/foreground_courier/foregroundcourier/Failure")] 2

/-- com/example/foreground_courier/foregroundcourier/Failure$Kind -/
def k11 : Class := { plain "com/example/foreground_courier/foregroundcourier/Failure$Kind" (some 10) with
  accessFlags := 16433
  interfaces := #[]
  cf := some (fileOf pool11 1 #[.nestHost 56] #[] 16433 26 #[] #[{ accessFlags := 16409, nameIndex := 5, descriptorIndex := 6, attributes := #[] }, { accessFlags := 16409, nameIndex := 9, descriptorIndex := 6, attributes := #[] }, { accessFlags := 16409, nameIndex := 12, descriptorIndex := 6, attributes := #[] }, { accessFlags := 16409, nameIndex := 15, descriptorIndex := 6, attributes := #[] }, { accessFlags := 4122, nameIndex := 18, descriptorIndex := 19, attributes := #[] }])
  fields := #[{ name := "HTTP_STATUS", type := (.object "com/example/foreground_courier/foregroundcourier/Failure$Kind"), accessFlags := 16409, slot := 0, constantValue := 0 }, { name := "MALFORMED_BODY", type := (.object "com/example/foreground_courier/foregroundcourier/Failure$Kind"), accessFlags := 16409, slot := 1, constantValue := 0 }, { name := "NETWORK", type := (.object "com/example/foreground_courier/foregroundcourier/Failure$Kind"), accessFlags := 16409, slot := 2, constantValue := 0 }, { name := "TIMEOUT", type := (.object "com/example/foreground_courier/foregroundcourier/Failure$Kind"), accessFlags := 16409, slot := 3, constantValue := 0 }, { name := "$VALUES", type := (.array (.object "com/example/foreground_courier/foregroundcourier/Failure$Kind")), accessFlags := 4122, slot := 4, constantValue := 0 }]
  methods := #[]
  instanceTypes := #[(.object "java/lang/String"), .int, .int]
  staticTypes := #[(.object "com/example/foreground_courier/foregroundcourier/Failure$Kind"), (.object "com/example/foreground_courier/foregroundcourier/Failure$Kind"), (.object "com/example/foreground_courier/foregroundcourier/Failure$Kind"), (.object "com/example/foreground_courier/foregroundcourier/Failure$Kind"), (.array (.object "com/example/foreground_courier/foregroundcourier/Failure$Kind"))]
  resolved := Array.replicate 60 none
  statics := some 1 }

def pool12 : Array CpInfo := pool [(4, .class_ 6), (1, u "java/lang/Object"), (0, u "<init>"), (0, u "()V"), (5, .class_ 16), (1, u "java/lang/StringLatin1"), (104, u "$assertionsDisabled"), (0, u "Z"), (98, .class_ 223), (1, u "java/lang/StringLatin1$LinesSpliterator"), (166, .class_ 391), (0, u "java/lang/StringLatin1$CharsSpliterator")] 3

def k12m0 : Method := { name := "<init>", desc := "()V", sig := { parameters := [], returnType := none }, accessFlags := 0, code := none }
/-- java/lang/StringLatin1 -/
def k12 : Class := { plain "java/lang/StringLatin1" (some 0) with
  accessFlags := 48
  interfaces := #[]
  cf := some (fileOf pool12 14 #[.nestMembers #[390, 221]] #[{ accessFlags := 0, nameIndex := 7, descriptorIndex := 8, attributes := #[] }] 48 4 #[] #[{ accessFlags := 4120, nameIndex := 121, descriptorIndex := 122, attributes := #[] }])
  fields := #[{ name := "$assertionsDisabled", type := .boolean, accessFlags := 4120, slot := 0, constantValue := 0 }]
  methods := #[k12m0]
  instanceTypes := #[]
  staticTypes := #[.boolean]
  resolved := Array.replicate 395 none
  statics := none }

def pool13 : Array CpInfo := pool [(2, .class_ 4), (1, u "java/lang/Object"), (0, u "<init>"), (0, u "()V"), (17, .class_ 26), (1, u "jdk/internal/util/Preconditions"), (28, .class_ 56), (0, u "jdk/internal/util/Preconditions$4"), (57, .class_ 115), (0, u "jdk/internal/util/Preconditions$1"), (7, u "SIOOBE_FORMATTER"), (0, u "Ljava/util/function/BiFunction;"), (0, .class_ 126), (0, u "jdk/internal/util/Preconditions$2"), (3, u "AIOOBE_FORMATTER"), (0, .class_ 132), (0, u "jdk/internal/util/Preconditions$3"), (3, u "IOOBE_FORMATTER")] 57

def k13m0 : Method := { name := "<init>", desc := "()V", sig := { parameters := [], returnType := none }, accessFlags := 1, code := none }
/-- jdk/internal/util/Preconditions -/
def k13 : Class := { plain "jdk/internal/util/Preconditions" (some 0) with
  accessFlags := 33
  interfaces := #[]
  cf := some (fileOf pool13 24 #[.nestMembers #[55, 131, 125, 114]] #[{ accessFlags := 1, nameIndex := 5, descriptorIndex := 6, attributes := #[] }] 33 2 #[] #[{ accessFlags := 25, nameIndex := 123, descriptorIndex := 124, attributes := #[] }, { accessFlags := 25, nameIndex := 130, descriptorIndex := 124, attributes := #[] }, { accessFlags := 25, nameIndex := 136, descriptorIndex := 124, attributes := #[] }])
  fields := #[{ name := "SIOOBE_FORMATTER", type := (.object "java/util/function/BiFunction"), accessFlags := 25, slot := 0, constantValue := 0 }, { name := "AIOOBE_FORMATTER", type := (.object "java/util/function/BiFunction"), accessFlags := 25, slot := 1, constantValue := 0 }, { name := "IOOBE_FORMATTER", type := (.object "java/util/function/BiFunction"), accessFlags := 25, slot := 2, constantValue := 0 }]
  methods := #[k13m0]
  instanceTypes := #[]
  staticTypes := #[(.object "java/util/function/BiFunction"), (.object "java/util/function/BiFunction"), (.object "java/util/function/BiFunction")]
  resolved := Array.replicate 194 none
  statics := some 2 }

def pool14 : Array CpInfo := pool [(9, u "<init>"), (6, .class_ 18), (1, u "java/lang/Object"), (0, u "()V"), (1, .class_ 23), (1, u "jdk/internal/util/ArraysSupport"), (0, u "LOG2_ARRAY_LONG_INDEX_SCALE"), (0, u "I"), (2, u "U"), (0, u "Ljdk/internal/misc/Unsafe;"), (8, u "BIG_ENDIAN"), (0, u "Z"), (8, u "LOG2_BYTE_BIT_SIZE"), (4, u "LOG2_ARRAY_INT_INDEX_SCALE"), (54, u "JLA"), (0, u "Ljdk/internal/access/JavaLangAccess;"), (11, u "LOG2_ARRAY_BOOLEAN_INDEX_SCALE"), (9, u "LOG2_ARRAY_BYTE_INDEX_SCALE"), (5, u "LOG2_ARRAY_CHAR_INDEX_SCALE"), (5, u "LOG2_ARRAY_SHORT_INDEX_SCALE"), (18, u "LOG2_ARRAY_FLOAT_INDEX_SCALE"), (24, u "LOG2_ARRAY_DOUBLE_INDEX_SCALE"), (89, u "T_BOOLEAN"), (2, u "T_CHAR"), (1, u "T_FLOAT"), (1, u "T_DOUBLE"), (1, u "T_BYTE"), (1, u "T_SHORT"), (1, u "T_INT"), (1, u "T_LONG"), (1, u "SOFT_MAX_ARRAY_LENGTH")] 83

def k14m0 : Method := { name := "<init>", desc := "()V", sig := { parameters := [], returnType := none }, accessFlags := 2, code := none }
/-- jdk/internal/util/ArraysSupport -/
def k14 : Class := { plain "jdk/internal/util/ArraysSupport" (some 0) with
  accessFlags := 33
  interfaces := #[]
  cf := some (fileOf pool14 21 #[] #[{ accessFlags := 2, nameIndex := 9, descriptorIndex := 19, attributes := #[] }] 33 16 #[] #[{ accessFlags := 24, nameIndex := 28, descriptorIndex := 29, attributes := #[] }, { accessFlags := 26, nameIndex := 38, descriptorIndex := 39, attributes := #[] }, { accessFlags := 25, nameIndex := 121, descriptorIndex := 25, attributes := #[] }, { accessFlags := 25, nameIndex := 131, descriptorIndex := 25, attributes := #[] }, { accessFlags := 25, nameIndex := 137, descriptorIndex := 25, attributes := #[] }, { accessFlags := 25, nameIndex := 143, descriptorIndex := 25, attributes := #[] }, { accessFlags := 25, nameIndex := 53, descriptorIndex := 25, attributes := #[] }, { accessFlags := 25, nameIndex := 24, descriptorIndex := 25, attributes := #[] }, { accessFlags := 25, nameIndex := 162, descriptorIndex := 25, attributes := #[] }, { accessFlags := 25, nameIndex := 187, descriptorIndex := 25, attributes := #[] }, { accessFlags := 26, nameIndex := 48, descriptorIndex := 25, attributes := #[] }, { accessFlags := 25, nameIndex := 277, descriptorIndex := 25, attributes := #[] }, { accessFlags := 25, nameIndex := 280, descriptorIndex := 25, attributes := #[] }, { accessFlags := 25, nameIndex := 282, descriptorIndex := 25, attributes := #[] }, { accessFlags := 25, nameIndex := 284, descriptorIndex := 25, attributes := #[] }, { accessFlags := 25, nameIndex := 286, descriptorIndex := 25, attributes := #[] }, { accessFlags := 25, nameIndex := 288, descriptorIndex := 25, attributes := #[] }, { accessFlags := 25, nameIndex := 290, descriptorIndex := 25, attributes := #[] }, { accessFlags := 25, nameIndex := 292, descriptorIndex := 25, attributes := #[] }, { accessFlags := 26, nameIndex := 108, descriptorIndex := 109, attributes := #[] }, { accessFlags := 25, nameIndex := 294, descriptorIndex := 25, attributes := #[] }])
  fields := #[{ name := "U", type := (.object "jdk/internal/misc/Unsafe"), accessFlags := 24, slot := 0, constantValue := 0 }, { name := "BIG_ENDIAN", type := .boolean, accessFlags := 26, slot := 1, constantValue := 0 }, { name := "LOG2_ARRAY_BOOLEAN_INDEX_SCALE", type := .int, accessFlags := 25, slot := 2, constantValue := 0 }, { name := "LOG2_ARRAY_BYTE_INDEX_SCALE", type := .int, accessFlags := 25, slot := 3, constantValue := 0 }, { name := "LOG2_ARRAY_CHAR_INDEX_SCALE", type := .int, accessFlags := 25, slot := 4, constantValue := 0 }, { name := "LOG2_ARRAY_SHORT_INDEX_SCALE", type := .int, accessFlags := 25, slot := 5, constantValue := 0 }, { name := "LOG2_ARRAY_INT_INDEX_SCALE", type := .int, accessFlags := 25, slot := 6, constantValue := 0 }, { name := "LOG2_ARRAY_LONG_INDEX_SCALE", type := .int, accessFlags := 25, slot := 7, constantValue := 0 }, { name := "LOG2_ARRAY_FLOAT_INDEX_SCALE", type := .int, accessFlags := 25, slot := 8, constantValue := 0 }, { name := "LOG2_ARRAY_DOUBLE_INDEX_SCALE", type := .int, accessFlags := 25, slot := 9, constantValue := 0 }, { name := "LOG2_BYTE_BIT_SIZE", type := .int, accessFlags := 26, slot := 10, constantValue := 0 }, { name := "T_BOOLEAN", type := .int, accessFlags := 25, slot := 11, constantValue := 0 }, { name := "T_CHAR", type := .int, accessFlags := 25, slot := 12, constantValue := 0 }, { name := "T_FLOAT", type := .int, accessFlags := 25, slot := 13, constantValue := 0 }, { name := "T_DOUBLE", type := .int, accessFlags := 25, slot := 14, constantValue := 0 }, { name := "T_BYTE", type := .int, accessFlags := 25, slot := 15, constantValue := 0 }, { name := "T_SHORT", type := .int, accessFlags := 25, slot := 16, constantValue := 0 }, { name := "T_INT", type := .int, accessFlags := 25, slot := 17, constantValue := 0 }, { name := "T_LONG", type := .int, accessFlags := 25, slot := 18, constantValue := 0 }, { name := "JLA", type := (.object "jdk/internal/access/JavaLangAccess"), accessFlags := 26, slot := 19, constantValue := 0 }, { name := "SOFT_MAX_ARRAY_LENGTH", type := .int, accessFlags := 25, slot := 20, constantValue := 0 }]
  methods := #[k14m0]
  instanceTypes := #[]
  staticTypes := #[(.object "jdk/internal/misc/Unsafe"), .boolean, .int, .int, .int, .int, .int, .int, .int, .int, .int, .int, .int, .int, .int, .int, .int, .int, .int, (.object "jdk/internal/access/JavaLangAccess"), .int]
  resolved := Array.replicate 378 none
  statics := none }

def pool15 : Array CpInfo := pool [(1, u "java/lang/Cloneable"), (0, .class_ 1), (0, u "java/lang/Object"), (0, .class_ 3)] 3

/-- java/lang/Cloneable -/
def k15 : Class := { plain "java/lang/Cloneable" (some 0) with
  accessFlags := 1537
  interfaces := #[]
  cf := some (fileOf pool15 2 #[] #[] 1537 4 #[] #[])
  fields := #[]
  methods := #[]
  instanceTypes := #[]
  staticTypes := #[]
  resolved := Array.replicate 8 none
  statics := none }

/-- the primitive byte -/
def k16 : Class := { plain "byte" none with kind := .primitive 'B', accessFlags := 0x411 }
/-- [B -/
def k17 : Class := { plain "[B" (some 0) with kind := .array 16 .byte, interfaces := #[15, 2], accessFlags := 1041 }

/-- the primitive char -/
def k18 : Class := { plain "char" none with kind := .primitive 'C', accessFlags := 0x411 }
/-- [C -/
def k19 : Class := { plain "[C" (some 0) with kind := .array 18 .char, interfaces := #[15, 2], accessFlags := 1041 }

/-- the primitive int -/
def k20 : Class := { plain "int" none with kind := .primitive 'I', accessFlags := 0x411 }
/-- [I -/
def k21 : Class := { plain "[I" (some 0) with kind := .array 20 .int, interfaces := #[15, 2], accessFlags := 1041 }

def heap : Heap := #[{ cls := 7, slots := #[.long 0, .int 1, .null, .int 0, .null, .int 0, .int 0], vm := .statics 7 },
  { cls := 11, slots := #[.ref 3, .null, .null, .null, .null], vm := .statics 11 },
  { cls := 13, slots := #[.null, .null, .null], vm := .statics 13 },
  { cls := 11, slots := #[.null, .int 0, .int 0], vm := .none }]
def classes : Array Class := #[k0, k1, k2, k3, k4, k5, k6, k7, k8, k9, k10, k11, k12, k13, k14, k15, k16, k17, k18, k19, k20, k21]
def interned : List (Array UInt16 × Addr) := []
def slotsUsed : Nat := 18
def theMethod : MethodId := ⟨1, 1⟩
def args0 : Array Value := #[.int 5, .int 6, .int 7]
def aboutOver (below : List Frame) : State where
  vm := { classes := classes, interned := interned.toArray }
  heap := heap
  slotsUsed := slotsUsed
  threads := #[{ frames := .invoking theMethod args0 :: below }]
def below0 : List Frame := [.native { method := ⟨0, 0⟩, args := #[] }]
def about1 : State := aboutOver below0
def p0 : Program := .bare "" "" ""
def e0 : Env := launch0.env 0 0 0
theorem w_frames : about1.frames = Frame.invoking theMethod args0 :: below0 := rfl
set_option maxRecDepth 65536 in
theorem w_args : argsFit about1.vm theMethod args0 = true := by decide +kernel
set_option maxRecDepth 65536 in
theorem w_heap : heapFits about1 = true := by decide +kernel
set_option maxRecDepth 65536 in
theorem w_runnable : about1.curStatus? = some .runnable := by decide +kernel
set_option maxRecDepth 65536 in
theorem w_alone : about1.alone = true := by decide +kernel
set_option maxRecDepth 65536 in
theorem w_named : about1.methodNamed? x = some theMethod := by decide +kernel
set_option maxRecDepth 65536 in
theorem w_hears : about1.hears theMethod below0 = true := by decide +kernel
set_option maxRecDepth 65536 in
theorem w_ripe : about1.ripe theMethod args0 below0 = true := by decide +kernel
theorem w_running : about1.status = .running := rfl
set_option maxRecDepth 65536 in
theorem w_room : about1.hasRoom e0.platform room_1 = true :=
  launch0.hasRoom_least _ room_1 (by decide +kernel) (by decide +kernel) (by decide +kernel) (by decide +kernel) (by decide +kernel) (by decide +kernel)
theorem allAtoms_all (ts : List Jvm.Cond) (a : Array Jvm.Value) (st : Jvm.State) : (allAtoms ts).before a st = ts.all (fun c => c.before a st) := by
  induction ts with
  | nil => rfl
  | cons c t ih =>
    show (Jvm.Cond.and c (allAtoms t)).before a st = _
    rw [Jvm.Cond.before_and, ih, List.all_cons]
def words1 : List Jvm.Cond := Jvm.Cond.code x code maxLocals ret :: tables_1
/-- a 'code' word, met by the world's own term for the bytes: nothing is compared byte by byte -/
theorem code_word {y : MethodName} {bytes : ByteArray} {mx : Nat} {rt : Option FieldType} {a : Array Value} {s : State} {m : MethodId} {meth : Method} {c : Code} (h1 : s.methodNamed? y = some m) (h2 : s.vm.method? m = some meth) (h3 : meth.code = some c) (h4 : c.code = bytes)
    (h5 : (c.maxLocals == mx && c.exceptionTable.isEmpty && decide (c.maxStack ≤ mostOperands) && decide (meth.sig.returnType = rt) && !meth.locks && decide (parseMethodDescriptor y.desc = some meth.sig)) = true) : (Jvm.Cond.code y bytes mx rt).before a s = true := by
  simp only [Bool.and_eq_true, beq_iff_eq, Bool.not_eq_true', decide_eq_true_eq] at h5
  obtain ⟨⟨⟨⟨⟨g1, g2⟩, g3⟩, g4⟩, g5⟩, g6⟩ := h5
  simp [Cond.before, Cond.holds, Cond.value, h1, h2, h3, h4, g1, g2, g3, g4, g5, g6]
def isCode : Jvm.Cond → Bool
  | .code _ _ _ _ => true
  | _ => false
theorem all_split {L : List Jvm.Cond} {P : Jvm.Cond → Bool} (h1 : L.all (fun c => isCode c || P c) = true) (h2 : ∀ c ∈ L.filter isCode, P c = true) : L.all P = true := by
  refine List.all_eq_true.mpr fun c hc => ?_
  have h := List.all_eq_true.mp h1 c hc
  rcases Bool.eq_false_or_eq_true (isCode c) with hi | hi
  · exact h2 c (List.mem_filter.mpr ⟨hc, hi⟩)
  · simpa [hi] using h
set_option maxRecDepth 65536 in
theorem w_c0 : (Jvm.Cond.code x code maxLocals ret).before args0 about1 = true := code_word (m := ⟨1, 1⟩) (meth := k1m1) (c := k1c1) (by decide +kernel) rfl rfl rfl (by decide +kernel)
set_option maxRecDepth 65536 in
theorem w_c1 : (Jvm.Cond.code ({ cls := "com/example/foreground_courier/foregroundcourier/FailureHttpStatusPinLaw", name := "makeBody", desc := "(II)Ljava/lang/String;" } : Jvm.MethodName) method_3_code (5 : Nat) (Option.some (Jvm.ClassFile.FieldType.object "java/lang/String"))).before args0 about1 = true := code_word (m := ⟨1, 2⟩) (meth := k1m2) (c := k1c2) (by decide +kernel) rfl rfl rfl (by decide +kernel)
set_option maxRecDepth 65536 in
theorem w_c2 : (Jvm.Cond.code ({ cls := "java/lang/String", name := "<init>", desc := "([C)V" } : Jvm.MethodName) jdk_42_method_3_code (2 : Nat) (Option.none : Option Jvm.ClassFile.FieldType)).before args0 about1 = true := code_word (m := ⟨7, 1⟩) (meth := k7m1) (c := k7c1) (by decide +kernel) rfl rfl rfl (by decide +kernel)
set_option maxRecDepth 65536 in
theorem w_c3 : (Jvm.Cond.code ({ cls := "java/lang/String", name := "<init>", desc := "([CIILjava/lang/Void;)V" } : Jvm.MethodName) jdk_42_method_149_code (6 : Nat) (Option.none : Option Jvm.ClassFile.FieldType)).before args0 about1 = true := code_word (m := ⟨7, 4⟩) (meth := k7m4) (c := k7c4) (by decide +kernel) rfl rfl rfl (by decide +kernel)
set_option maxRecDepth 65536 in
theorem w_c4 : (Jvm.Cond.code ({ cls := "java/lang/Object", name := "<init>", desc := "()V" } : Jvm.MethodName) object_method_1_code (1 : Nat) (Option.none : Option Jvm.ClassFile.FieldType)).before args0 about1 = true := code_word (m := ⟨0, 0⟩) (meth := k0m0) (c := k0c0) (by decide +kernel) rfl rfl rfl (by decide +kernel)
set_option maxRecDepth 65536 in
theorem w_c5 : (Jvm.Cond.code ({ cls := "java/lang/StringUTF16", name := "compress", desc := "([CII)[B" } : Jvm.MethodName) jdk_52_method_16_code (6 : Nat) (Option.some (Jvm.ClassFile.FieldType.array Jvm.ClassFile.FieldType.byte))).before args0 about1 = true := code_word (m := ⟨8, 2⟩) (meth := k8m2) (c := k8c2) (by decide +kernel) rfl rfl rfl (by decide +kernel)
set_option maxRecDepth 65536 in
theorem w_c6 : (Jvm.Cond.code ({ cls := "java/lang/StringUTF16", name := "compress", desc := "([CI[BII)I" } : Jvm.MethodName) jdk_52_method_21_code (7 : Nat) (Option.some Jvm.ClassFile.FieldType.int)).before args0 about1 = true := code_word (m := ⟨8, 3⟩) (meth := k8m3) (c := k8c3) (by decide +kernel) rfl rfl rfl (by decide +kernel)
set_option maxRecDepth 65536 in
theorem w_c7 : (Jvm.Cond.code ({ cls := "java/lang/StringUTF16", name := "coderFromArrayLen", desc := "([BI)B" } : Jvm.MethodName) jdk_52_method_15_code (2 : Nat) (Option.some Jvm.ClassFile.FieldType.byte)).before args0 about1 = true := code_word (m := ⟨8, 1⟩) (meth := k8m1) (c := k8c1) (by decide +kernel) rfl rfl rfl (by decide +kernel)
set_option maxRecDepth 65536 in
theorem w_c8 : (Jvm.Cond.code ({ cls := "com/example/foreground_courier/foregroundcourier/Failure", name := "httpStatus", desc := "(ILjava/lang/String;)Lcom/example/foreground_courier/foregroundcourier/Failure;" } : Jvm.MethodName) prog_3_method_2_code (2 : Nat) (Option.some (Jvm.ClassFile.FieldType.object "com/example/foreground_courier/foregroundcourier/Failure"))).before args0 about1 = true := code_word (m := ⟨9, 1⟩) (meth := k9m1) (c := k9c1) (by decide +kernel) rfl rfl rfl (by decide +kernel)
set_option maxRecDepth 65536 in
theorem w_c9 : (Jvm.Cond.code ({ cls := "com/example/foreground_courier/foregroundcourier/Failure", name := "<init>", desc := "(Lcom/example/foreground_courier/foregroundcourier/Failure$Kind;ILjava/lang/String;Ljava/lang/Throwable;)V" } : Jvm.MethodName) prog_3_method_1_code (5 : Nat) (Option.none : Option Jvm.ClassFile.FieldType)).before args0 about1 = true := code_word (m := ⟨9, 0⟩) (meth := k9m0) (c := k9c0) (by decide +kernel) rfl rfl rfl (by decide +kernel)
set_option maxRecDepth 65536 in
theorem w_c10 : (Jvm.Cond.code ({ cls := "com/example/foreground_courier/foregroundcourier/Failure", name := "body", desc := "()Ljava/lang/String;" } : Jvm.MethodName) prog_3_method_6_code (1 : Nat) (Option.some (Jvm.ClassFile.FieldType.object "java/lang/String"))).before args0 about1 = true := code_word (m := ⟨9, 4⟩) (meth := k9m4) (c := k9c4) (by decide +kernel) rfl rfl rfl (by decide +kernel)
set_option maxRecDepth 65536 in
theorem w_c11 : (Jvm.Cond.code ({ cls := "com/example/foreground_courier/foregroundcourier/Failure", name := "kind", desc := "()Lcom/example/foreground_courier/foregroundcourier/Failure$Kind;" } : Jvm.MethodName) prog_3_method_4_code (1 : Nat) (Option.some (Jvm.ClassFile.FieldType.object "com/example/foreground_courier/foregroundcourier/Failure$Kind"))).before args0 about1 = true := code_word (m := ⟨9, 2⟩) (meth := k9m2) (c := k9c2) (by decide +kernel) rfl rfl rfl (by decide +kernel)
set_option maxRecDepth 65536 in
theorem w_c12 : (Jvm.Cond.code ({ cls := "com/example/foreground_courier/foregroundcourier/Failure", name := "statusCode", desc := "()I" } : Jvm.MethodName) prog_3_method_5_code (1 : Nat) (Option.some Jvm.ClassFile.FieldType.int)).before args0 about1 = true := code_word (m := ⟨9, 3⟩) (meth := k9m3) (c := k9c3) (by decide +kernel) rfl rfl rfl (by decide +kernel)
set_option maxRecDepth 65536 in
theorem w_c13 : (Jvm.Cond.code ({ cls := "java/lang/String", name := "length", desc := "()I" } : Jvm.MethodName) jdk_42_method_54_code (1 : Nat) (Option.some Jvm.ClassFile.FieldType.int)).before args0 about1 = true := code_word (m := ⟨7, 2⟩) (meth := k7m2) (c := k7c2) (by decide +kernel) rfl rfl rfl (by decide +kernel)
set_option maxRecDepth 65536 in
theorem w_c14 : (Jvm.Cond.code ({ cls := "java/lang/String", name := "coder", desc := "()B" } : Jvm.MethodName) jdk_42_method_152_code (1 : Nat) (Option.some Jvm.ClassFile.FieldType.byte)).before args0 about1 = true := code_word (m := ⟨7, 5⟩) (meth := k7m5) (c := k7c5) (by decide +kernel) rfl rfl rfl (by decide +kernel)
set_option maxRecDepth 65536 in
theorem w_c15 : (Jvm.Cond.code ({ cls := "java/lang/String", name := "equals", desc := "(Ljava/lang/Object;)Z" } : Jvm.MethodName) jdk_42_method_66_code (3 : Nat) (Option.some Jvm.ClassFile.FieldType.boolean)).before args0 about1 = true := code_word (m := ⟨7, 3⟩) (meth := k7m3) (c := k7c3) (by decide +kernel) rfl rfl rfl (by decide +kernel)
set_option maxRecDepth 65536 in
theorem w_c16 : (Jvm.Cond.code ({ cls := "com/example/foreground_courier/foregroundcourier/Failure", name := "cause", desc := "()Ljava/lang/Throwable;" } : Jvm.MethodName) prog_3_method_7_code (1 : Nat) (Option.some (Jvm.ClassFile.FieldType.object "java/lang/Throwable"))).before args0 about1 = true := code_word (m := ⟨9, 5⟩) (meth := k9m5) (c := k9c5) (by decide +kernel) rfl rfl rfl (by decide +kernel)
def codes1 : List Jvm.Cond := [Jvm.Cond.code x code maxLocals ret, Jvm.Cond.code ({ cls := "com/example/foreground_courier/foregroundcourier/FailureHttpStatusPinLaw", name := "makeBody", desc := "(II)Ljava/lang/String;" } : Jvm.MethodName) method_3_code (5 : Nat) (Option.some (Jvm.ClassFile.FieldType.object "java/lang/String")), Jvm.Cond.code ({ cls := "java/lang/String", name := "<init>", desc := "([C)V" } : Jvm.MethodName) jdk_42_method_3_code (2 : Nat) (Option.none : Option Jvm.ClassFile.FieldType), Jvm.Cond.code ({ cls := "java/lang/String", name := "<init>", desc := "([CIILjava/lang/Void;)V" } : Jvm.MethodName) jdk_42_method_149_code (6 : Nat) (Option.none : Option Jvm.ClassFile.FieldType), Jvm.Cond.code ({ cls := "java/lang/Object", name := "<init>", desc := "()V" } : Jvm.MethodName) object_method_1_code (1 : Nat) (Option.none : Option Jvm.ClassFile.FieldType), Jvm.Cond.code ({ cls := "java/lang/StringUTF16", name := "compress", desc := "([CII)[B" } : Jvm.MethodName) jdk_52_method_16_code (6 : Nat) (Option.some (Jvm.ClassFile.FieldType.array Jvm.ClassFile.FieldType.byte)), Jvm.Cond.code ({ cls := "java/lang/StringUTF16", name := "compress", desc := "([CI[BII)I" } : Jvm.MethodName) jdk_52_method_21_code (7 : Nat) (Option.some Jvm.ClassFile.FieldType.int), Jvm.Cond.code ({ cls := "java/lang/StringUTF16", name := "coderFromArrayLen", desc := "([BI)B" } : Jvm.MethodName) jdk_52_method_15_code (2 : Nat) (Option.some Jvm.ClassFile.FieldType.byte), Jvm.Cond.code ({ cls := "com/example/foreground_courier/foregroundcourier/Failure", name := "httpStatus", desc := "(ILjava/lang/String;)Lcom/example/foreground_courier/foregroundcourier/Failure;" } : Jvm.MethodName) prog_3_method_2_code (2 : Nat) (Option.some (Jvm.ClassFile.FieldType.object "com/example/foreground_courier/foregroundcourier/Failure")), Jvm.Cond.code ({ cls := "com/example/foreground_courier/foregroundcourier/Failure", name := "<init>", desc := "(Lcom/example/foreground_courier/foregroundcourier/Failure$Kind;ILjava/lang/String;Ljava/lang/Throwable;)V" } : Jvm.MethodName) prog_3_method_1_code (5 : Nat) (Option.none : Option Jvm.ClassFile.FieldType), Jvm.Cond.code ({ cls := "com/example/foreground_courier/foregroundcourier/Failure", name := "body", desc := "()Ljava/lang/String;" } : Jvm.MethodName) prog_3_method_6_code (1 : Nat) (Option.some (Jvm.ClassFile.FieldType.object "java/lang/String")), Jvm.Cond.code ({ cls := "com/example/foreground_courier/foregroundcourier/Failure", name := "kind", desc := "()Lcom/example/foreground_courier/foregroundcourier/Failure$Kind;" } : Jvm.MethodName) prog_3_method_4_code (1 : Nat) (Option.some (Jvm.ClassFile.FieldType.object "com/example/foreground_courier/foregroundcourier/Failure$Kind")), Jvm.Cond.code ({ cls := "com/example/foreground_courier/foregroundcourier/Failure", name := "statusCode", desc := "()I" } : Jvm.MethodName) prog_3_method_5_code (1 : Nat) (Option.some Jvm.ClassFile.FieldType.int), Jvm.Cond.code ({ cls := "java/lang/String", name := "length", desc := "()I" } : Jvm.MethodName) jdk_42_method_54_code (1 : Nat) (Option.some Jvm.ClassFile.FieldType.int), Jvm.Cond.code ({ cls := "java/lang/String", name := "coder", desc := "()B" } : Jvm.MethodName) jdk_42_method_152_code (1 : Nat) (Option.some Jvm.ClassFile.FieldType.byte), Jvm.Cond.code ({ cls := "java/lang/String", name := "equals", desc := "(Ljava/lang/Object;)Z" } : Jvm.MethodName) jdk_42_method_66_code (3 : Nat) (Option.some Jvm.ClassFile.FieldType.boolean), Jvm.Cond.code ({ cls := "com/example/foreground_courier/foregroundcourier/Failure", name := "cause", desc := "()Ljava/lang/Throwable;" } : Jvm.MethodName) prog_3_method_7_code (1 : Nat) (Option.some (Jvm.ClassFile.FieldType.object "java/lang/Throwable"))]
set_option maxRecDepth 65536 in
theorem codes_eq : words1.filter isCode = codes1 := rfl
theorem w_codes : ∀ c ∈ words1.filter isCode, c.before args0 about1 = true := by
  rw [codes_eq]
  intro c hc
  simp only [codes1, List.mem_cons, List.not_mem_nil, or_false] at hc
  rcases hc with rfl | rfl | rfl | rfl | rfl | rfl | rfl | rfl | rfl | rfl | rfl | rfl | rfl | rfl | rfl | rfl | rfl
  · exact w_c0
  · exact w_c1
  · exact w_c2
  · exact w_c3
  · exact w_c4
  · exact w_c5
  · exact w_c6
  · exact w_c7
  · exact w_c8
  · exact w_c9
  · exact w_c10
  · exact w_c11
  · exact w_c12
  · exact w_c13
  · exact w_c14
  · exact w_c15
  · exact w_c16
set_option maxRecDepth 65536 in
theorem w_t1 : (words1.take 24).all (fun c => isCode c || c.before args0 about1) = true := by decide +kernel
set_option maxRecDepth 65536 in
theorem w_t2 : ((words1.drop 24).take 24).all (fun c => isCode c || c.before args0 about1) = true := by decide +kernel
set_option maxRecDepth 65536 in
theorem w_t3 : (((words1.drop 24).drop 24).take 24).all (fun c => isCode c || c.before args0 about1) = true := by decide +kernel
set_option maxRecDepth 65536 in
theorem w_t4 : (((words1.drop 24).drop 24).drop 24).all (fun c => isCode c || c.before args0 about1) = true := by decide +kernel
theorem w_tables : (allAtoms (Jvm.Cond.code x code maxLocals ret :: tables_1)).before args0 about1 = true := by
  rw [allAtoms_all]
  show words1.all (fun c => c.before args0 about1) = true
  refine all_split ?_ w_codes
  rw [← List.take_append_drop 24 words1, List.all_append, w_t1, ← List.take_append_drop 24 (words1.drop 24), List.all_append, w_t2, ← List.take_append_drop 24 ((words1.drop 24).drop 24), List.all_append, w_t3, w_t4]
  rfl
set_option maxRecDepth 65536 in
theorem w_rest : rest_1_c.before args0 about1 = true := by decide +kernel
set_option maxRecDepth 65536 in
theorem w_case : (Jvm.Cond.and given_1 narrow_1).before args0 about1 = true := by decide +kernel
set_option maxRecDepth 65536 in
theorem w_consts : constsHeld consts_1 about1 := Jvm.Lit.constsHeldB_iff.mp (by decide +kernel)
theorem w_applies : (headSpec (Jvm.Cond.code x code maxLocals ret :: tables_1) room_1).applies x e0.platform about1 = true :=
  (Spec.applies_iff w_frames).mpr ⟨w_running, w_runnable, w_alone, w_named, w_hears, w_ripe, w_room, w_tables⟩
theorem atStart : AtStart classFile x code maxLocals ret World_1 tables_1 room_1 Calls_1 rest_1 Pre_1 launch0 p0 e0 about1 theMethod args0 below0 :=
  ⟨lists_1, trivial, launch0.admits_env _ _ _, launch0.least_env, fairChoices_fair.cas, fairChoices_fair.clock, w_frames, w_args, w_heap, w_applies, ⟨w_consts, trivial⟩, w_rest, w_case⟩
end start1
theorem witness_1 : WitnessClaimed_1 := ⟨start1.p0, start1.e0, start1.about1, start1.theMethod, start1.args0, start1.below0, start1.atStart⟩
end Jvm.Pilot.@@N@@
