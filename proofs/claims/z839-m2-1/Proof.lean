import JvmDerived
import JvmDerived.Pilot.@@N@@Statement
import JvmDerived.Pilot.@@N@@Code
set_option linter.unusedVariables false
set_option linter.unusedSimpArgs false
namespace Jvm.RoadKit
open Sem ClassFile Op Lib Jvm.Stand Jvm.Free Jvm.LawKit
section New
variable {p : Program} {l : Launch} {e : Env} {R : Room} {s : State} {m : MethodId} {args : Array Value} {below : List Frame} {meth : Method} {c : Code} {T : State} {locs : List Loc} {cells slots : Nat}
theorem retI (X : Stand p l e R s m args below meth c T locs cells slots) (hx : p.tables.exec = Jvm.exec) {pc : Nat} {Ls : Array Slot} {z : Int32} {rest : List Value} (hret : meth.sig.returnType = some .int) (hd : decode c.code pc = .ok (.ireturn, 1)) {fs : List Frame}
    (hl : ∀ (f : JFrame) (acts : List Action), f.method = m → f.locked = none → f.entered = [] → (doReturn e (T.setTop f) acts (some (.int z))).1 = T.setFrames fs) : Steps p.tables e below (T.setTop (mkF m pc Ls (.int z :: rest))) (T.setFrames fs) :=
  retOut X hx hret rfl (Or.inl ⟨rfl, Or.inl rfl, z, rfl⟩) hd hl
end New
end Jvm.RoadKit
/- laws to paste: Road.backV, Road.lenW, Road.codOf (cut by pick.py; bodies as the Statement names them) -/
namespace Jvm.Pilot.@@N@@
namespace StrChars
open Jvm Sem ClassFile Op Lib Jvm.Stand Jvm.Free.XT Jvm.Free.ALB Jvm.Free.JM Jvm.Free
open Jvm.Lib.Cold (StaticIs)
/-- a char array whose places are chars -/
def Ch (a : Addr) (A : Cell) (U : State) : Prop := Arr .char a A U ∧ Typed .char A
theorem Ch.mv {a : Addr} {A : Cell} {U U' : State} (h : Ch a A U) (hal : U.vm.Alike U'.vm) (hh : U'.heap = U.heap) : Ch a A U' := ⟨h.1.mv hal hh, h.2⟩
theorem Ch.keep {a : Addr} {A : Cell} {U U' : State} (h : Ch a A U) (hal : U.vm.Alike U'.vm) (hk : U'.heap[a]? = some A) : Ch a A U' := ⟨h.1.keep hal hk, h.2⟩
/-- what place i of a char[]'s cell holds -/
def cv (A : Cell) (i : Nat) : Int32 := match A.slots[i]? with | some (.int x) => x | _ => 0
theorem Ch.get {a : Addr} {A : Cell} {U : State} (h : Ch a A U) {i : Nat} (hi : i < A.slots.size) : A.slots[i]? = some (.int (cv A i)) := by
  have e := Array.getElem?_eq_getElem hi
  have f := h.2 i _ e
  unfold cv; rw [e]
  generalize A.slots[i] = v at f
  cases v <;> simp [fits] at f ⊢
/-- the byte that i2b leaves of a char -/
def lo8 (x : Int32) : Int32 := x.toInt8.toInt32
theorem fits_lo8 (y : Int32) : fits .byte (.int (lo8 y)) = true := by
  have h1 := y.toInt8.le_toInt
  have h2 := y.toInt8.toInt_lt
  simp only [lo8, fits, Bool.and_eq_true, decide_eq_true_eq, Int32.le_iff_toInt_le, Int8.toInt_toInt32, show (-128 : Int32).toInt = -128 from by decide, show (127 : Int32).toInt = 127 from by decide]
  omega
/-- A' is A but that each place j of lo .. hi - 1 holds f j -/
def Laid (A A' : Cell) (lo hi : Nat) (f : Nat → Value) : Prop := A'.cls = A.cls ∧ A'.vm = A.vm ∧ A'.slots.size = A.slots.size ∧ ∀ i, A'.slots[i]? = if lo ≤ i ∧ i < hi then some (f i) else A.slots[i]?
theorem Laid.zero (A : Cell) (lo : Nat) (f : Nat → Value) : Laid A A lo (lo + 0) f := ⟨rfl, rfl, rfl, fun i => by rw [if_neg (by omega)]⟩
theorem Laid.step {A Ak : Cell} {lo k : Nat} {f : Nat → Value} {v : Value} (h : Laid A Ak lo k f) (hlo : lo ≤ k) (hk : k < Ak.slots.size) (hv : v = f k) : Laid A (Ak.setSlot k v) lo (k + 1) f := by
  refine ⟨h.1, h.2.1, by simpa [Cell.setSlot] using h.2.2.1, fun i => ?_⟩
  by_cases e : k = i
  · subst e; rw [Cell.slots_setSlot_self v hk, if_pos (by omega), hv]
  · rw [Cell.slots_setSlot_ne v e, h.2.2.2 i]
    by_cases q : lo ≤ i ∧ i < k
    · rw [if_pos q, if_pos (by omega)]
    · rw [if_neg q, if_neg (by omega)]
def U16 : String := "java/lang/StringUTF16"
namespace Cmp5
def yN : MethodName := ⟨"java/lang/StringUTF16", "compress", "([CI[BII)I"⟩
abbrev yB : ByteArray := jdk_52_method_21_code
theorem d0 : decode yB 0 = .ok (.iconst 0, 1) := by decide +kernel
theorem d1 : decode yB 1 = .ok (.istore 5, 2) := by decide +kernel
theorem d3 : decode yB 3 = .ok (.iload 5, 2) := by decide +kernel
theorem d5 : decode yB 5 = .ok (.iload 4, 2) := by decide +kernel
theorem d7 : decode yB 7 = .ok (.if_icmp (.ge) 37, 3) := by decide +kernel
theorem d10 : decode yB 10 = .ok (.aload_n 0, 1) := by decide +kernel
theorem d11 : decode yB 11 = .ok (.iload_n 1, 1) := by decide +kernel
theorem d12 : decode yB 12 = .ok (.caload, 1) := by decide +kernel
theorem d13 : decode yB 13 = .ok (.istore 6, 2) := by decide +kernel
theorem d15 : decode yB 15 = .ok (.iload 6, 2) := by decide +kernel
theorem d17 : decode yB 17 = .ok (.sipush 255, 3) := by decide +kernel
theorem d20 : decode yB 20 = .ok (.if_icmp (.le) 6, 3) := by decide +kernel
theorem d26 : decode yB 26 = .ok (.aload_n 2, 1) := by decide +kernel
theorem d27 : decode yB 27 = .ok (.iload_n 3, 1) := by decide +kernel
theorem d28 : decode yB 28 = .ok (.iload 6, 2) := by decide +kernel
theorem d30 : decode yB 30 = .ok (.i2b, 1) := by decide +kernel
theorem d31 : decode yB 31 = .ok (.bastore, 1) := by decide +kernel
theorem d32 : decode yB 32 = .ok (.iinc 1 1, 3) := by decide +kernel
theorem d35 : decode yB 35 = .ok (.iinc 3 1, 3) := by decide +kernel
theorem d38 : decode yB 38 = .ok (.iinc 5 1, 3) := by decide +kernel
theorem d41 : decode yB 41 = .ok (.goto (-38), 3) := by decide +kernel
theorem d44 : decode yB 44 = .ok (.iload 4, 2) := by decide +kernel
theorem d46 : decode yB 46 = .ok (.ireturn, 1) := by decide +kernel
def site : List Cond := []
def tab : Cond := tabOf yN yB 7 (some .int) site
def P (b : Addr) (A : Cell) (d : Addr) (B : Cell) (o q len : Nat) (args : Array Value) (s : State) : Prop := args = #[.ref b, .int (Int32.ofNat o), .ref d, .int (Int32.ofNat q), .int (Int32.ofNat len)] ∧ Ch b A s ∧ Arr .byte d B s ∧ b ≠ d ∧ o + len ≤ A.slots.size ∧ q + len ≤ B.slots.size ∧ ∀ i, i < len → ¬ 255 < cv A (o + i)
def E (b : Addr) (A : Cell) (d : Addr) (B : Cell) (o q len : Nat) (r : Option Value) (s u : State) : Prop := r = some (.int (Int32.ofNat len)) ∧ ∃ B', Put d B' s u ∧ Laid B B' q (q + len) (fun j => Value.int (lo8 (cv A (o + (j - q)))))
/-- no char of the range above 255: len; the places written hold each char's low byte -/
theorem law (l : Launch) (b : Addr) (A : Cell) (d : Addr) (B : Cell) (o q len : Nat) : Law l yN 5 5 0 0 yB 7 (some .int) site (P b A d B o q len) (E b A d B o q len) (copyLocs d q len) 0 0 := by
  refine Law.of_walk (plainFor_of_name (by decide +kernel)) (by decide +kernel) (by decide +kernel) (by decide) (fun _ _ h => by rw [h.1]; rfl) (fun _ U U' hal hh h => ⟨h.1, h.2.1.mv hal hh, h.2.2.1.mv hal hh, h.2.2.2⟩) (fun r U U' V V' h1 hal h2 h => ⟨h.1, h.2.elim fun B' q => ⟨B', q.1.mv h1 h2, q.2⟩⟩) ?_
  intro p e s m args below meth c s₁ X0 hexec hbytes hml hret hlk hnm hown hh0 W hP
  obtain ⟨rfl, hA, hB, hne, l1, l2, hp⟩ := hP
  have c1 : Steps p.tables e below (s₁.setTop (entryFrame m #[.ref b, .int (Int32.ofNat o), .ref d, .int (Int32.ofNat q), .int (Int32.ofNat len)] 7)) (s₁.setTop (mkF m 0 #[.val (.ref b), .val (.int (Int32.ofNat o)), .val (.ref d), .val (.int (Int32.ofNat q)), .val (.int (Int32.ofNat len)), .unset, .unset] [])) := entry rfl
  have hA0 := hA.1.mv X0.warmed.alike hh0
  have hB0 := hB.mv X0.warmed.alike hh0
  have a31 := hA.1.2.2.2
  have c2 : Steps p.tables e below (s₁.setTop (entryFrame m #[.ref b, .int (Int32.ofNat o), .ref d, .int (Int32.ofNat q), .int (Int32.ofNat len)] 7)) (s₁.setTop (mkF m 3 #[.val (.ref b), .val (.int (Int32.ofNat o)), .val (.ref d), .val (.int (Int32.ofNat q)), .val (.int (Int32.ofNat len)), .val (.int 0), .unset] [])) := c1.trans (by
    refine iconstV X0.here hexec rfl 0 (hb hbytes d0) (by decide) ?_
    refine XS.istore X0.here hexec rfl (hb hbytes d1) rfl rfl ?_
    exact Steps.refl _)
  have loop : ∀ (r i : Nat), i + r = len → ∀ (z : Slot), (z = .unset ∨ ∃ w, z = .val w ∧ w.category = 1) → ∀ (Tl : State) (Bk : Cell), Stand p l e { frames := 0, locals := 0, cells := 0, slots := 0 } s m #[.ref b, .int (Int32.ofNat o), .ref d, .int (Int32.ofNat q), .int (Int32.ofNat len)] below meth c Tl ([] ++ copyLocs d q i) 0 0 → Put d Bk s₁ Tl → Laid B Bk q (q + i) (fun j => Value.int (lo8 (cv A (o + (j - q))))) →
      Steps p.tables e below (s₁.setTop (entryFrame m #[.ref b, .int (Int32.ofNat o), .ref d, .int (Int32.ofNat q), .int (Int32.ofNat len)] 7)) (Tl.setTop (mkF m 3 #[.val (.ref b), .val (.int (Int32.ofNat (o + i))), .val (.ref d), .val (.int (Int32.ofNat (q + i))), .val (.int (Int32.ofNat len)), .val (.int (Int32.ofNat i)), z] [])) → ∃ (T' : State) (B' : Cell) (z' : Slot), Stand p l e { frames := 0, locals := 0, cells := 0, slots := 0 } s m #[.ref b, .int (Int32.ofNat o), .ref d, .int (Int32.ofNat q), .int (Int32.ofNat len)] below meth c T' ([] ++ copyLocs d q len) 0 0 ∧ Put d B' s₁ T' ∧ Laid B B' q (q + len) (fun j => Value.int (lo8 (cv A (o + (j - q))))) ∧
      Steps p.tables e below (s₁.setTop (entryFrame m #[.ref b, .int (Int32.ofNat o), .ref d, .int (Int32.ofNat q), .int (Int32.ofNat len)] 7)) (T'.setTop (mkF m 3 #[.val (.ref b), .val (.int (Int32.ofNat (o + len))), .val (.ref d), .val (.int (Int32.ofNat (q + len))), .val (.int (Int32.ofNat len)), .val (.int (Int32.ofNat len)), z'] [])) := by
    intro r
    induction r with
    | zero =>
      intro i hi z hz Tl Bk Xl pl fl cl
      have hil : i = len := by omega
      rw [hil] at Xl fl cl
      exact ⟨Tl, Bk, z, Xl, pl, fl, cl⟩
    | succ r ih =>
      intro i hi z hz Tl Bk Xl pl fl cl
      have all := X0.warmed.alike.symm.trans Xl.warmed.alike
      have hAl := hA0.keep all (pl.other hne hA0.1)
      have hBk := hB0.like all pl.1 fl.1 fl.2.1 fl.2.2.1
      have hlt : q + i < Bk.slots.size := by rw [fl.2.2.1]; omega
      have c3 : Steps p.tables e below (s₁.setTop (entryFrame m #[.ref b, .int (Int32.ofNat o), .ref d, .int (Int32.ofNat q), .int (Int32.ofNat len)] 7)) (Tl.setTop (mkF m 12 #[.val (.ref b), .val (.int (Int32.ofNat (o + i))), .val (.ref d), .val (.int (Int32.ofNat (q + i))), .val (.int (Int32.ofNat len)), .val (.int (Int32.ofNat i)), z] [.int (Int32.ofNat (o + i)), .ref b])) := cl.trans (by
        refine XS.iload Xl.here hexec rfl (hb hbytes d3) rfl ?_
        refine XS.iload Xl.here hexec rfl (hb hbytes d5) rfl ?_
        refine XS.icmpNo Xl.here hexec rfl (hb hbytes d7) rfl (ii_ge_f (lt32 (by omega) (by omega))) ?_
        refine XS.aloadN Xl.here hexec rfl (hb hbytes d10) rfl rfl ?_
        refine XS.iloadN Xl.here hexec rfl (hb hbytes d11) rfl ?_
        exact Steps.refl _)
      have c4 : Steps p.tables e below (s₁.setTop (entryFrame m #[.ref b, .int (Int32.ofNat o), .ref d, .int (Int32.ofNat q), .int (Int32.ofNat len)] 7)) (Tl.setTop (mkF m 13 #[.val (.ref b), .val (.int (Int32.ofNat (o + i))), .val (.ref d), .val (.int (Int32.ofNat (q + i))), .val (.int (Int32.ofNat len)), .val (.int (Int32.ofNat i)), z] [.int (cv A (o + i))])) := c3.trans (by
        refine Xl.aget hexec hAl rfl (hA.get (i := o + i) (by omega)) rfl rfl (hb hbytes d12) ?_
        exact Steps.refl _)
      have c5 : Steps p.tables e below (s₁.setTop (entryFrame m #[.ref b, .int (Int32.ofNat o), .ref d, .int (Int32.ofNat q), .int (Int32.ofNat len)] 7)) (Tl.setTop (mkF m 15 #[.val (.ref b), .val (.int (Int32.ofNat (o + i))), .val (.ref d), .val (.int (Int32.ofNat (q + i))), .val (.int (Int32.ofNat len)), .val (.int (Int32.ofNat i)), .val (.int (cv A (o + i)))] [])) := c4.trans (by
        refine XS.istoreS Xl.here hexec rfl (hb hbytes d13) rfl rfl hz ?_
        exact Steps.refl _)
      have c6 : Steps p.tables e below (s₁.setTop (entryFrame m #[.ref b, .int (Int32.ofNat o), .ref d, .int (Int32.ofNat q), .int (Int32.ofNat len)] 7)) (Tl.setTop (mkF m 31 #[.val (.ref b), .val (.int (Int32.ofNat (o + i))), .val (.ref d), .val (.int (Int32.ofNat (q + i))), .val (.int (Int32.ofNat len)), .val (.int (Int32.ofNat i)), .val (.int (cv A (o + i)))] [.int (lo8 (cv A (o + i))), .int (Int32.ofNat (q + i)), .ref d])) := c5.trans (by
        refine XS.iload Xl.here hexec rfl (hb hbytes d15) rfl ?_
        refine sipushV Xl.here hexec rfl 255 (hb hbytes d17) (by decide) ?_
        refine XS.icmpYes Xl.here hexec rfl (pc0 := 20) rfl (hb hbytes d20) rfl (ii_le_t (hp i (by omega))) (by decide) rfl ?_
        refine XS.aloadN Xl.here hexec rfl (hb hbytes d26) rfl rfl ?_
        refine XS.iloadN Xl.here hexec rfl (hb hbytes d27) rfl ?_
        refine XS.iload Xl.here hexec rfl (hb hbytes d28) rfl ?_
        refine i2b Xl.here hexec rfl (hb hbytes d30) rfl ?_
        exact Steps.refl _)
      obtain ⟨T7, X7, p7, st7⟩ := Xl.aput hexec hBk rfl hlt rfl (fits_lo8 (cv A (o + i))) (g := (mkF m 31 #[.val (.ref b), .val (.int (Int32.ofNat (o + i))), .val (.ref d), .val (.int (Int32.ofNat (q + i))), .val (.int (Int32.ofNat len)), .val (.int (Int32.ofNat i)), .val (.int (cv A (o + i)))] [.int (lo8 (cv A (o + i))), .int (Int32.ofNat (q + i)), .ref d])) rfl (rest := []) rfl (hb hbytes d31)
      have c8 : Steps p.tables e below (s₁.setTop (entryFrame m #[.ref b, .int (Int32.ofNat o), .ref d, .int (Int32.ofNat q), .int (Int32.ofNat len)] 7)) (T7.setTop (mkF m 32 #[.val (.ref b), .val (.int (Int32.ofNat (o + i))), .val (.ref d), .val (.int (Int32.ofNat (q + i))), .val (.int (Int32.ofNat len)), .val (.int (Int32.ofNat i)), .val (.int (cv A (o + i)))] [])) := c6.trans (st7 _ (Steps.refl _))
      have c9 : Steps p.tables e below (s₁.setTop (entryFrame m #[.ref b, .int (Int32.ofNat o), .ref d, .int (Int32.ofNat q), .int (Int32.ofNat len)] 7)) (T7.setTop (mkF m 3 #[.val (.ref b), .val (.int (Int32.ofNat (o + i) + 1)), .val (.ref d), .val (.int (Int32.ofNat (q + i) + 1)), .val (.int (Int32.ofNat len)), .val (.int (Int32.ofNat i + 1)), .val (.int (cv A (o + i)))] [])) := c8.trans (by
        refine iincV X7.here hexec rfl 1 (hb hbytes d32) (by decide) rfl rfl ?_
        refine iincV X7.here hexec rfl 1 (hb hbytes d35) (by decide) rfl rfl ?_
        refine iincV X7.here hexec rfl 1 (hb hbytes d38) (by decide) rfl rfl ?_
        refine XS.goto X7.here hexec rfl (pc0 := 41) rfl (hb hbytes d41) (by decide) rfl ?_
        exact Steps.refl _)
      have c10 : Steps p.tables e below (s₁.setTop (entryFrame m #[.ref b, .int (Int32.ofNat o), .ref d, .int (Int32.ofNat q), .int (Int32.ofNat len)] 7)) (T7.setTop (mkF m 3 #[.val (.ref b), .val (.int (Int32.ofNat (o + (i + 1)))), .val (.ref d), .val (.int (Int32.ofNat (q + (i + 1)))), .val (.int (Int32.ofNat len)), .val (.int (Int32.ofNat (i + 1))), .val (.int (cv A (o + i)))] [])) := by
        have := c9
        rw [succ32, succ32, succ32] at this
        exact this
      exact ih (i + 1) (by omega) _ (Or.inr ⟨_, rfl, rfl⟩) T7 _ (by rw [copyLocs_step, ← List.append_assoc]; exact X7) (pl.trans p7) (fl.step (by omega) hlt (by simp)) c10
  obtain ⟨T9, B9, z9, X9, p9, f9, g9⟩ := loop len 0 (by omega) .unset (Or.inl rfl) s₁ B (by simpa [copyLocs] using X0) ⟨hB0.1, fun _ _ => rfl, rfl⟩ (Laid.zero _ _ _) c2
  have c11 : Steps p.tables e below (s₁.setTop (entryFrame m #[.ref b, .int (Int32.ofNat o), .ref d, .int (Int32.ofNat q), .int (Int32.ofNat len)] 7)) (T9.setTop (mkF m 46 #[.val (.ref b), .val (.int (Int32.ofNat (o + len))), .val (.ref d), .val (.int (Int32.ofNat (q + len))), .val (.int (Int32.ofNat len)), .val (.int (Int32.ofNat len)), z9] [.int (Int32.ofNat len)])) := g9.trans (by
    refine XS.iload X9.here hexec rfl (hb hbytes d3) rfl ?_
    refine XS.iload X9.here hexec rfl (hb hbytes d5) rfl ?_
    refine XS.icmpYes X9.here hexec rfl (pc0 := 7) rfl (hb hbytes d7) rfl (ii_ge_t (nlt32 (by omega) (Nat.le_refl _))) (by decide) rfl ?_
    refine XS.iload X9.here hexec rfl (hb hbytes d44) rfl ?_
    exact Steps.refl _)
  exact ⟨T9, some (.int (Int32.ofNat len)), _, _, _, X9, by simp, rfl, rfl, (fun h => by cases h), ⟨rfl, B9, p9.from hh0, f9⟩, fun fs hl => c11.trans (X9.ireturnOut hexec hret rfl (Or.inl rfl) (hb hbytes d46) hl)⟩
end Cmp5
namespace Cmp3
def yN : MethodName := ⟨"java/lang/StringUTF16", "compress", "([CII)[B"⟩
abbrev yB : ByteArray := jdk_52_method_16_code
theorem d0 : decode yB 0 = .ok (.iload_n 2, 1) := by decide +kernel
theorem d1 : decode yB 1 = .ok (.newarray .byte, 2) := by decide +kernel
theorem d3 : decode yB 3 = .ok (.astore_n 3, 1) := by decide +kernel
theorem d4 : decode yB 4 = .ok (.aload_n 0, 1) := by decide +kernel
theorem d5 : decode yB 5 = .ok (.iload_n 1, 1) := by decide +kernel
theorem d6 : decode yB 6 = .ok (.aload_n 3, 1) := by decide +kernel
theorem d7 : decode yB 7 = .ok (.iconst 0, 1) := by decide +kernel
theorem d8 : decode yB 8 = .ok (.iload_n 2, 1) := by decide +kernel
theorem d9 : decode yB 9 = .ok (.invokestatic 115, 3) := by decide +kernel
theorem d12 : decode yB 12 = .ok (.istore 4, 2) := by decide +kernel
theorem d14 : decode yB 14 = .ok (.iload 4, 2) := by decide +kernel
theorem d16 : decode yB 16 = .ok (.iload_n 2, 1) := by decide +kernel
theorem d17 : decode yB 17 = .ok (.if_icmp (.eq) 40, 3) := by decide +kernel
theorem d57 : decode yB 57 = .ok (.aload_n 3, 1) := by decide +kernel
theorem d58 : decode yB 58 = .ok (.areturn, 1) := by decide +kernel
def site : List Cond := [.arrayClass .byte, Cmp5.tab] ++ staticW U16 115 Cmp5.yN
def tab : Cond := tabOf yN yB 6 (some (.array .byte)) site
def P (b : Addr) (A : Cell) (o len : Nat) (args : Array Value) (s : State) : Prop := args = #[.ref b, .int (Int32.ofNat o), .int (Int32.ofNat len)] ∧ Ch b A s ∧ o + len ≤ A.slots.size ∧ len ≤ 536870912 ∧ ∀ i, i < len → ¬ 255 < cv A (o + i)
def E (b : Addr) (A : Cell) (o len : Nat) (r : Option Value) (s u : State) : Prop := NewArr .byte "[B" len (fun j => .int (lo8 (cv A (o + j)))) r s u ∧ u.heap.size = s.heap.size + 1
/-- no char of the range above 255: a new byte[] of their low bytes -/
theorem law (l : Launch) (b : Addr) (A : Cell) (o len : Nat) : Law l yN 3 3 1 18 yB 6 (some (.array .byte)) site (P b A o len) (E b A o len) [] 1 len := by
  refine Law.of_walk (plainFor_of_name (by decide +kernel)) (by decide +kernel) (by decide +kernel) (by decide) (fun _ _ h => by rw [h.1]; rfl) (fun _ U U' hal hh h => ⟨h.1, h.2.1.mv hal hh, h.2.2⟩) (fun r U U' V V' h1 hal h2 h => ⟨NewArr.mv r U U' V V' h1 hal h2 h.1, by rw [h1, h2]; exact h.2⟩) ?_
  intro p e s m args below meth c s₁ X0 hexec hbytes hml hret hlk hnm hown hh0 W hP
  obtain ⟨rfl, hA, l1, l2, hp⟩ := hP
  have a31 := hA.1.2.2.2
  have c1 : Steps p.tables e below (s₁.setTop (entryFrame m #[.ref b, .int (Int32.ofNat o), .int (Int32.ofNat len)] 6)) (s₁.setTop (mkF m 0 #[.val (.ref b), .val (.int (Int32.ofNat o)), .val (.int (Int32.ofNat len)), .unset, .unset, .unset] [])) := entry rfl
  have c2 : Steps p.tables e below (s₁.setTop (entryFrame m #[.ref b, .int (Int32.ofNat o), .int (Int32.ofNat len)] 6)) (s₁.setTop (mkF m 1 #[.val (.ref b), .val (.int (Int32.ofNat o)), .val (.int (Int32.ofNat len)), .unset, .unset, .unset] [.int (Int32.ofNat len)])) := c1.trans (by
    refine XS.iloadN X0.here hexec rfl (hb hbytes d0) rfl ?_
    exact Steps.refl _)
  obtain ⟨T3, B3, X3, ba3, bs3, bv3, bh3, bf3, st3⟩ := X0.anew hexec (atype := .byte) (wk W (.arrayClass .byte)) rfl (by show len * 1 ≤ _; omega) (by omega) (g := (mkF m 1 #[.val (.ref b), .val (.int (Int32.ofNat o)), .val (.int (Int32.ofNat len)), .unset, .unset, .unset] [.int (Int32.ofNat len)])) rfl (hb hbytes d1) (rest := []) rfl (Nat.le_refl _) (by show 0 + len ≤ len; omega)
  rw [hh0] at ba3 st3
  have kp3 : XT.Kept s T3 := (XT.Kept.of_eq hh0).push bh3
  have hA3 := hA.keep X3.warmed.alike (kp3 _ _ hA.1.1)
  have hne : b ≠ s.heap.size := hA.1.ne
  have c4 : Steps p.tables e below (s₁.setTop (entryFrame m #[.ref b, .int (Int32.ofNat o), .int (Int32.ofNat len)] 6)) (T3.setTop (mkF m 3 #[.val (.ref b), .val (.int (Int32.ofNat o)), .val (.int (Int32.ofNat len)), .unset, .unset, .unset] [.ref s.heap.size])) := c2.trans (st3 _ (Steps.refl _))
  have c5 : Steps p.tables e below (s₁.setTop (entryFrame m #[.ref b, .int (Int32.ofNat o), .int (Int32.ofNat len)] 6)) (T3.setTop (mkF m 9 #[.val (.ref b), .val (.int (Int32.ofNat o)), .val (.int (Int32.ofNat len)), .val (.ref s.heap.size), .unset, .unset] [.int (Int32.ofNat len), .int 0, .ref s.heap.size, .int (Int32.ofNat o), .ref b])) := c4.trans (by
    refine XS.astoreN X3.here hexec rfl (hb hbytes d3) rfl rfl rfl ?_
    refine XS.aloadN X3.here hexec rfl (hb hbytes d4) rfl rfl ?_
    refine XS.iloadN X3.here hexec rfl (hb hbytes d5) rfl ?_
    refine XS.aloadN X3.here hexec rfl (hb hbytes d6) rfl rfl ?_
    refine iconstV X3.here hexec rfl 0 (hb hbytes d7) (by decide) ?_
    refine XS.iloadN X3.here hexec rfl (hb hbytes d8) rfl ?_
    exact Steps.refl _)
  obtain ⟨v6, T6, X6, E6, g6⟩ := X3.callS hexec (Cmp5.law l b A s.heap.size B3 o 0 len) hown (wks W (staticW U16 115 Cmp5.yN)) (wk W Cmp5.tab) (W := 0) (Nat.le_of_ble_eq_true rfl) (Nat.le_of_ble_eq_true rfl) (Nat.le_refl _) (by show 0 + len + 0 ≤ len; omega) (g := (mkF m 9 #[.val (.ref b), .val (.int (Int32.ofNat o)), .val (.int (Int32.ofNat len)), .val (.ref s.heap.size), .unset, .unset] [.int (Int32.ofNat len), .int (Int32.ofNat 0), .ref s.heap.size, .int (Int32.ofNat o), .ref b])) rfl (by rw [hml]; rfl) c5 (argsL := [.ref b, .int (Int32.ofNat o), .ref s.heap.size, .int (Int32.ofNat 0), .int (Int32.ofNat len)]) (rest := []) rfl rfl (by show 2 * 0 + 0 ≤ _; decide) (hb hbytes d9) (⟨rfl, hA3, ba3, hne, l1, by rw [bs3]; simp, hp⟩)
  obtain ⟨rfl, B6, p6, f6⟩ := E6
  have c7 : Steps p.tables e below (s₁.setTop (entryFrame m #[.ref b, .int (Int32.ofNat o), .int (Int32.ofNat len)] 6)) (T6.setTop (mkF m 12 #[.val (.ref b), .val (.int (Int32.ofNat o)), .val (.int (Int32.ofNat len)), .val (.ref s.heap.size), .unset, .unset] [.int (Int32.ofNat len)])) := g6
  have c8 : Steps p.tables e below (s₁.setTop (entryFrame m #[.ref b, .int (Int32.ofNat o), .int (Int32.ofNat len)] 6)) (T6.setTop (mkF m 58 #[.val (.ref b), .val (.int (Int32.ofNat o)), .val (.int (Int32.ofNat len)), .val (.ref s.heap.size), .val (.int (Int32.ofNat len)), .unset] [.ref s.heap.size])) := c7.trans (by
    refine XS.istore X6.here hexec rfl (hb hbytes d12) rfl rfl ?_
    refine XS.iload X6.here hexec rfl (hb hbytes d14) rfl ?_
    refine XS.iloadN X6.here hexec rfl (hb hbytes d16) rfl ?_
    refine XS.icmpYes X6.here hexec rfl (pc0 := 17) rfl (hb hbytes d17) rfl (ii_eq_t rfl) (by decide) rfl ?_
    refine XS.aloadN X6.here hexec rfl (hb hbytes d57) rfl rfl ?_
    exact Steps.refl _)
  have X8 := X6.wide (L' := []) (cells' := 1) (slots' := len) (fun x hx hlt => by
    simp only [List.nil_append, copyLocs, List.mem_map, List.mem_range] at hx
    obtain ⟨i, -, rfl⟩ := hx
    exact absurd hlt (Nat.lt_irrefl _)) (Nat.le_refl _) (by omega)
  exact ⟨T6, some (.ref s.heap.size), _, _, _, X8, rfl, rfl, rfl, (fun h => by cases h), ⟨⟨rfl, B6, ba3.like (X3.warmed.alike.symm.trans X6.warmed.alike) p6.1 f6.1 f6.2.1 f6.2.2.1, f6.2.1.trans bv3, by rw [X6.warmed.alike.findClass, f6.1]; exact bf3, by rw [f6.2.2.1, bs3]; simp, fun j hj => by rw [f6.2.2.2 j, if_pos (by omega)]; rfl, kp3.put p6 (Nat.le_refl _)⟩, by rw [p6.2.2, bh3, hh0]; simp⟩, fun fs hl => c8.trans (X8.areturnOut hexec rfl hret rfl (hb hbytes d58) hl)⟩
end Cmp3
namespace CodL
def yN : MethodName := ⟨"java/lang/StringUTF16", "coderFromArrayLen", "([BI)B"⟩
abbrev yB : ByteArray := jdk_52_method_15_code
theorem d0 : decode yB 0 = .ok (.iload_n 1, 1) := by decide +kernel
theorem d1 : decode yB 1 = .ok (.aload_n 0, 1) := by decide +kernel
theorem d2 : decode yB 2 = .ok (.arraylength, 1) := by decide +kernel
theorem d3 : decode yB 3 = .ok (.isub, 1) := by decide +kernel
theorem d4 : decode yB 4 = .ok (.bipush 31, 2) := by decide +kernel
theorem d6 : decode yB 6 = .ok (.iushr, 1) := by decide +kernel
theorem d7 : decode yB 7 = .ok (.i2b, 1) := by decide +kernel
theorem d8 : decode yB 8 = .ok (.ireturn, 1) := by decide +kernel
def site : List Cond := []
def tab : Cond := tabOf yN yB 2 (some .byte) site
def P (d : Addr) (B : Cell) (args : Array Value) (s : State) : Prop := args = #[.ref d, .int (Int32.ofNat B.slots.size)] ∧ Arr .byte d B s
def E (r : Option Value) (s u : State) : Prop := XT.PureE (some (.int 0)) r s u
/-- an array as long as the number of chars: LATIN1 -/
theorem law (l : Launch) (d : Addr) (B : Cell) : Law l yN 2 2 0 0 yB 2 (some .byte) site (P d B) E [] 0 0 := by
  refine Law.of_walk (plainFor_of_name (by decide +kernel)) (by decide +kernel) (by decide +kernel) (by decide) (fun _ _ h => by rw [h.1]; rfl) (fun _ U U' hal hh h => ⟨h.1, h.2.mv hal hh⟩) (fun r U U' V V' h1 hal h2 h => XT.PureE.mv r U U' V V' h1 hal h2 h) ?_
  intro p e s m args below meth c s₁ X0 hexec hbytes hml hret hlk hnm hown hh0 W hP
  obtain ⟨rfl, hB⟩ := hP
  have hB0 := hB.mv X0.warmed.alike hh0
  have c1 : Steps p.tables e below (s₁.setTop (entryFrame m #[.ref d, .int (Int32.ofNat B.slots.size)] 2)) (s₁.setTop (mkF m 0 #[.val (.ref d), .val (.int (Int32.ofNat B.slots.size))] [])) := entry rfl
  have c2 : Steps p.tables e below (s₁.setTop (entryFrame m #[.ref d, .int (Int32.ofNat B.slots.size)] 2)) (s₁.setTop (mkF m 2 #[.val (.ref d), .val (.int (Int32.ofNat B.slots.size))] [.ref d, .int (Int32.ofNat B.slots.size)])) := c1.trans (by
    refine XS.iloadN X0.here hexec rfl (hb hbytes d0) rfl ?_
    refine XS.aloadN X0.here hexec rfl (hb hbytes d1) rfl rfl ?_
    exact Steps.refl _)
  have c3 : Steps p.tables e below (s₁.setTop (entryFrame m #[.ref d, .int (Int32.ofNat B.slots.size)] 2)) (s₁.setTop (mkF m 8 #[.val (.ref d), .val (.int (Int32.ofNat B.slots.size))] [.int (lo8 (ushr (Int32.ofNat B.slots.size - Int32.ofNat B.slots.size) 31))])) := c2.trans (by
    refine X0.alen hexec hB0 rfl rfl (hb hbytes d2) ?_
    refine XS.isub X0.here hexec rfl (hb hbytes d3) rfl ?_
    refine bipushV X0.here hexec rfl 31 (hb hbytes d4) (by decide) ?_
    refine iushr X0.here hexec rfl (hb hbytes d6) rfl ?_
    refine i2b X0.here hexec rfl (hb hbytes d7) rfl ?_
    exact Steps.refl _)
  have e0 : lo8 (ushr (Int32.ofNat B.slots.size - Int32.ofNat B.slots.size) 31) = 0 := by rw [Int32.sub_self]; decide
  rw [e0] at c3
  exact ⟨s₁, some (.int 0), _, _, _, X0, rfl, rfl, rfl, (fun h => by cases h), ⟨rfl, hh0⟩, fun fs hl => c3.trans (X0.ireturnOut hexec hret rfl (Or.inr (Or.inr (Or.inl rfl))) (hb hbytes d8) hl)⟩
end CodL
/-- the String at a is Latin-1 over a new byte[] (the heap's one new cell): the low bytes of the len chars of A from o on; every cell but a is kept -/
def Got (a : Addr) (D : Cell) (fV fC : Field) (A : Cell) (o len : Nat) (r : Option Value) (s u : State) : Prop := r = none ∧ ∃ D' V : Cell, Blank "java/lang/String" a D' u ∧ Same D D' [fV.slot, fC.slot] ∧ D'.slots[fV.slot]? = some (.ref s.heap.size) ∧ D'.slots[fC.slot]? = some (.int 0) ∧ Arr .byte s.heap.size V u ∧ V.vm = .none ∧ u.vm.findClass "[B" = some V.cls ∧ V.slots.size = len ∧ (∀ j, j < len → V.slots[j]? = some (.int (lo8 (cv A (o + j))))) ∧ (∀ (y : Addr) (c : Cell), y ≠ a → s.heap[y]? = some c → u.heap[y]? = some c) ∧ u.heap.size = s.heap.size + 1
theorem Got.mv {a : Addr} {D A : Cell} {fV fC : Field} {o len : Nat} : ∀ r (U U' V V' : State), U'.heap = U.heap → V.vm.Alike V'.vm → V'.heap = V.heap → Got a D fV fC A o len r U V → Got a D fV fC A o len r U' V' :=
  fun r U U' V V' h1 hal h2 ⟨e0, D', X, a1, a2, a3, a4, a5, a6, a7, a8, a9, a10, a11⟩ => ⟨e0, D', X, a1.mv hal h2, a2, by rw [h1]; exact a3, a4, by rw [h1]; exact a5.mv hal h2, a6, by rw [hal.findClass]; exact a7, a8, a9, by rw [h1, h2]; exact a10, by rw [h1, h2]; exact a11⟩
namespace New4
def yN : MethodName := ⟨"java/lang/String", "<init>", "([CIILjava/lang/Void;)V"⟩
abbrev yB : ByteArray := jdk_42_method_149_code
theorem d0 : decode yB 0 = .ok (.aload_n 0, 1) := by decide +kernel
theorem d1 : decode yB 1 = .ok (.invokespecial 1, 3) := by decide +kernel
theorem d4 : decode yB 4 = .ok (.iload_n 3, 1) := by decide +kernel
theorem d5 : decode yB 5 = .ok (.ifCond (.ne) 22, 3) := by decide +kernel
theorem d27 : decode yB 27 = .ok (.getstatic 38, 3) := by decide +kernel
theorem d30 : decode yB 30 = .ok (.ifCond (.eq) 28, 3) := by decide +kernel
theorem d33 : decode yB 33 = .ok (.aload_n 1, 1) := by decide +kernel
theorem d34 : decode yB 34 = .ok (.iload_n 2, 1) := by decide +kernel
theorem d35 : decode yB 35 = .ok (.iload_n 3, 1) := by decide +kernel
theorem d36 : decode yB 36 = .ok (.invokestatic 177, 3) := by decide +kernel
theorem d39 : decode yB 39 = .ok (.astore 5, 2) := by decide +kernel
theorem d41 : decode yB 41 = .ok (.aload_n 0, 1) := by decide +kernel
theorem d42 : decode yB 42 = .ok (.aload 5, 2) := by decide +kernel
theorem d44 : decode yB 44 = .ok (.iload_n 3, 1) := by decide +kernel
theorem d45 : decode yB 45 = .ok (.invokestatic 47, 3) := by decide +kernel
theorem d48 : decode yB 48 = .ok (.putfield 15, 3) := by decide +kernel
theorem d51 : decode yB 51 = .ok (.aload_n 0, 1) := by decide +kernel
theorem d52 : decode yB 52 = .ok (.aload 5, 2) := by decide +kernel
theorem d54 : decode yB 54 = .ok (.putfield 9, 3) := by decide +kernel
theorem d57 : decode yB 57 = .ok (.return_, 1) := by decide +kernel
def site : List Cond := [.fieldLink "java/lang/String" 38 "java/lang/String" "COMPACT_STRINGS" "Z", Cmp3.tab, CodL.tab, .laysFinal "java/lang/String" "java/lang/String" "value" "[B", .fieldLink "java/lang/String" 9 "java/lang/String" "value" "[B", .laysFinal "java/lang/String" "java/lang/String" "coder" "B", .fieldLink "java/lang/String" 15 "java/lang/String" "coder" "B"] ++ objW "java/lang/String" 1 ++ staticW "java/lang/String" 177 Cmp3.yN ++ staticW "java/lang/String" 47 CodL.yN
def tab : Cond := tabOf yN yB 6 none site
def P (a : Addr) (D : Cell) (fV fC : Field) (b : Addr) (A : Cell) (z : Int32) (o len : Nat) (args : Array Value) (s : State) : Prop := args = #[.ref a, .ref b, .int (Int32.ofNat o), .int (Int32.ofNat len), .null] ∧ Blank "java/lang/String" a D s ∧ Found "java/lang/String" "value" "[B" fV s ∧ Found "java/lang/String" "coder" "B" fC s ∧ Ch b A s ∧ StaticIs s "java/lang/String" "COMPACT_STRINGS" "Z" (.int z) ∧ ¬ z = 0 ∧ 0 < len ∧ o + len ≤ A.slots.size ∧ len ≤ 536870912 ∧ ∀ i, i < len → ¬ 255 < cv A (o + i)
def E (a : Addr) (D : Cell) (fV fC : Field) (A : Cell) (o len : Nat) (r : Option Value) (s u : State) : Prop := Got a D fV fC A o len r s u
/-- len > 0, no char of the range above 255: a Latin-1 String of their low bytes -/
theorem law (l : Launch) (a : Addr) (D : Cell) (fV fC : Field) (b : Addr) (A : Cell) (z : Int32) (o len : Nat) : Law l yN 5 4 2 35 yB 6 none site (P a D fV fC b A z o len) (E a D fV fC A o len) [⟨a, fC.slot⟩, ⟨a, fV.slot⟩] 1 len := by
  refine Law.of_walk (plainFor_of_name (by decide +kernel)) (by decide +kernel) (by decide +kernel) (by decide) (fun _ _ h => by rw [h.1]; rfl) (fun _ U U' hal hh h => ⟨h.1, h.2.1.mv hal hh, h.2.2.1.al hal, h.2.2.2.1.al hal, h.2.2.2.2.1.mv hal hh, h.2.2.2.2.2.1.there hal hh, h.2.2.2.2.2.2⟩) (fun r U U' V V' h1 hal h2 h => Got.mv r U U' V V' h1 hal h2 h) ?_
  intro p e s m args below meth c s₁ X0 hexec hbytes hml hret hlk hnm hown hh0 W hP
  obtain ⟨rfl, hB, f1, f2, hA, s1, hz, l0, l1, l2, hp⟩ := hP
  have a31 := hA.1.2.2.2
  have c1 : Steps p.tables e below (s₁.setTop (entryFrame m #[.ref a, .ref b, .int (Int32.ofNat o), .int (Int32.ofNat len), .null] 6)) (s₁.setTop (mkF m 0 #[.val (.ref a), .val (.ref b), .val (.int (Int32.ofNat o)), .val (.int (Int32.ofNat len)), .val .null, .unset] [])) := entry rfl
  have c2 : Steps p.tables e below (s₁.setTop (entryFrame m #[.ref a, .ref b, .int (Int32.ofNat o), .int (Int32.ofNat len), .null] 6)) (s₁.setTop (mkF m 1 #[.val (.ref a), .val (.ref b), .val (.int (Int32.ofNat o)), .val (.int (Int32.ofNat len)), .val .null, .unset] [.ref a])) := c1.trans (by
    refine XS.aloadN X0.here hexec rfl (hb hbytes d0) rfl rfl ?_
    exact Steps.refl _)
  obtain ⟨T3, X3, q3, st3⟩ := X0.oinit hexec hown (wks W (objW "java/lang/String" 1)) (g := (mkF m 1 #[.val (.ref a), .val (.ref b), .val (.int (Int32.ofNat o)), .val (.int (Int32.ofNat len)), .val .null, .unset] [.ref a])) rfl (by rw [hml]; rfl) (rest := []) rfl (hb hbytes d1) (W := 0) (by show 2 * 0 + 0 ≤ _; decide) (Nat.le_of_ble_eq_true rfl) (Nat.le_of_ble_eq_true rfl)
  have hh3 := q3.trans hh0
  have c4 : Steps p.tables e below (s₁.setTop (entryFrame m #[.ref a, .ref b, .int (Int32.ofNat o), .int (Int32.ofNat len), .null] 6)) (T3.setTop (mkF m 27 #[.val (.ref a), .val (.ref b), .val (.int (Int32.ofNat o)), .val (.int (Int32.ofNat len)), .val .null, .unset] [])) := (c2.trans (st3 _ (Steps.refl _))).trans (by
    refine XS.iloadN X3.here hexec rfl (hb hbytes d4) rfl ?_
    refine XS.ifYes X3.here hexec rfl (pc0 := 5) rfl (hb hbytes d5) rfl (i0_ne_t (nz32 (by omega) l0)) (by decide) rfl ?_
    exact Steps.refl _)
  obtain ⟨T5, X5, q5, st5⟩ := X3.sget hexec hown (wk W (.fieldLink "java/lang/String" 38 "java/lang/String" "COMPACT_STRINGS" "Z")) s1 (fun _ _ h => by rw [hh3]; exact h) (g := (mkF m 27 #[.val (.ref a), .val (.ref b), .val (.int (Int32.ofNat o)), .val (.int (Int32.ofNat len)), .val .null, .unset] [])) rfl (hb hbytes d27)
  have hh5 := q5.trans hh3
  have c6 : Steps p.tables e below (s₁.setTop (entryFrame m #[.ref a, .ref b, .int (Int32.ofNat o), .int (Int32.ofNat len), .null] 6)) (T5.setTop (mkF m 30 #[.val (.ref a), .val (.ref b), .val (.int (Int32.ofNat o)), .val (.int (Int32.ofNat len)), .val .null, .unset] [.int z])) := c4.trans (st5 _ (Steps.refl _))
  have c7 : Steps p.tables e below (s₁.setTop (entryFrame m #[.ref a, .ref b, .int (Int32.ofNat o), .int (Int32.ofNat len), .null] 6)) (T5.setTop (mkF m 36 #[.val (.ref a), .val (.ref b), .val (.int (Int32.ofNat o)), .val (.int (Int32.ofNat len)), .val .null, .unset] [.int (Int32.ofNat len), .int (Int32.ofNat o), .ref b])) := c6.trans (by
    refine XS.ifNo X5.here hexec rfl (hb hbytes d30) rfl (i0_eq_f hz) ?_
    refine XS.aloadN X5.here hexec rfl (hb hbytes d33) rfl rfl ?_
    refine XS.iloadN X5.here hexec rfl (hb hbytes d34) rfl ?_
    refine XS.iloadN X5.here hexec rfl (hb hbytes d35) rfl ?_
    exact Steps.refl _)
  obtain ⟨v8, T8, X8, E8, g8⟩ := X5.callS hexec (Cmp3.law l b A o len) hown (wks W (staticW "java/lang/String" 177 Cmp3.yN)) (wk W Cmp3.tab) (W := 0) (Nat.le_of_ble_eq_true rfl) (Nat.le_of_ble_eq_true rfl) (Nat.le_refl _) (by show 0 + len ≤ len; omega) (g := (mkF m 36 #[.val (.ref a), .val (.ref b), .val (.int (Int32.ofNat o)), .val (.int (Int32.ofNat len)), .val .null, .unset] [.int (Int32.ofNat len), .int (Int32.ofNat o), .ref b])) rfl (by rw [hml]; rfl) c7 (argsL := [.ref b, .int (Int32.ofNat o), .int (Int32.ofNat len)]) (rest := []) rfl rfl (by show 2 * 0 + 0 ≤ _; decide) (hb hbytes d36) (⟨rfl, hA.mv X5.warmed.alike hh5, l1, l2, hp⟩)
  obtain ⟨e8, z8⟩ := E8
  obtain ⟨rfl, N, n1, n2, n3, n4, n5, n6⟩ := NewArr.mv _ T5 s _ _ hh5.symm (Vm.Alike.refl _) rfl e8
  rw [hh5] at z8
  have hB1 := hB.keep X8.warmed.alike (n6 _ _ hB.1)
  have hne : s.heap.size ≠ a := (Nat.ne_of_lt (Array.getElem?_eq_some_iff.mp hB.1).1).symm
  have c9 : Steps p.tables e below (s₁.setTop (entryFrame m #[.ref a, .ref b, .int (Int32.ofNat o), .int (Int32.ofNat len), .null] 6)) (T8.setTop (mkF m 39 #[.val (.ref a), .val (.ref b), .val (.int (Int32.ofNat o)), .val (.int (Int32.ofNat len)), .val .null, .unset] [.ref s.heap.size])) := g8
  have c10 : Steps p.tables e below (s₁.setTop (entryFrame m #[.ref a, .ref b, .int (Int32.ofNat o), .int (Int32.ofNat len), .null] 6)) (T8.setTop (mkF m 45 #[.val (.ref a), .val (.ref b), .val (.int (Int32.ofNat o)), .val (.int (Int32.ofNat len)), .val .null, .val (.ref s.heap.size)] [.int (Int32.ofNat N.slots.size), .ref s.heap.size, .ref a])) := by
    have hc : Steps p.tables e below (s₁.setTop (entryFrame m #[.ref a, .ref b, .int (Int32.ofNat o), .int (Int32.ofNat len), .null] 6)) (T8.setTop (mkF m 45 #[.val (.ref a), .val (.ref b), .val (.int (Int32.ofNat o)), .val (.int (Int32.ofNat len)), .val .null, .val (.ref s.heap.size)] [.int (Int32.ofNat len), .ref s.heap.size, .ref a])) := c9.trans (by
      refine XS.astore X8.here hexec rfl (hb hbytes d39) rfl rfl rfl ?_
      refine XS.aloadN X8.here hexec rfl (hb hbytes d41) rfl rfl ?_
      refine XS.aload X8.here hexec rfl (hb hbytes d42) rfl rfl ?_
      refine XS.iloadN X8.here hexec rfl (hb hbytes d44) rfl ?_
      exact Steps.refl _)
    rw [n4]; exact hc
  obtain ⟨v11, T11, X11, E11, g11⟩ := X8.callS hexec (CodL.law l s.heap.size N) hown (wks W (staticW "java/lang/String" 47 CodL.yN)) (wk W CodL.tab) (W := 1) (Nat.le_of_ble_eq_true rfl) (Nat.le_of_ble_eq_true rfl) (Nat.le_refl _) (by show 0 + len + 0 ≤ len; omega) (g := (mkF m 45 #[.val (.ref a), .val (.ref b), .val (.int (Int32.ofNat o)), .val (.int (Int32.ofNat len)), .val .null, .val (.ref s.heap.size)] [.int (Int32.ofNat N.slots.size), .ref s.heap.size, .ref a])) rfl (by rw [hml]; rfl) c10 (argsL := [.ref s.heap.size, .int (Int32.ofNat N.slots.size)]) (rest := [.ref a]) rfl rfl (by show 2 * 0 + (1 + 0) ≤ _; decide) (hb hbytes d45) (⟨rfl, n1⟩)
  obtain ⟨rfl, q11⟩ := E11
  have hB11 := hB1.mv (X8.warmed.alike.symm.trans X11.warmed.alike) q11
  have c12 : Steps p.tables e below (s₁.setTop (entryFrame m #[.ref a, .ref b, .int (Int32.ofNat o), .int (Int32.ofNat len), .null] 6)) (T11.setTop (mkF m 48 #[.val (.ref a), .val (.ref b), .val (.int (Int32.ofNat o)), .val (.int (Int32.ofNat len)), .val .null, .val (.ref s.heap.size)] [.int 0, .ref a])) := g11
  obtain ⟨T13, X13, p13, bl13, sl13, st13⟩ := X11.finit hexec hown (wk W (.fieldLink "java/lang/String" 15 "java/lang/String" "coder" "B")) (Or.inr ⟨_, (wk W (.laysFinal "java/lang/String" "java/lang/String" "coder" "B"))⟩) (Or.inl ⟨rfl, hnm⟩) f2 (Or.inl rfl) hB11 (t := .byte) (by decide +kernel) rfl (g := (mkF m 48 #[.val (.ref a), .val (.ref b), .val (.int (Int32.ofNat o)), .val (.int (Int32.ofNat len)), .val .null, .val (.ref s.heap.size)] [.int 0, .ref a])) rfl (rest := []) rfl (hb hbytes d48)
  have c14 : Steps p.tables e below (s₁.setTop (entryFrame m #[.ref a, .ref b, .int (Int32.ofNat o), .int (Int32.ofNat len), .null] 6)) (T13.setTop (mkF m 54 #[.val (.ref a), .val (.ref b), .val (.int (Int32.ofNat o)), .val (.int (Int32.ofNat len)), .val .null, .val (.ref s.heap.size)] [.ref s.heap.size, .ref a])) := (c12.trans (st13 _ (Steps.refl _))).trans (by
    refine XS.aloadN X13.here hexec rfl (hb hbytes d51) rfl rfl ?_
    refine XS.aload X13.here hexec rfl (hb hbytes d52) rfl rfl ?_
    exact Steps.refl _)
  obtain ⟨T15, X15, p15, bl15, sl15, st15⟩ := X13.finit hexec hown (wk W (.fieldLink "java/lang/String" 9 "java/lang/String" "value" "[B")) (Or.inr ⟨_, (wk W (.laysFinal "java/lang/String" "java/lang/String" "value" "[B"))⟩) (Or.inl ⟨rfl, hnm⟩) f1 (Or.inl rfl) bl13 (t := (.array .byte)) (by decide +kernel) rfl (g := (mkF m 54 #[.val (.ref a), .val (.ref b), .val (.int (Int32.ofNat o)), .val (.int (Int32.ofNat len)), .val .null, .val (.ref s.heap.size)] [.ref s.heap.size, .ref a])) rfl (rest := []) rfl (hb hbytes d54)
  have c16 : Steps p.tables e below (s₁.setTop (entryFrame m #[.ref a, .ref b, .int (Int32.ofNat o), .int (Int32.ofNat len), .null] 6)) (T15.setTop (mkF m 57 #[.val (.ref a), .val (.ref b), .val (.int (Int32.ofNat o)), .val (.int (Int32.ofNat len)), .val .null, .val (.ref s.heap.size)] [])) := c14.trans (st15 _ (Steps.refl _))
  have ap := apart (Or.inr ⟨_, (wk W (.laysFinal "java/lang/String" "java/lang/String" "value" "[B"))⟩) (Or.inr ⟨_, (wk W (.laysFinal "java/lang/String" "java/lang/String" "coder" "B"))⟩) f1 f2 (t₁ := .array .byte) (t₂ := .byte) (by decide +kernel) (by decide +kernel) (by decide)
  have al := X8.warmed.alike.symm.trans X15.warmed.alike
  have n7 : T11.heap[s.heap.size]? = some N := by rw [q11]; exact n1.1
  exact ⟨T15, none, _, _, _, X15, by simp, rfl, by omega, (fun _ => rfl), ⟨rfl, _, N, bl15, ((Same.refl D _).set _ (by simp)).set _ (by simp), sl15, (Cell.slots_setSlot_ne _ ap).trans sl13, n1.keep al (p15.other hne (p13.other hne n7)), n2, by rw [al.findClass]; exact n3, n4, n5, fun y c h1 h2 => p15.other h1 (p13.other h1 (by rw [q11]; exact n6 y c h2)), by rw [p15.2.2, p13.2.2, q11]; exact z8⟩, fun fs hl => c16.trans (X15.returnOut hexec hret (hb hbytes d57) hl)⟩
end New4
namespace New1
def yN : MethodName := ⟨"java/lang/String", "<init>", "([C)V"⟩
abbrev yB : ByteArray := jdk_42_method_3_code
theorem d0 : decode yB 0 = .ok (.aload_n 0, 1) := by decide +kernel
theorem d1 : decode yB 1 = .ok (.aload_n 1, 1) := by decide +kernel
theorem d2 : decode yB 2 = .ok (.iconst 0, 1) := by decide +kernel
theorem d3 : decode yB 3 = .ok (.aload_n 1, 1) := by decide +kernel
theorem d4 : decode yB 4 = .ok (.arraylength, 1) := by decide +kernel
theorem d5 : decode yB 5 = .ok (.aconst_null, 1) := by decide +kernel
theorem d6 : decode yB 6 = .ok (.invokespecial 27, 3) := by decide +kernel
theorem d9 : decode yB 9 = .ok (.return_, 1) := by decide +kernel
def site : List Cond := [New4.tab] ++ initW "java/lang/String" 27 New4.yN
def tab : Cond := tabOf yN yB 2 none site
def P (a : Addr) (D : Cell) (fV fC : Field) (b : Addr) (A : Cell) (z : Int32) (args : Array Value) (s : State) : Prop := args = #[.ref a, .ref b] ∧ Blank "java/lang/String" a D s ∧ Found "java/lang/String" "value" "[B" fV s ∧ Found "java/lang/String" "coder" "B" fC s ∧ Ch b A s ∧ StaticIs s "java/lang/String" "COMPACT_STRINGS" "Z" (.int z) ∧ ¬ z = 0 ∧ 0 < A.slots.size ∧ A.slots.size ≤ 536870912 ∧ ∀ i, i < A.slots.size → ¬ 255 < cv A i
def E (a : Addr) (D : Cell) (fV fC : Field) (A : Cell) (r : Option Value) (s u : State) : Prop := Got a D fV fC A 0 A.slots.size r s u
/-- new String(chars), not empty, no char above 255: a Latin-1 String of their low bytes -/
theorem law (l : Launch) (a : Addr) (D : Cell) (fV fC : Field) (b : Addr) (A : Cell) (z : Int32) : Law l yN 2 1 3 52 yB 2 none site (P a D fV fC b A z) (E a D fV fC A) [⟨a, fC.slot⟩, ⟨a, fV.slot⟩] 1 A.slots.size := by
  refine Law.of_walk (plainFor_of_name (by decide +kernel)) (by decide +kernel) (by decide +kernel) (by decide) (fun _ _ h => by rw [h.1]; rfl) (fun _ U U' hal hh h => ⟨h.1, h.2.1.mv hal hh, h.2.2.1.al hal, h.2.2.2.1.al hal, h.2.2.2.2.1.mv hal hh, h.2.2.2.2.2.1.there hal hh, h.2.2.2.2.2.2⟩) (fun r U U' V V' h1 hal h2 h => Got.mv r U U' V V' h1 hal h2 h) ?_
  intro p e s m args below meth c s₁ X0 hexec hbytes hml hret hlk hnm hown hh0 W hP
  obtain ⟨rfl, hB, f1, f2, hA, s1, hz, l0, l2, hp⟩ := hP
  have c1 : Steps p.tables e below (s₁.setTop (entryFrame m #[.ref a, .ref b] 2)) (s₁.setTop (mkF m 0 #[.val (.ref a), .val (.ref b)] [])) := entry rfl
  have c2 : Steps p.tables e below (s₁.setTop (entryFrame m #[.ref a, .ref b] 2)) (s₁.setTop (mkF m 6 #[.val (.ref a), .val (.ref b)] [.null, .int (Int32.ofNat A.slots.size), .int 0, .ref b, .ref a])) := c1.trans (by
    refine XS.aloadN X0.here hexec rfl (hb hbytes d0) rfl rfl ?_
    refine XS.aloadN X0.here hexec rfl (hb hbytes d1) rfl rfl ?_
    refine iconstV X0.here hexec rfl 0 (hb hbytes d2) (by decide) ?_
    refine XS.aloadN X0.here hexec rfl (hb hbytes d3) rfl rfl ?_
    refine X0.alen hexec (hA.1.mv X0.warmed.alike hh0) rfl rfl (hb hbytes d4) ?_
    refine XS.aconstNull X0.here hexec rfl (hb hbytes d5) ?_
    exact Steps.refl _)
  obtain ⟨v3, T3, X3, E3, g3⟩ := X0.callN hexec (New4.law l a D fV fC b A z 0 A.slots.size) rfl hown (wks W (initW "java/lang/String" 27 New4.yN)) (W New4.tab (by simp only [site, List.mem_cons, List.mem_append, true_or, or_true])) (W := 0) (Nat.le_of_ble_eq_true rfl) (Nat.le_of_ble_eq_true rfl) (Nat.le_refl _) (by show 0 + A.slots.size ≤ A.slots.size; omega) (g := (mkF m 6 #[.val (.ref a), .val (.ref b)] [.null, .int (Int32.ofNat A.slots.size), .int (Int32.ofNat 0), .ref b, .ref a])) rfl (by rw [hml]; rfl) c2 (argsL := [.ref b, .int (Int32.ofNat 0), .int (Int32.ofNat A.slots.size), .null]) (rest := []) rfl rfl (by show 2 * 0 + 0 ≤ _; decide) (hb hbytes d6) (⟨rfl, hB.mv X0.warmed.alike hh0, f1.al X0.warmed.alike, f2.al X0.warmed.alike, hA.mv X0.warmed.alike hh0, s1.there X0.warmed.alike hh0, hz, l0, by omega, l2, fun i hi => by rw [Nat.zero_add]; exact hp i hi⟩)
  have e0 := Got.mv _ s₁ s _ _ hh0.symm (Vm.Alike.refl _) rfl E3
  obtain rfl := e0.1
  have c4 : Steps p.tables e below (s₁.setTop (entryFrame m #[.ref a, .ref b] 2)) (T3.setTop (mkF m 9 #[.val (.ref a), .val (.ref b)] [])) := g3
  exact ⟨T3, none, _, _, _, X3, by simp, rfl, by omega, (fun _ => rfl), e0, fun fs hl => c4.trans (X3.returnOut hexec hret (hb hbytes d9) hl)⟩
theorem pays {l : Launch} {R : Room} {p : Program} {e : Env} {below : List Frame} {s : State} {sargs : Array Value} {len W : Nat} (a : Addr) (D : Cell) (fV fC : Field) (b : Addr) (A : Cell) (z : Int32) (htab : tab.before sargs s = true) (hfr : 4 ≤ R.frames) (hlo : W + 65 ≤ R.locals) :
    Back l R p e below s sargs yN len W (fun A₁ a₁ => A₁.cells + 1 ≤ R.cells ∧ A₁.slots + A.slots.size ≤ R.slots ∧ P a D fV fC b A z a₁ A₁.U) (fun A₁ _ v₁ B₁ => E a D fV fC A v₁ A₁.U B₁.U ∧ B₁.locs = A₁.locs ++ [⟨a, fC.slot⟩, ⟨a, fV.slot⟩] ∧ B₁.cells = A₁.cells + 1 ∧ B₁.slots = A₁.slots + A.slots.size) :=
  (law l a D fV fC b A z).pays htab hfr (by omega)
end New1
end StrChars
namespace StrChars.Road
open Jvm Sem ClassFile Op Lib Jvm.Stand Jvm.Free Jvm.Free.XT
open Jvm.Lib.Cold (StaticIs)
abbrev ST : String := "java/lang/String"
/-- every table word that New1's law asks, flat -/
abbrev words : List Jvm.Cond := [.code New1.yN New1.yB 2 none, .initialized ST, .methodLink ST 27 New4.yN, .instanceMethod New4.yN,
  .code New4.yN New4.yB 6 none, .fieldLink ST 38 ST "COMPACT_STRINGS" "Z", .laysFinal ST ST "value" "[B", .fieldLink ST 9 ST "value" "[B", .laysFinal ST ST "coder" "B", .fieldLink ST 15 ST "coder" "B",
  .methodLink ST 1 Lib.objectInit, .instanceMethod Lib.objectInit, .code Lib.objectInit ⟨#[0xb1]⟩ 1 none, .methodLink ST 177 Cmp3.yN, .static Cmp3.yN, .methodLink ST 47 CodL.yN, .static CodL.yN,
  .code Cmp3.yN Cmp3.yB 6 (some (.array .byte)), .initialized U16, .arrayClass .byte, .methodLink U16 115 Cmp5.yN, .static Cmp5.yN, .code Cmp5.yN Cmp5.yB 7 (some .int), .code CodL.yN CodL.yB 2 (some .byte)]
theorem tab_of {a : Array Value} {s : State} (h : ∀ w ∈ words, w.before a s = true) : New1.tab.before a s = true := by
  have h5 : Cmp5.tab.before a s = true := unparts (wk h (.code Cmp5.yN Cmp5.yB 7 (some .int))) (wks h (.initialized Cmp5.yN.cls :: Cmp5.site))
  have hc : CodL.tab.before a s = true := unparts (wk h (.code CodL.yN CodL.yB 2 (some .byte))) (wks h (.initialized CodL.yN.cls :: CodL.site))
  have q5 : ∀ w ∈ Cmp5.tab :: words, w.before a s = true := fun w hw => (List.mem_cons.mp hw).elim (fun e => e ▸ h5) (h w)
  have h3 : Cmp3.tab.before a s = true := unparts (wk q5 (.code Cmp3.yN Cmp3.yB 6 (some (.array .byte)))) (wks q5 (.initialized Cmp3.yN.cls :: Cmp3.site))
  have q3 : ∀ w ∈ Cmp3.tab :: CodL.tab :: words, w.before a s = true := fun w hw => (List.mem_cons.mp hw).elim (fun e => e ▸ h3) fun hw => (List.mem_cons.mp hw).elim (fun e => e ▸ hc) (h w)
  have h4 : New4.tab.before a s = true := unparts (wk q3 (.code New4.yN New4.yB 6 none)) (wks q3 (.initialized New4.yN.cls :: New4.site))
  have q4 : ∀ w ∈ New4.tab :: words, w.before a s = true := fun w hw => (List.mem_cons.mp hw).elim (fun e => e ▸ h4) (h w)
  exact unparts (wk q4 (.code New1.yN New1.yB 2 none)) (wks q4 (.initialized New1.yN.cls :: New1.site))
/-- the words ride from the start Z to the walk's own state -/
theorem moved {Z s : State} {a0 args : Array Value} (hZ : Z.Warmed39 s.vm) (hw : ∀ d ∈ words, d.before a0 Z = true) : ∀ d ∈ words, d.before args s = true := fun d hd => by
  have q := hw d hd
  have t : ∀ d ∈ words, d = .arrayClass .byte ∨ (d.onTables && d.keepsFace) = true := by decide +kernel
  rcases t d hd with rfl | t
  · exact RoadKit.mvA hZ q
  · exact RoadKit.mv hZ q t
/-- WHAT COMES BACK, over the tables of the start Z: h the heap at the call, h' behind it -/
def Q (Z : State) (x : Addr) (A : Cell) (h : Heap) (v : Option Value) (h' : Heap) (L : List Loc) : Prop := v = none ∧ (∀ y ∈ L, y.base = x) ∧ RoadKit.Keep h h' [x] ∧ h'.size = h.size + 1 ∧ RoadKit.Exa Z h' x ST ∧ RoadKit.Fld Z h' x ST "value" "[B" (.ref h.size) ∧ RoadKit.Fld Z h' x ST "coder" "B" (.int 0) ∧
  (∃ V : Cell, RoadKit.Arr Z h' h.size V .byte ∧ V.vm = .none ∧ Z.vm.findClass "[B" = some V.cls ∧ V.slots.size = A.slots.size ∧ ∀ j, j < A.slots.size → V.slots[j]? = some (.int (lo8 (cv A j)))) ∧
  ∀ (O n d : String) (w : Value), RoadKit.Fld Z h x O n d w → RoadKit.slotOf Z O n d ≠ RoadKit.slotOf Z ST "value" "[B" → RoadKit.slotOf Z O n d ≠ RoadKit.slotOf Z ST "coder" "B" → RoadKit.Fld Z h' x O n d w
/-- **new String(chars) AT A CALL, IN THE ROAD'S FORM**: for specialBack behind newO: x the fresh String, b the char[] with the cell A -/
theorem back {p : Program} {l : Launch} {e : Env} {R : Room} {s : State} {args : Array Value} {below : List Frame} {len W : Nat} {Z : State} {a0 : Array Value} {h : Heap} (hZ : Z.Warmed39 s.vm) (hw : ∀ d ∈ words, d.before a0 Z = true) {kI : Nat} (wi : (Jvm.Cond.instantiable ST kI).before a0 Z = true)
    {x b : Addr} {A : Cell} {z : Int32} {v0 c0 : Value} (E : RoadKit.Exa Z h x ST) (V : RoadKit.Fld Z h x ST "value" "[B" v0) (C : RoadKit.Fld Z h x ST "coder" "B" c0) (K : RoadKit.Arr Z h b A .char) (hty : Typed .char A) (S : RoadKit.Sta Z h ST "COMPACT_STRINGS" "Z" (.int z)) (hz : ¬ z = 0)
    (l0 : 0 < A.slots.size) (l2 : A.slots.size ≤ 536870912) (hp : ∀ i, i < A.slots.size → ¬ 255 < cv A i) (hfr : 4 ≤ R.frames) (hlo : W + 65 ≤ R.locals) :
    Back l R p e below s args New1.yN len W (fun P a => a = #[.ref x, .ref b] ∧ P.U.heap = h ∧ P.cells + 1 ≤ R.cells ∧ P.slots + A.slots.size ≤ R.slots)
      (fun P _ v B => ∃ L, Q Z x A h v B.U.heap L ∧ B.locs = P.locs ++ L ∧ B.cells = P.cells + 1 ∧ B.slots = P.slots + A.slots.size) := by
  intro m meth c P g ig mk a X hg hsize hdg hW hn hp'
  obtain ⟨rfl, rfl, r1, r2⟩ := hp'
  have al : Z.vm.Alike P.U.vm := hZ.alike.trans X.warmed.alike
  obtain ⟨D, cfV, kV, iV, fV, hD, gV, stV, knV, obV, asV, slV⟩ := id V
  obtain ⟨D', cfC, kC, iC, fC, hD', gC, stC, -, -, asC, slC⟩ := id C
  cases hD.symm.trans hD'
  obtain ⟨D2, kD, e1, e2, e3, e4, e5⟩ := id E
  cases hD.symm.trans e1
  obtain ⟨c2, k2, i1, i2, i3, -⟩ := Cond.instantiable_spec wi
  cases e2.symm.trans i1
  cases e3.symm.trans i2
  obtain ⟨kU, u1, u2⟩ := al.2.2 _ _ e3
  have hB : Blank ST x D P.U := ⟨hD, ⟨knV, fun q hq => by rw [hq] at obV; cases obV⟩, by rw [al.findClass]; exact e2, kU, u1, by rw [u2]; exact i3, by rw [u2]; exact e5 i3⟩
  have F1 : Found ST "value" "[B" fV P.U := ⟨SBG.found_only al ⟨cfV, kV, iV, gV⟩, stV⟩
  have F2 : Found ST "coder" "B" fC P.U := ⟨SBG.found_only al ⟨cfC, kC, iC, gC⟩, stC⟩
  have hA : Ch b A P.U := ⟨⟨K.1, State.isArrayOf_alike al K.2.1, K.2.2, by omega⟩, hty⟩
  have hS : StaticIs P.U ST "COMPACT_STRINGS" "Z" (.int z) := by
    obtain ⟨cfS, iS, kS, fS, st, cS, t1, t2, t3, t4, t5, t6, t7⟩ := S
    exact StaticIs.there (s := { Z with heap := P.U.heap }) ⟨cfS, iS, kS, fS, st, cS, t1, t2, t3, t4, t5, (fun q => by rw [q] at t6; cases t6), t7⟩ al rfl
  obtain ⟨v, B, X', ⟨⟨hv, E', V', q1, q2, q3, q4, q5, q6, q7, q8, q9, q10, q11⟩, hl, hc, hs⟩, st⟩ := New1.pays x D fV fC b A z (tab_of (moved hZ hw)) hfr hlo m meth c P g ig mk _ X hg hsize hdg hW hn ⟨r1, r2, rfl, hB, F1, F2, hA, hS, hz, l0, l2, hp⟩
  have al' : Z.vm.Alike B.U.vm := hZ.alike.trans X'.warmed.alike
  have hsz : E'.slots.size = D.slots.size := by
    obtain ⟨-, -, -, kB, w1, w2, w3⟩ := q1
    obtain ⟨kB', y1, y2⟩ := al'.2.2 _ _ e3
    rw [q2.2.1] at w1
    cases w1.symm.trans y1
    rw [w3, e5 i3, y2]
  refine ⟨v, B, X', ⟨_, ⟨hv, ?_, ⟨by omega, fun y cy hy hn' => q10 y cy (by simpa using hn') hy, fun y cy hy => ?_⟩, q11, ⟨E', _, q1.1, by rw [q2.2.1]; exact e2, by rw [q2.2.1]; exact e3, by rw [q2.1]; exact obV, fun _ => by rw [hsz]; exact e5 i3⟩,
    ⟨E', cfV, kV, iV, fV, q1.1, gV, stV, by rw [q2.1]; exact knV, by rw [q2.1]; exact obV, by rw [q2.2.1]; exact asV, q3⟩, ⟨E', cfC, kC, iC, fC, q1.1, gC, stC, by rw [q2.1]; exact knV, by rw [q2.1]; exact obV, by rw [q2.2.1]; exact asC, q4⟩,
    ⟨V', ⟨q5.1, State.isArrayOf_alike al'.symm q5.2.1, q5.2.2.1⟩, q6, by rw [← al'.findClass]; exact q7, q8, fun j hj => by have := q9 j hj; rwa [Nat.zero_add] at this⟩, fun O n d w F n1 n2 => ?_⟩, hl, hc, hs⟩, st⟩
  · intro y hy
    simp only [List.mem_cons, List.not_mem_nil, or_false] at hy
    rcases hy with rfl | rfl <;> rfl
  · by_cases q : y = x
    · subst q
      cases hD.symm.trans hy
      exact ⟨E', q1.1, q2.2.1, q2.1, hsz⟩
    · exact ⟨cy, q10 y cy q hy, rfl, rfl, rfl⟩
  · obtain ⟨D3, cf, k, i, f, g1, g2, g3, g4, g5, g6, g7⟩ := F
    cases hD.symm.trans g1
    simp only [RoadKit.slotOf, g2, gV, gC, Option.map_some, Option.getD_some] at n1 n2
    exact ⟨E', cf, k, i, f, q1.1, g2, g3, by rw [q2.1]; exact g4, by rw [q2.1]; exact g5, by rw [q2.2.1]; exact g6, by rw [q2.2.2 f.slot (by simp [n1, n2])]; exact g7⟩
end StrChars.Road
namespace StrChars.Road
open Jvm Sem ClassFile Op Lib Jvm.Stand Jvm.Free Jvm.Free.XT
/-- WHAT COMES BACK, the byte[] as a list of values -/
def QA (Z : State) (x : Addr) (zn : Int32) (cs : List Int32) (h : Heap) (v : Option Value) (h' : Heap) (L : List Loc) : Prop := v = none ∧ (∀ y ∈ L, y.base = x) ∧ RoadKit.Keep h h' [x] ∧ h'.size = h.size + 1 ∧ RoadKit.Exa Z h' x ST ∧ RoadKit.Fld Z h' x ST "value" "[B" (.ref h.size) ∧ RoadKit.Fld Z h' x ST "coder" "B" (.int 0) ∧
  (∃ kb, Z.vm.findClass "[B" = some kb ∧ RoadKit.Arv Z h' h.size kb .byte zn (cs.map fun c => .int (lo8 c)) (.int 0)) ∧
  ∀ (O n d : String) (w : Value), RoadKit.Fld Z h x O n d w → RoadKit.slotOf Z O n d ≠ RoadKit.slotOf Z ST "value" "[B" → RoadKit.slotOf Z O n d ≠ RoadKit.slotOf Z ST "coder" "B" → RoadKit.Fld Z h' x O n d w
/-- **new String(chars) AT A CALL, THE ARRAYS AS LISTS**: the char[] at b holds cs, not empty, no char above 255 -/
theorem backArv {p : Program} {l : Launch} {e : Env} {R : Room} {s : State} {args : Array Value} {below : List Frame} {len W : Nat} {Z : State} {a0 : Array Value} {h : Heap} (hZ : Z.Warmed39 s.vm) (hw : ∀ d ∈ words, d.before a0 Z = true) {kI : Nat} (wi : (Jvm.Cond.instantiable ST kI).before a0 Z = true)
    {x b : Addr} {k : ClassId} {zn z : Int32} {cs : List Int32} {dv v0 c0 : Value} (E : RoadKit.Exa Z h x ST) (V : RoadKit.Fld Z h x ST "value" "[B" v0) (C : RoadKit.Fld Z h x ST "coder" "B" c0) (K : RoadKit.Arv Z h b k .char zn (cs.map Value.int) dv) (S : RoadKit.Sta Z h ST "COMPACT_STRINGS" "Z" (.int z)) (hz : ¬ z = 0)
    (hlen : zn.toNatClampNeg = cs.length) (h0 : 0 < cs.length) (hbig : cs.length ≤ 536870912) (hall : ∀ c ∈ cs, ¬ 255 < c) (hfr : 4 ≤ R.frames) (hlo : W + 65 ≤ R.locals) :
    Back l R p e below s args New1.yN len W (fun P a => a = #[.ref x, .ref b] ∧ P.U.heap = h ∧ P.cells + 1 ≤ R.cells ∧ P.slots + cs.length ≤ R.slots)
      (fun P _ v B => ∃ L, QA Z x zn cs h v B.U.heap L ∧ B.locs = P.locs ++ L ∧ B.cells = P.cells + 1 ∧ B.slots = P.slots + cs.length) := by
  obtain ⟨A, K1, K2, K3, K4, K5, K6⟩ := K
  have e : A.slots.size = cs.length := K3.trans hlen
  have hat : ∀ (i : Nat) (hi : i < cs.length), A.slots[i]? = some (.int cs[i]) := fun i hi => by rw [K5 i (by omega)]; simp [List.getD_eq_getElem?_getD, hi]
  have hcv : ∀ (i : Nat) (hi : i < cs.length), cv A i = cs[i] := fun i hi => by unfold cv; rw [hat i hi]
  have hty : Typed .char A := fun i v hv => by
    have hi : i < A.slots.size := (Array.getElem?_eq_some_iff.mp hv).1
    have q := K5 i hi
    rw [hv] at q
    rw [Option.some.inj q]
    exact K6 i hi
  refine Back.mono (back hZ hw wi E V C K1 hty S hz (by omega) (by omega) (fun i hi => by rw [hcv i (by omega)]; exact hall _ (List.getElem_mem _)) hfr hlo) (fun P a hp => ⟨hp.1, hp.2.1, hp.2.2.1, by rw [e]; exact hp.2.2.2⟩) (fun P a v B hp hq => ?_)
  obtain ⟨L, ⟨q1, q2, q3, q4, q5, q6, q7, ⟨V', v1, v2, v3, v4, v5⟩, q9⟩, hl, hc, hs⟩ := hq
  refine ⟨L, ⟨q1, q2, q3, q4, q5, q6, q7, ⟨V'.cls, v3, V', v1, rfl, by rw [v4, e, hlen], K4, fun i hi => ?_, fun i hi => ?_⟩, q9⟩, hl, hc, by rw [hs, e]⟩
  · have hi' : i < cs.length := by omega
    rw [v5 i (by omega), hcv i hi']; simp [List.getD_eq_getElem?_getD, hi']
  · have hi' : i < cs.length := by omega
    simp only [List.getD_eq_getElem?_getD, List.getElem?_map, List.getElem?_eq_getElem hi', Option.map_some, Option.getD_some]
    exact fits_lo8 _
end StrChars.Road
namespace StrChars.Road
open Jvm Sem ClassFile Op Lib Jvm.Stand Jvm.Free Jvm.Free.XT
/-- WHAT COMES BACK, in the writer's own shape -/
def QV (Z : State) (x : Addr) (N : Int32) (bs : List Int32) (h : Heap) (n0 : Nat) (v : Option Value) (h' : Heap) (L : List Loc) : Prop := v = none ∧ RoadKit.Fr n0 L ∧ RoadKit.Keep h h' [x] ∧ RoadKit.Exa Z h' x ST ∧ RoadKit.Fld Z h' x ST "coder" "B" (.int 0) ∧
  ∃ (t : Addr) (kb : ClassId), n0 ≤ t ∧ h.size ≤ t ∧ ¬ t = x ∧ RoadKit.Fld Z h' x ST "value" "[B" (.ref t) ∧ RoadKit.Arv Z h' t kb .byte N (bs.map Value.int) (.int 0)
/-- **new String(chars) AT A CALL, FOR THE WRITER**: a char[] of n known ints, each 0 to 255 -/
theorem backV {p : Program} {l : Launch} {e : Env} {R : Room} {s : State} {args : Array Value} {below : List Frame} {len W : Nat} {Z : State} {a0 : Array Value} {h : Heap} (hZ : Z.Warmed39 s.vm) (hw : ∀ d ∈ words, d.before a0 Z = true) {kI : Nat} (wi : (Jvm.Cond.instantiable ST kI).before a0 Z = true)
    {x b : Addr} {kC : ClassId} {cs bs : List Int32} {d v0 c0 : Value} {z N : Int32} {n n0 : Nat} (hx0 : n0 ≤ x) (hh0 : n0 ≤ h.size) (E : RoadKit.Exa Z h x ST) (V : RoadKit.Fld Z h x ST "value" "[B" v0) (C : RoadKit.Fld Z h x ST "coder" "B" c0) (K : RoadKit.Arv Z h b kC .char N (cs.map Value.int) d) (S : RoadKit.Sta Z h ST "COMPACT_STRINGS" "Z" (.int z)) (hz : ¬ z = 0)
    (hn : cs.length = n) (hN : N = Int32.ofNat n) (l0 : 0 < n) (l2 : n ≤ 4000) (hp : ∀ c ∈ cs, ¬ c < 0 ∧ ¬ (255 : Int32) < c) (hb : bs = cs.map (fun c => c.toInt8.toInt32)) (hfr : 4 ≤ R.frames) (hlo : W + 65 ≤ R.locals) :
    Back l R p e below s args (⟨"java/lang/String", "<init>", "([C)V"⟩ : MethodName) len W (fun P a => a = #[.ref x, .ref b] ∧ P.U.heap = h ∧ P.cells + 1 ≤ R.cells ∧ P.slots + n ≤ R.slots)
      (fun P _ v B => ∃ L, QV Z x N bs h n0 v B.U.heap L ∧ B.locs = P.locs ++ L ∧ B.cells = P.cells + 1 ∧ B.slots = P.slots + n) := by
  subst hn hN hb
  refine Back.mono (backArv hZ hw wi E V C K S hz (n32 (by omega)) l0 (by omega) (fun c hc => (hp c hc).2) hfr hlo) (fun P a hp => hp) (fun P a v B hp hq => ?_)
  obtain ⟨L, ⟨q1, q2, q3, q4, q5, q6, q7, ⟨kb, v1, v2⟩, q9⟩, hl, hc, hs⟩ := hq
  exact ⟨L, ⟨q1, fun y hy => by rw [q2 y hy]; exact hx0, q3, q5, q7, h.size, kb, hh0, Nat.le_refl _, Nat.ne_of_gt E.lt, q6, by rw [List.map_map]; exact v2⟩, hl, hc, hs⟩
end StrChars.Road
namespace StrChars
open Jvm Sem ClassFile Op Lib Jvm.Stand Jvm.Free.XT Jvm.Free.ALB Jvm.Free.JM Jvm.Free
open Jvm.Lib.Cold (StaticIs)
def hi8 (x : Int32) : Int32 := lo8 (x >>> ((8 : Int32) &&& 31))
theorem shr0 (c : Int32) : c >>> ((0 : Int32) &&& 31) = c := by
  have e : ((0 : Int32) &&& 31) = 0 := by decide
  rw [e]
  apply Int32.toBitVec_inj.mp
  rw [Int32.toBitVec_shiftRight]
  have e1 : ((0 : Int32).toBitVec.smod 32) = 0#32 := by decide
  rw [e1, BitVec.sshiftRight_eq']
  exact BitVec.sshiftRight_zero
end StrChars
namespace StrChars
open Jvm Sem ClassFile Op Lib Jvm.Stand Jvm.Free.XT Jvm.Free.ALB Jvm.Free.JM Jvm.Free
open Jvm.Lib.Cold (StaticIs)
theorem shr1 {n : Nat} (h : 2 * n < 2 ^ 31) : Int32.ofNat (2 * n) >>> ((1 : Int32) &&& 31) = Int32.ofNat n := by
  have e : ((1 : Int32) &&& 31) = 1 := by decide
  rw [e]
  apply Int32.toBitVec_inj.mp
  rw [Int32.toBitVec_shiftRight]
  have e1 : ((1 : Int32).toBitVec.smod 32) = 1#32 := by decide
  have hm : (BitVec.ofNat 32 (2 * n)).toNat = 2 * n := by rw [BitVec.toNat_ofNat, Nat.mod_eq_of_lt (by omega)]
  rw [e1, BitVec.sshiftRight_eq']
  apply BitVec.eq_of_toNat_eq
  show ((BitVec.ofNat 32 (2 * n)).sshiftRight 1).toNat = (BitVec.ofNat 32 n).toNat
  rw [BitVec.toNat_sshiftRight_of_msb_false (by rw [BitVec.msb_eq_false_iff_two_mul_lt, hm]; omega), hm, BitVec.toNat_ofNat, Nat.shiftRight_eq_div_pow]
  omega
/-- the array's cell V codes the n chars f 0 .. f (n - 1) by the coder cd, as the JDK does: coder 1 just where some char is above 255 -/
def Cod (cd : Int32) (n : Nat) (f : Nat → Int32) (V : Cell) : Prop := (cd = 0 ∧ V.slots.size = n ∧ ∀ j, j < n → V.slots[j]? = some (.int (lo8 (f j))) ∧ ¬ 255 < f j) ∨ (cd = 1 ∧ V.slots.size = 2 * n ∧ (∀ j, j < n → V.slots[2 * j]? = some (.int (lo8 (f j))) ∧ V.slots[2 * j + 1]? = some (.int (hi8 (f j)))) ∧ ∃ j, j < n ∧ 255 < f j)
theorem Cod.cd {cd : Int32} {n : Nat} {f : Nat → Int32} {V : Cell} (h : Cod cd n f V) : cd = 0 ∨ cd = 1 := h.imp (fun q => q.1) fun q => q.1
theorem Cod.len {cd : Int32} {n : Nat} {f : Nat → Int32} {V : Cell} (h : Cod cd n f V) (hs : V.slots.size < 2 ^ 31) : Int32.ofNat V.slots.size >>> (cd &&& 31) = Int32.ofNat n := by
  rcases h with ⟨rfl, h, -⟩ | ⟨rfl, h, -⟩
  · rw [shr0, h]
  · rw [h, shr1 (by omega)]
/-- **x is a String of the n chars f 0 .. f (n - 1)**, Latin-1 or UTF-16; its array at t has the cell V -/
def Txt (x t : Addr) (V : Cell) (cd : Int32) (n : Nat) (f : Nat → Int32) (U : State) : Prop := Exact "java/lang/String" x U ∧ Has x "java/lang/String" "value" "[B" (.ref t) U ∧ Has x "java/lang/String" "coder" "B" (.int cd) U ∧ XT.Arr .byte t V U ∧ Cod cd n f V ∧ ∀ j, j < n → ¬ f j < 0 ∧ ¬ 65535 < f j
theorem Txt.mv {x t : Addr} {V : Cell} {cd : Int32} {n : Nat} {f : Nat → Int32} {U U' : State} (h : Txt x t V cd n f U) (hal : U.vm.Alike U'.vm) (hh : U'.heap = U.heap) : Txt x t V cd n f U' := ⟨h.1.mv hal hh, h.2.1.mv hal hh, h.2.2.1.mv hal hh, h.2.2.2.1.mv hal hh, h.2.2.2.2⟩
namespace Cdr
def yN : MethodName := ⟨"java/lang/String", "coder", "()B"⟩
abbrev yB : ByteArray := jdk_42_method_152_code
theorem d0 : decode yB 0 = .ok (.getstatic 38, 3) := by decide +kernel
theorem d3 : decode yB 3 = .ok (.ifCond (.eq) 10, 3) := by decide +kernel
theorem d6 : decode yB 6 = .ok (.aload_n 0, 1) := by decide +kernel
theorem d7 : decode yB 7 = .ok (.getfield 15, 3) := by decide +kernel
theorem d10 : decode yB 10 = .ok (.goto 4, 3) := by decide +kernel
theorem d14 : decode yB 14 = .ok (.ireturn, 1) := by decide +kernel
def site : List Cond := [.fieldLink "java/lang/String" 38 "java/lang/String" "COMPACT_STRINGS" "Z", .fieldLink "java/lang/String" 15 "java/lang/String" "coder" "B"]
def tab : Cond := tabOf yN yB 1 (some .byte) site
def P (x : Addr) (cd z : Int32) (args : Array Value) (s : State) : Prop := args = #[.ref x] ∧ Has x "java/lang/String" "coder" "B" (.int cd) s ∧ (cd = 0 ∨ cd = 1) ∧ StaticIs s "java/lang/String" "COMPACT_STRINGS" "Z" (.int z) ∧ ¬ z = 0
def E (cd : Int32) (r : Option Value) (s u : State) : Prop := XT.PureE (some (.int cd)) r s u
theorem law (l : Launch) (x : Addr) (cd z : Int32) : Law l yN 1 0 0 0 yB 1 (some .byte) site (P x cd z) (E cd) [] 0 0 := by
  refine Law.of_walk (plainFor_of_name (by decide +kernel)) (by decide +kernel) (by decide +kernel) (by decide) (fun _ _ h => by rw [h.1]; rfl) (fun _ U U' hal hh h => ⟨h.1, h.2.1.mv hal hh, h.2.2.1, h.2.2.2.1.there hal hh, h.2.2.2.2⟩) (fun r U U' V V' h1 hal h2 h => XT.PureE.mv r U U' V V' h1 hal h2 h) ?_
  intro p e s m args below meth c s₁ X0 hexec hbytes hml hret hlk hnm hown hh0 W hP
  obtain ⟨rfl, hx, hc, s1, hz⟩ := hP
  have c1 : Steps p.tables e below (s₁.setTop (entryFrame m #[.ref x] 1)) (s₁.setTop (mkF m 0 #[.val (.ref x)] [])) := entry rfl
  obtain ⟨T2, X2, q2, st2⟩ := X0.sget hexec hown (wk W (.fieldLink "java/lang/String" 38 "java/lang/String" "COMPACT_STRINGS" "Z")) s1 (fun _ _ h => by rw [hh0]; exact h) (g := (mkF m 0 #[.val (.ref x)] [])) rfl (hb hbytes d0)
  have hh2 := q2.trans hh0
  have c3 : Steps p.tables e below (s₁.setTop (entryFrame m #[.ref x] 1)) (T2.setTop (mkF m 7 #[.val (.ref x)] [.ref x])) := (c1.trans (st2 _ (Steps.refl _))).trans (by
    refine XS.ifNo X2.here hexec rfl (hb hbytes d3) rfl (i0_eq_f hz) ?_
    refine XS.aloadN X2.here hexec rfl (hb hbytes d6) rfl rfl ?_
    exact Steps.refl _)
  obtain ⟨T4, X4, q4, st4⟩ := X2.hget hexec hown (wk W (.fieldLink "java/lang/String" 15 "java/lang/String" "coder" "B")) (hx.mv X2.warmed.alike hh2) (g := (mkF m 7 #[.val (.ref x)] [.ref x])) rfl (rest := []) rfl (hb hbytes d7)
  have c5 : Steps p.tables e below (s₁.setTop (entryFrame m #[.ref x] 1)) (T4.setTop (mkF m 14 #[.val (.ref x)] [.int cd])) := (c3.trans (st4 _ (Steps.refl _))).trans (by
    refine XS.goto X4.here hexec rfl (pc0 := 10) rfl (hb hbytes d10) (by decide) rfl ?_
    exact Steps.refl _)
  exact ⟨T4, some (.int cd), _, _, _, X4, rfl, rfl, rfl, (fun h => by cases h), ⟨rfl, q4.trans hh2⟩, fun fs hl => c5.trans (X4.ireturnOut hexec hret (by rcases hc with rfl | rfl <;> rfl) (Or.inr (Or.inr (Or.inl rfl))) (hb hbytes d14) hl)⟩
end Cdr
namespace Len
def yN : MethodName := ⟨"java/lang/String", "length", "()I"⟩
abbrev yB : ByteArray := jdk_42_method_54_code
theorem d0 : decode yB 0 = .ok (.aload_n 0, 1) := by decide +kernel
theorem d1 : decode yB 1 = .ok (.getfield 9, 3) := by decide +kernel
theorem d4 : decode yB 4 = .ok (.arraylength, 1) := by decide +kernel
theorem d5 : decode yB 5 = .ok (.aload_n 0, 1) := by decide +kernel
theorem d6 : decode yB 6 = .ok (.invokevirtual 335, 3) := by decide +kernel
theorem d9 : decode yB 9 = .ok (.ishr, 1) := by decide +kernel
theorem d10 : decode yB 10 = .ok (.ireturn, 1) := by decide +kernel
def site : List Cond := [.fieldLink "java/lang/String" 9 "java/lang/String" "value" "[B", Cdr.tab] ++ virtW "java/lang/String" 335 "java/lang/String" Cdr.yN Cdr.yN
def tab : Cond := tabOf yN yB 1 (some .int) site
def P (x t : Addr) (V : Cell) (cd : Int32) (n : Nat) (f : Nat → Int32) (z : Int32) (args : Array Value) (s : State) : Prop := args = #[.ref x] ∧ Txt x t V cd n f s ∧ StaticIs s "java/lang/String" "COMPACT_STRINGS" "Z" (.int z) ∧ ¬ z = 0
def E (n : Nat) (r : Option Value) (s u : State) : Prop := XT.PureE (some (.int (Int32.ofNat n))) r s u
/-- length() of a String of n chars, in either coding -/
theorem law (l : Launch) (x t : Addr) (V : Cell) (cd : Int32) (n : Nat) (f : Nat → Int32) (z : Int32) : Law l yN 1 0 1 13 yB 1 (some .int) site (P x t V cd n f z) (E n) [] 0 0 := by
  refine Law.of_walk (plainFor_of_name (by decide +kernel)) (by decide +kernel) (by decide +kernel) (by decide) (fun _ _ h => by rw [h.1]; rfl) (fun _ U U' hal hh h => ⟨h.1, h.2.1.mv hal hh, h.2.2.1.there hal hh, h.2.2.2⟩) (fun r U U' V V' h1 hal h2 h => XT.PureE.mv r U U' V V' h1 hal h2 h) ?_
  intro p e s m args below meth c s₁ X0 hexec hbytes hml hret hlk hnm hown hh0 W hP
  obtain ⟨rfl, hx, s1, hz⟩ := hP
  have v31 := hx.2.2.2.1.2.2.2
  have c1 : Steps p.tables e below (s₁.setTop (entryFrame m #[.ref x] 1)) (s₁.setTop (mkF m 1 #[.val (.ref x)] [.ref x])) := Steps.trans (entry rfl) (by
    show Steps p.tables e below (s₁.setTop (mkF m 0 #[.val (.ref x)] [])) _
    refine XS.aloadN X0.here hexec rfl (hb hbytes d0) rfl rfl ?_
    exact Steps.refl _)
  obtain ⟨T2, X2, q2, st2⟩ := X0.hget hexec hown (wk W (.fieldLink "java/lang/String" 9 "java/lang/String" "value" "[B")) (hx.mv X0.warmed.alike hh0).2.1 (g := (mkF m 1 #[.val (.ref x)] [.ref x])) rfl (rest := []) rfl (hb hbytes d1)
  have hh2 := q2.trans hh0
  have hx2 := hx.mv X2.warmed.alike hh2
  have c3 : Steps p.tables e below (s₁.setTop (entryFrame m #[.ref x] 1)) (T2.setTop (mkF m 6 #[.val (.ref x)] [.ref x, .int (Int32.ofNat V.slots.size)])) := (c1.trans (st2 _ (Steps.refl _))).trans (by
    refine X2.alen hexec hx2.2.2.2.1 rfl rfl (hb hbytes d4) ?_
    refine XS.aloadN X2.here hexec rfl (hb hbytes d5) rfl rfl ?_
    exact Steps.refl _)
  obtain ⟨v4, T4, X4, E4, g4⟩ := X2.callV hexec (Cdr.law l x cd z) hown (wks W (virtW "java/lang/String" 335 "java/lang/String" Cdr.yN Cdr.yN)) rfl (by decide) (wk W Cdr.tab) (W := 1) (Nat.le_of_ble_eq_true rfl) (Nat.le_of_ble_eq_true rfl) (Nat.le_refl _) (Nat.le_refl _) (hx2.1.fc X2.warmed.alike) hx2.1.is (g := (mkF m 6 #[.val (.ref x)] [.ref x, .int (Int32.ofNat V.slots.size)])) rfl (by rw [hml]; rfl) c3 (argsL := []) (rest := [.int (Int32.ofNat V.slots.size)]) rfl rfl (by show 2 * 0 + (1 + 0) ≤ _; decide) (hb hbytes d6) (⟨rfl, hx2.2.2.1, hx.2.2.2.2.1.cd, s1.there X2.warmed.alike hh2, hz⟩)
  obtain ⟨rfl, q4⟩ := E4
  have c5 : Steps p.tables e below (s₁.setTop (entryFrame m #[.ref x] 1)) (T4.setTop (mkF m 10 #[.val (.ref x)] [.int (Int32.ofNat V.slots.size >>> (cd &&& 31))])) := Steps.trans g4 (by
    refine ishr X4.here hexec rfl (hb hbytes d9) rfl ?_
    exact Steps.refl _)
  rw [hx.2.2.2.2.1.len v31] at c5
  exact ⟨T4, some (.int (Int32.ofNat n)), _, _, _, X4, rfl, rfl, rfl, (fun h => by cases h), ⟨rfl, q4.trans hh2⟩, fun fs hl => c5.trans (X4.ireturnOut hexec hret rfl (Or.inl rfl) (hb hbytes d10) hl)⟩
theorem pays {l : Launch} {R : Room} {p : Program} {e : Env} {below : List Frame} {s : State} {sargs : Array Value} {len W : Nat} (x t : Addr) (V : Cell) (cd : Int32) (n : Nat) (f : Nat → Int32) (z : Int32) (htab : tab.before sargs s = true) (hfr : 2 ≤ R.frames) (hlo : W + 25 ≤ R.locals) :
    Back l R p e below s sargs yN len W (fun A₁ a₁ => A₁.cells + 0 ≤ R.cells ∧ A₁.slots + 0 ≤ R.slots ∧ P x t V cd n f z a₁ A₁.U) (fun A₁ _ v₁ B₁ => E n v₁ A₁.U B₁.U ∧ B₁.locs = A₁.locs ++ [] ∧ B₁.cells = A₁.cells + 0 ∧ B₁.slots = A₁.slots + 0) :=
  (law l x t V cd n f z).pays htab hfr (by omega)
end Len
end StrChars
namespace StrChars.Road
open Jvm Sem ClassFile Op Lib Jvm.Stand Jvm.Free Jvm.Free.XT
open Jvm.Lib.Cold (StaticIs)
theorem consq {a : Array Value} {s : State} {c : Jvm.Cond} {L : List Jvm.Cond} (h0 : c.before a s = true) (h : ∀ w ∈ L, w.before a s = true) : ∀ w ∈ c :: L, w.before a s = true := fun w hw => (List.mem_cons.mp hw).elim (fun e => e ▸ h0) (h w)
/-- the words of String.length(), either coding -/
abbrev wordsLen : List Jvm.Cond := [.code Len.yN Len.yB 1 (some .int), .initialized ST, .fieldLink ST 9 ST "value" "[B", .fieldLink ST 38 ST "COMPACT_STRINGS" "Z", .fieldLink ST 15 ST "coder" "B", .code Cdr.yN Cdr.yB 1 (some .byte), .methodLink ST 335 Cdr.yN, .declares Cdr.yN, .selects ST Cdr.yN Cdr.yN, .instanceMethod Cdr.yN]
theorem tabLen_of {a : Array Value} {s : State} (h : ∀ w ∈ wordsLen, w.before a s = true) : Len.tab.before a s = true := by
  have hc : Cdr.tab.before a s = true := unparts (wk h (.code Cdr.yN Cdr.yB 1 (some .byte))) (wks h (.initialized Cdr.yN.cls :: Cdr.site))
  have q := consq hc h
  exact unparts (wk q (.code Len.yN Len.yB 1 (some .int))) (wks q (.initialized Len.yN.cls :: Len.site))
theorem movedLen {Z s : State} {a0 args : Array Value} (hZ : Z.Warmed39 s.vm) (hw : ∀ d ∈ wordsLen, d.before a0 Z = true) : ∀ d ∈ wordsLen, d.before args s = true := fun d hd => by
  have q := hw d hd
  have t : ∀ d ∈ wordsLen, d = .arrayClass .byte ∨ (d.onTables && d.keepsFace) = true := by decide +kernel
  rcases t d hd with rfl | t
  · exact RoadKit.mvA hZ q
  · exact RoadKit.mv hZ q t
/-- the bytes of the chars cs, low before high -/
def wideBytes : List Int32 → List Value
  | [] => []
  | c :: cs => .int (lo8 c) :: .int (hi8 c) :: wideBytes cs
theorem wide_lo (d : Value) : ∀ (cs : List Int32) (j : Nat), j < cs.length → (wideBytes cs).getD (2 * j) d = .int (lo8 (cs.getD j 0))
  | [], j, h => absurd h (Nat.not_lt_zero j)
  | c :: cs, 0, _ => rfl
  | c :: cs, j + 1, h => by
    have q := wide_lo d cs j (by simpa using h)
    rw [show 2 * (j + 1) = 2 * j + 1 + 1 from by omega]
    simpa [wideBytes] using q
theorem wide_hi (d : Value) : ∀ (cs : List Int32) (j : Nat), j < cs.length → (wideBytes cs).getD (2 * j + 1) d = .int (hi8 (cs.getD j 0))
  | [], j, h => absurd h (Nat.not_lt_zero j)
  | c :: cs, 0, _ => rfl
  | c :: cs, j + 1, h => by
    have q := wide_hi d cs j (by simpa using h)
    rw [show 2 * (j + 1) + 1 = 2 * j + 1 + 1 + 1 from by omega]
    simpa [wideBytes] using q
theorem low_at (d : Value) (cs : List Int32) (j : Nat) (h : j < cs.length) : (cs.map fun c => Value.int (lo8 c)).getD j d = .int (lo8 (cs.getD j 0)) := by
  simp [List.getD_eq_getElem?_getD, h]
/-- an array of N2 bytes vs codes the chars cs by the coder cd -/
def CodA (cs : List Int32) (cd N2 : Int32) (vs : List Value) : Prop := (cd = 0 ∧ N2 = Int32.ofNat cs.length ∧ vs = (cs.map fun c => Value.int (lo8 c)) ∧ ∀ c ∈ cs, ¬ 255 < c) ∨ (cd = 1 ∧ N2 = Int32.ofNat (2 * cs.length) ∧ vs = wideBytes cs ∧ ∃ c ∈ cs, 255 < c)
theorem CodA.cod {cs : List Int32} {cd N2 : Int32} {vs : List Value} {V : Cell} (h : CodA cs cd N2 vs) (hn : 2 * cs.length < 2 ^ 31) (hs : V.slots.size = N2.toNatClampNeg) (hv : RoadKit.Has V vs (.int 0)) : Cod cd cs.length (fun j => cs.getD j 0) V := by
  rcases h with ⟨rfl, rfl, rfl, h⟩ | ⟨rfl, rfl, rfl, c, hc, hw⟩
  · rw [n32 (by omega)] at hs
    exact Or.inl ⟨rfl, hs, fun j hj => ⟨by rw [hv j (by omega), low_at _ _ _ hj], by
      have e : cs.getD j 0 = cs[j] := by simp [List.getD_eq_getElem?_getD, hj]
      show ¬ 255 < cs.getD j 0
      rw [e]; exact h _ (List.getElem_mem _)⟩⟩
  · rw [n32 (by omega)] at hs
    obtain ⟨j, hj, rfl⟩ := List.getElem_of_mem hc
    exact Or.inr ⟨rfl, hs, fun j hj => ⟨by rw [hv _ (by omega), wide_lo _ _ _ hj], by rw [hv _ (by omega), wide_hi _ _ _ hj]⟩, j, hj, by
      have e : cs.getD j 0 = cs[j] := by simp [List.getD_eq_getElem?_getD, hj]
      show 255 < cs.getD j 0
      rw [e]; exact hw⟩
/-- an object of exactly java/lang/String, its two fields found: as the laws ask it -/
theorem strObj {Z U : State} {a0 : Array Value} {kI : Nat} (wi : (Jvm.Cond.instantiable ST kI).before a0 Z = true) (al : Z.vm.Alike U.vm) {x : Addr} {v0 c0 : Value} (E : RoadKit.Exa Z U.heap x ST) (V : RoadKit.Fld Z U.heap x ST "value" "[B" v0) (C : RoadKit.Fld Z U.heap x ST "coder" "B" c0) :
    ∃ (D : Cell) (fV fC : Field), Blank ST x D U ∧ Found ST "value" "[B" fV U ∧ Found ST "coder" "B" fC U ∧ D.slots[fV.slot]? = some v0 ∧ D.slots[fC.slot]? = some c0 ∧ RoadKit.slotOf Z ST "value" "[B" = fV.slot ∧ RoadKit.slotOf Z ST "coder" "B" = fC.slot := by
  obtain ⟨D, cfV, kV, iV, fV, hD, gV, stV, knV, obV, asV, slV⟩ := V
  obtain ⟨D', cfC, kC, iC, fC, hD', gC, stC, -, -, asC, slC⟩ := C
  cases hD.symm.trans hD'
  obtain ⟨D2, kD, e1, e2, e3, e4, e5⟩ := E
  cases hD.symm.trans e1
  obtain ⟨c2, k2, i1, i2, i3, -⟩ := Cond.instantiable_spec wi
  cases e2.symm.trans i1
  cases e3.symm.trans i2
  obtain ⟨kU, u1, u2⟩ := al.2.2 _ _ e3
  exact ⟨D, fV, fC, ⟨hD, ⟨knV, fun q hq => by rw [hq] at obV; cases obV⟩, by rw [al.findClass]; exact e2, kU, u1, by rw [u2]; exact i3, by rw [u2]; exact e5 i3⟩, ⟨SBG.found_only al ⟨cfV, kV, iV, gV⟩, stV⟩, ⟨SBG.found_only al ⟨cfC, kC, iC, gC⟩, stC⟩, slV, slC, by simp [RoadKit.slotOf, gV], by simp [RoadKit.slotOf, gC]⟩
theorem sta_is {Z U : State} (al : Z.vm.Alike U.vm) {C n d : String} {v : Value} (S : RoadKit.Sta Z U.heap C n d v) : StaticIs U C n d v := by
  obtain ⟨cfS, iS, kS, fS, st, cS, t1, t2, t3, t4, t5, t6, t7⟩ := S
  exact StaticIs.there (s := { Z with heap := U.heap }) ⟨cfS, iS, kS, fS, st, cS, t1, t2, t3, t4, t5, (fun q => by rw [q] at t6; cases t6), t7⟩ al rfl
/-- **length() OF SUCH A STRING** -/
theorem lenW {p : Program} {l : Launch} {e : Env} {R : Room} {s : State} {args : Array Value} {below : List Frame} {len W : Nat} {Z : State} {a0 : Array Value} {h : Heap} (hZ : Z.Warmed39 s.vm) (hw : ∀ d ∈ wordsLen, d.before a0 Z = true) {kI : Nat} (wi : (Jvm.Cond.instantiable ST kI).before a0 Z = true)
    {x t : Addr} {kb : ClassId} {cs : List Int32} {cd N2 z : Int32} {vs : List Value} (E : RoadKit.Exa Z h x ST) (V : RoadKit.Fld Z h x ST "value" "[B" (.ref t)) (C : RoadKit.Fld Z h x ST "coder" "B" (.int cd)) (K : RoadKit.Arv Z h t kb .byte N2 vs (.int 0)) (hc : CodA cs cd N2 vs) (hb : ∀ c ∈ cs, ¬ c < 0 ∧ ¬ (65535 : Int32) < c)
    (S : RoadKit.Sta Z h ST "COMPACT_STRINGS" "Z" (.int z)) (hz : ¬ z = 0) (l2 : cs.length ≤ 4000) (hfr : 2 ≤ R.frames) (hlo : W + 25 ≤ R.locals) :
    Back l R p e below s args (⟨"java/lang/String", "length", "()I"⟩ : MethodName) len W (fun P a => a = #[.ref x] ∧ P.U.heap = h ∧ P.cells + 0 ≤ R.cells ∧ P.slots + 0 ≤ R.slots)
      (fun P _ v B => ∃ L, (v = some (.int (Int32.ofNat cs.length)) ∧ L = [] ∧ B.U.heap = h) ∧ B.locs = P.locs ++ L ∧ B.cells = P.cells + 0 ∧ B.slots = P.slots + 0) := by
  obtain ⟨A, K1, K2, K3, K4, K5, K6⟩ := K
  have hcod := hc.cod (by omega) K3 K5
  intro m meth c P g ig mk a X hg hsize hdg hW hn hp'
  obtain ⟨rfl, rfl, r1, r2⟩ := hp'
  have al : Z.vm.Alike P.U.vm := hZ.alike.trans X.warmed.alike
  obtain ⟨D, fV, fC, hB, F1, F2, g1, g2, -, -⟩ := strObj wi al E V C
  have hx : Txt x t A cd cs.length (fun j => cs.getD j 0) P.U := ⟨⟨_, hB.2.2.1, D, hB.1, rfl, by cases q : D.vm <;> first | rfl | exact absurd q (hB.2.1.2 _)⟩, Has.of hB F1 g1, Has.of hB F2 g2, ⟨K1.1, State.isArrayOf_alike al K1.2.1, K1.2.2, by rcases hcod with ⟨-, q, -⟩ | ⟨-, q, -⟩ <;> omega⟩, hcod, fun j hj => by
    have e : cs.getD j 0 = cs[j] := by simp [List.getD_eq_getElem?_getD, hj]
    show ¬ cs.getD j 0 < 0 ∧ ¬ 65535 < cs.getD j 0
    rw [e]; exact hb _ (List.getElem_mem _)⟩
  obtain ⟨v, B, X', ⟨⟨hv, hh⟩, hl, hk, hs⟩, st⟩ := Len.pays x t A cd cs.length (fun j => cs.getD j 0) z (tabLen_of (movedLen hZ hw)) hfr hlo m meth c P g ig mk _ X hg hsize hdg hW hn ⟨r1, r2, rfl, hx, sta_is al S, hz⟩
  exact ⟨v, B, X', ⟨[], ⟨hv, rfl, hh⟩, hl, hk, hs⟩, st⟩
end StrChars.Road
namespace StrChars.Road
open Jvm Sem ClassFile Op Lib Jvm.Stand Jvm.Free Jvm.Free.XT
open Jvm.Lib.Cold (StaticIs)
/-- what backV says of its String, as the contracts of this text ask it: cs's low bytes, coder 0 -/
theorem codOf {cs : List Int32} {n : Nat} (hn : cs.length = n) (hb : ∀ c ∈ cs, ¬ 255 < c) : CodA cs 0 (Int32.ofNat n) ((cs.map lo8).map Value.int) := Or.inl ⟨rfl, by rw [hn], by simp [List.map_map, Function.comp_def], hb⟩
end StrChars.Road
end Jvm.Pilot.@@N@@

namespace Jvm.Pilot.@@N@@
open Jvm Jvm.ClassFile Sem Op Lib Jvm.Free Jvm.Stand Jvm.LawKit Jvm.RoadKit Bundle Jvm.Pilot.@@N@@.Jvm.D
theorem mI {α : Type} {l : List α} {a : α} (i : Nat) (h : l[i]? = some a) : a ∈ l := List.mem_of_getElem? h
set_option maxRecDepth 65536
set_option maxHeartbeats 40000000
abbrev HW (a0 : Array Value) (Z : State) : Prop := ∀ d ∈ tables_1, d.before a0 Z = true
theorem lE {a b : Nat} (h : Nat.ble a b = true) : a ≤ b := Nat.le_of_ble_eq_true h
theorem own_hw {a b : Nat} (h : 2 * 0 + a = b) : 2 * 0 + a ≤ b := Nat.le_of_eq h
abbrev Sx (p : Program) (e : Env) (b : List Frame) (T : State) (m : MethodId) (pc : Nat) (L : Array Slot) (S : List Value) (t : State) : Prop := Steps p.tables e b (T.setTop (mkF m pc L S)) t
abbrev Pr (p : Program) (e : Env) (b : List Frame) (T : State) (m : MethodId) (pc : Nat) (L : Array Slot) (S : List Value) (s₁ : State) (f : JFrame) : Prop := ∀ t, Steps p.tables e b (T.setTop (mkF m pc L S)) t → Steps p.tables e b (s₁.setTop f) t
section
variable {a0 : Array Value} {Z : State} (hw : ∀ d ∈ tables_1, d.before a0 Z = true)
def w0_ := hw _ (List.mem_of_getElem? (i := 0) rfl)
def w1_ := hw _ (List.mem_of_getElem? (i := 1) rfl)
def w2_ := hw _ (List.mem_of_getElem? (i := 2) rfl)
def w3_ := hw _ (List.mem_of_getElem? (i := 3) rfl)
def w4_ := hw _ (List.mem_of_getElem? (i := 4) rfl)
def w5_ := hw _ (List.mem_of_getElem? (i := 5) rfl)
def w6_ := hw _ (List.mem_of_getElem? (i := 6) rfl)
def w7_ := hw _ (List.mem_of_getElem? (i := 7) rfl)
def w8_ := hw _ (List.mem_of_getElem? (i := 8) rfl)
def w9_ := hw _ (List.mem_of_getElem? (i := 9) rfl)
def w10_ := hw _ (List.mem_of_getElem? (i := 10) rfl)
def w11_ := hw _ (List.mem_of_getElem? (i := 11) rfl)
def w12_ := hw _ (List.mem_of_getElem? (i := 12) rfl)
def w13_ := hw _ (List.mem_of_getElem? (i := 13) rfl)
def w14_ := hw _ (List.mem_of_getElem? (i := 14) rfl)
def w16_ := hw _ (List.mem_of_getElem? (i := 16) rfl)
def w17_ := hw _ (List.mem_of_getElem? (i := 17) rfl)
def w18_ := hw _ (List.mem_of_getElem? (i := 18) rfl)
def w19_ := hw _ (List.mem_of_getElem? (i := 19) rfl)
def w20_ := hw _ (List.mem_of_getElem? (i := 20) rfl)
def w21_ := hw _ (List.mem_of_getElem? (i := 21) rfl)
def w22_ := hw _ (List.mem_of_getElem? (i := 22) rfl)
def w23_ := hw _ (List.mem_of_getElem? (i := 23) rfl)
def w26_ := hw _ (List.mem_of_getElem? (i := 26) rfl)
def w27_ := hw _ (List.mem_of_getElem? (i := 27) rfl)
def w28_ := hw _ (List.mem_of_getElem? (i := 28) rfl)
def w29_ := hw _ (List.mem_of_getElem? (i := 29) rfl)
def w30_ := hw _ (List.mem_of_getElem? (i := 30) rfl)
def w31_ := hw _ (List.mem_of_getElem? (i := 31) rfl)
def w32_ := hw _ (List.mem_of_getElem? (i := 32) rfl)
def w33_ := hw _ (List.mem_of_getElem? (i := 33) rfl)
def w34_ := hw _ (List.mem_of_getElem? (i := 34) rfl)
def w35_ := hw _ (List.mem_of_getElem? (i := 35) rfl)
def w36_ := hw _ (List.mem_of_getElem? (i := 36) rfl)
def w37_ := hw _ (List.mem_of_getElem? (i := 37) rfl)
def w38_ := hw _ (List.mem_of_getElem? (i := 38) rfl)
def w39_ := hw _ (List.mem_of_getElem? (i := 39) rfl)
def w40_ := hw _ (List.mem_of_getElem? (i := 40) rfl)
def w41_ := hw _ (List.mem_of_getElem? (i := 41) rfl)
def w42_ := hw _ (List.mem_of_getElem? (i := 42) rfl)
def w43_ := hw _ (List.mem_of_getElem? (i := 43) rfl)
def w44_ := hw _ (List.mem_of_getElem? (i := 44) rfl)
def w45_ := hw _ (List.mem_of_getElem? (i := 45) rfl)
def w46_ := hw _ (List.mem_of_getElem? (i := 46) rfl)
def w47_ := hw _ (List.mem_of_getElem? (i := 47) rfl)
def w48_ := hw _ (List.mem_of_getElem? (i := 48) rfl)
def w49_ := hw _ (List.mem_of_getElem? (i := 49) rfl)
def w50_ := hw _ (List.mem_of_getElem? (i := 50) rfl)
def w51_ := hw _ (List.mem_of_getElem? (i := 51) rfl)
def w52_ := hw _ (List.mem_of_getElem? (i := 52) rfl)
def w53_ := hw _ (List.mem_of_getElem? (i := 53) rfl)
def w54_ := hw _ (List.mem_of_getElem? (i := 54) rfl)
def w55_ := hw _ (List.mem_of_getElem? (i := 55) rfl)
def w56_ := hw _ (List.mem_of_getElem? (i := 56) rfl)
def w57_ := hw _ (List.mem_of_getElem? (i := 57) rfl)
def w58_ := hw _ (List.mem_of_getElem? (i := 58) rfl)
def w59_ := hw _ (List.mem_of_getElem? (i := 59) rfl)
def w60_ := hw _ (List.mem_of_getElem? (i := 60) rfl)
def w61_ := hw _ (List.mem_of_getElem? (i := 61) rfl)
def w62_ := hw _ (List.mem_of_getElem? (i := 62) rfl)
def w63_ := hw _ (List.mem_of_getElem? (i := 63) rfl)
def w64_ := hw _ (List.mem_of_getElem? (i := 64) rfl)
def w65_ := hw _ (List.mem_of_getElem? (i := 65) rfl)
def w66_ := hw _ (List.mem_of_getElem? (i := 66) rfl)
def w67_ := hw _ (List.mem_of_getElem? (i := 67) rfl)
def w68_ := hw _ (List.mem_of_getElem? (i := 68) rfl)
def w69_ := hw _ (List.mem_of_getElem? (i := 69) rfl)
def w70_ := hw _ (List.mem_of_getElem? (i := 70) rfl)
def w71_ := hw _ (List.mem_of_getElem? (i := 71) rfl)
def w72_ := hw _ (List.mem_of_getElem? (i := 72) rfl)
def w73_ := hw _ (List.mem_of_getElem? (i := 73) rfl)
def w74_ := hw _ (List.mem_of_getElem? (i := 74) rfl)
def w75_ := hw _ (List.mem_of_getElem? (i := 75) rfl)
def w76_ := hw _ (List.mem_of_getElem? (i := 76) rfl)
def w77_ := hw _ (List.mem_of_getElem? (i := 77) rfl)
def w78_ := hw _ (List.mem_of_getElem? (i := 78) rfl)
def w79_ := hw _ (List.mem_of_getElem? (i := 79) rfl)
def w80_ := hw _ (List.mem_of_getElem? (i := 80) rfl)
def w81_ := hw _ (List.mem_of_getElem? (i := 81) rfl)
def w82_ := hw _ (List.mem_of_getElem? (i := 82) rfl)
def w83_ := hw _ (List.mem_of_getElem? (i := 83) rfl)
def w84_ := hw _ (List.mem_of_getElem? (i := 84) rfl)
def w85_ := hw _ (List.mem_of_getElem? (i := 85) rfl)
def w86_ := hw _ (List.mem_of_getElem? (i := 86) rfl)
def w87_ := hw _ (List.mem_of_getElem? (i := 87) rfl)
def w88_ := hw _ (List.mem_of_getElem? (i := 88) rfl)
def w89_ := hw _ (List.mem_of_getElem? (i := 89) rfl)
def w90_ := hw _ (List.mem_of_getElem? (i := 90) rfl)
def w91_ := hw _ (List.mem_of_getElem? (i := 91) rfl)
def w92_ := hw _ (List.mem_of_getElem? (i := 92) rfl)
def w93_ := hw _ (List.mem_of_getElem? (i := 93) rfl)
def w94_ := hw _ (List.mem_of_getElem? (i := 94) rfl)
def w95_ := hw _ (List.mem_of_getElem? (i := 95) rfl)
def w96_ := hw _ (List.mem_of_getElem? (i := 96) rfl)
def w97_ := hw _ (List.mem_of_getElem? (i := 97) rfl)
def w98_ := hw _ (List.mem_of_getElem? (i := 98) rfl)
def w99_ := hw _ (List.mem_of_getElem? (i := 99) rfl)
def w100_ := hw _ (List.mem_of_getElem? (i := 100) rfl)
def w101_ := hw _ (List.mem_of_getElem? (i := 101) rfl)
def w102_ := hw _ (List.mem_of_getElem? (i := 102) rfl)
def w103_ := hw _ (List.mem_of_getElem? (i := 103) rfl)
def w104_ := hw _ (List.mem_of_getElem? (i := 104) rfl)
def w105_ := hw _ (List.mem_of_getElem? (i := 105) rfl)
def w106_ := hw _ (List.mem_of_getElem? (i := 106) rfl)
def w107_ := hw _ (List.mem_of_getElem? (i := 107) rfl)
def w108_ := hw _ (List.mem_of_getElem? (i := 108) rfl)
def w109_ := hw _ (List.mem_of_getElem? (i := 109) rfl)
def w110_ := hw _ (List.mem_of_getElem? (i := 110) rfl)
def w111_ := hw _ (List.mem_of_getElem? (i := 111) rfl)
def w112_ := hw _ (List.mem_of_getElem? (i := 112) rfl)
def w113_ := hw _ (List.mem_of_getElem? (i := 113) rfl)
def w114_ := hw _ (List.mem_of_getElem? (i := 114) rfl)
def w115_ := hw _ (List.mem_of_getElem? (i := 115) rfl)
def w116_ := hw _ (List.mem_of_getElem? (i := 116) rfl)
def w117_ := hw _ (List.mem_of_getElem? (i := 117) rfl)
def w118_ := hw _ (List.mem_of_getElem? (i := 118) rfl)
def w119_ := hw _ (List.mem_of_getElem? (i := 119) rfl)
def w120_ := hw _ (List.mem_of_getElem? (i := 120) rfl)
def w121_ := hw _ (List.mem_of_getElem? (i := 121) rfl)
def w122_ := hw _ (List.mem_of_getElem? (i := 122) rfl)
def w123_ := hw _ (List.mem_of_getElem? (i := 123) rfl)
def w124_ := hw _ (List.mem_of_getElem? (i := 124) rfl)
def w125_ := hw _ (List.mem_of_getElem? (i := 125) rfl)
def w126_ := hw _ (List.mem_of_getElem? (i := 126) rfl)
def w127_ := hw _ (List.mem_of_getElem? (i := 127) rfl)
def w128_ := hw _ (List.mem_of_getElem? (i := 128) rfl)
def w129_ := hw _ (List.mem_of_getElem? (i := 129) rfl)
end
abbrev Y0_ : MethodName := ⟨"com/example/echoes_to_canon/echoestocanon/HttpUrlSeparatorPinLaw", "draw", "(I)C"⟩
abbrev Y1_ : MethodName := ⟨"java/lang/String", "<init>", "([CIILjava/lang/Void;)V"⟩
abbrev Y2_ : MethodName := ⟨"java/lang/String", "<init>", "([C)V"⟩
abbrev Y3_ : MethodName := ⟨"java/lang/String", "isLatin1", "()Z"⟩
abbrev Y4_ : MethodName := ⟨"java/lang/StringLatin1", "canEncode", "(I)Z"⟩
abbrev Y5_ : MethodName := ⟨"java/lang/Math", "max", "(II)I"⟩
abbrev Y6_ : MethodName := ⟨"java/lang/Math", "min", "(II)I"⟩
abbrev Y7_ : MethodName := ⟨"java/lang/StringLatin1", "indexOf", "([BIII)I"⟩
abbrev Y8_ : MethodName := ⟨"java/lang/String", "indexOf", "(II)I"⟩
abbrev Y9_ : MethodName := ⟨"java/lang/String", "length", "()I"⟩
abbrev Y10_ : MethodName := ⟨"java/lang/String", "indexOf", "(I)I"⟩
abbrev Y11_ : MethodName := ⟨"com/example/echoes_to_canon/echoestocanon/HttpUrl", "separator", "(Ljava/lang/String;)C"⟩
abbrev Y12_ : MethodName := ⟨"java/lang/StringUTF16", "compress", "([CI[BII)I"⟩
abbrev Y13_ : MethodName := ⟨"java/lang/StringUTF16", "newBytesLength", "(I)I"⟩
abbrev Y14_ : MethodName := ⟨"java/lang/StringUTF16", "newBytesFor", "(I)[B"⟩
abbrev Y15_ : MethodName := ⟨"java/lang/StringUTF16", "putChar", "([BII)V"⟩
abbrev Y16_ : MethodName := ⟨"java/lang/StringUTF16", "toBytes", "([CII)[B"⟩
abbrev Y17_ : MethodName := ⟨"java/lang/StringUTF16", "getChar", "([BI)C"⟩
abbrev Y18_ : MethodName := ⟨"java/lang/StringUTF16", "compress", "([CII)[B"⟩
abbrev Y19_ : MethodName := ⟨"java/lang/StringUTF16", "coderFromArrayLen", "([BI)B"⟩
abbrev Y20_ : MethodName := ⟨"java/lang/String", "coder", "()B"⟩
abbrev Y21_ : MethodName := ⟨"java/lang/StringUTF16", "length", "([B)I"⟩
abbrev Y22_ : MethodName := ⟨"jdk/internal/util/Preconditions", "checkFromToIndex", "(IIILjava/util/function/BiFunction;)I"⟩
abbrev Y23_ : MethodName := ⟨"java/lang/String", "checkBoundsBeginEnd", "(III)V"⟩
abbrev Y24_ : MethodName := ⟨"java/lang/StringUTF16", "checkBoundsBeginEnd", "(II[B)V"⟩
abbrev Y25_ : MethodName := ⟨"java/lang/StringUTF16", "indexOfCharUnsafe", "([BIII)I"⟩
abbrev Y26_ : MethodName := ⟨"java/lang/StringUTF16", "indexOfChar", "([BIII)I"⟩
abbrev Y27_ : MethodName := ⟨"java/lang/StringUTF16", "indexOf", "([BIII)I"⟩
abbrev Y28_ : MethodName := ⟨"java/lang/StringLatin1", "indexOfChar", "([BIII)I"⟩
abbrev ab0_ (p5 : Int32) := ((p5 &&& (2147483647 : Int32)) % (5 : Int32))
theorem own_cat {v : Value} (h : v.isRef = true) : v.category = 1 := by cases v <;> first | rfl | cases h
theorem own_and255 (x : Int32) : ∃ k : Fin 256, x &&& 255 = Int32.ofNat k.val := by
  have h : (x &&& 255).toBitVec.toNat < 256 := by
    simp only [Int32.toBitVec_and, BitVec.toNat_and]
    exact Nat.lt_succ_of_le Nat.and_le_right
  refine ⟨⟨_, h⟩, ?_⟩
  apply Int32.toBitVec_inj.mp
  show _ = BitVec.ofNat 32 _
  rw [BitVec.ofNat_toNat]; simp
theorem own_lat (x : Int32) : ¬ (((x &&& (255 : Int32))).toUInt32.toUInt16.toUInt32.toInt32) < 0 ∧ ¬ (255 : Int32) < (((x &&& (255 : Int32))).toUInt32.toUInt16.toUInt32.toInt32) := by
  obtain ⟨k, e⟩ := own_and255 x
  have t : ∀ k : Fin 256, ¬ ((Int32.ofNat k.val).toUInt32.toUInt16.toUInt32.toInt32) < 0 ∧ ¬ (255 : Int32) < ((Int32.ofNat k.val).toUInt32.toUInt16.toUInt32.toInt32) := by decide +kernel
  rw [e]; exact t k
theorem own_lat7 (x : Int32) : ¬ (((x &&& (127 : Int32))).toUInt32.toUInt16.toUInt32.toInt32) < 0 ∧ ¬ (255 : Int32) < (((x &&& (127 : Int32))).toUInt32.toUInt16.toUInt32.toInt32) := by
  have e : x &&& (127 : Int32) = (x &&& (127 : Int32)) &&& 255 := by rw [Int32.and_assoc]; rfl
  rw [e]; exact own_lat _
theorem own_nar_i2c (x : Int32) : nar .char (x.toUInt32.toUInt16.toUInt32.toInt32) = x.toUInt32.toUInt16.toUInt32.toInt32 := by simp only [nar, UInt32.toUInt32_toInt32, UInt16.toUInt16_toUInt32]
theorem own_nar_i2b (x : Int32) : nar .byte (x.toInt8.toInt32) = x.toInt8.toInt32 := by simp [nar]
theorem own_nar_lat {x : Int32} (h : ¬ x < 0 ∧ ¬ (255 : Int32) < x) : nar .char x = x := by
  have e0 : (0 : Int32).toInt = 0 := rfl
  have e1 : (255 : Int32).toInt = 255 := rfl
  have h1 := h.1
  have h2 := h.2
  rw [Int32.lt_iff_toInt_lt, e0] at h1
  rw [Int32.lt_iff_toInt_lt, e1] at h2
  have e : x = Int32.ofNat x.toInt.toNat := by
    apply Int32.toInt_inj.mp
    rw [Int32.toInt_ofNat_small (by omega)]; omega
  have t : ∀ k : Fin 256, nar .char (Int32.ofNat k.val) = Int32.ofNat k.val := by decide +kernel
  rw [e]; exact t ⟨x.toInt.toNat, by omega⟩
theorem own_up (cs : List Int32) (h : ∀ c ∈ cs, ¬ c < 0 ∧ ¬ (255 : Int32) < c) : ∀ c ∈ cs, ¬ c < 0 ∧ ¬ (65535 : Int32) < c := fun c hc => ⟨(h c hc).1, fun q => (h c hc).2 (by rw [Int32.lt_iff_toInt_lt] at q ⊢; have e1 : (65535 : Int32).toInt = 65535 := rfl; have e2 : (255 : Int32).toInt = 255 := rfl; omega)⟩
theorem own_sub {a b : Int32} {p : Int32 → Prop} (h : a = b) (hp : p b) : p a := by rw [h]; exact hp
theorem own_cons {a b : Int32} {l m : List Int32} (h : a = b) (h2 : l = m) : a :: l = b :: m := by rw [h, h2]
theorem own_and3 (x : Int32) : x &&& (3 : Int32) = 0 ∨ x &&& (3 : Int32) = 1 ∨ x &&& (3 : Int32) = 2 ∨ x &&& (3 : Int32) = 3 := by
  have h : (x &&& 3).toBitVec.toNat < 4 := by
    simp only [Int32.toBitVec_and, BitVec.toNat_and]
    exact Nat.lt_succ_of_le Nat.and_le_right
  have e : x &&& 3 = Int32.ofNat (x &&& 3).toBitVec.toNat := by
    apply Int32.toBitVec_inj.mp
    show _ = BitVec.ofNat 32 _
    rw [BitVec.ofNat_toNat]; simp
  rw [e]
  generalize (x &&& 3).toBitVec.toNat = n at h
  have : n = 0 ∨ n = 1 ∨ n = 2 ∨ n = 3 := by omega
  rcases this with rfl | rfl | rfl | rfl <;> simp
theorem own_three3 {x : Int32} (h0 : ¬ (x &&& (3 : Int32)) = (0 : Int32)) (h1 : ¬ (x &&& (3 : Int32)) = (1 : Int32)) (h2 : ¬ (x &&& (3 : Int32)) = (2 : Int32)) : (x &&& (3 : Int32)) = (3 : Int32) := by
  rcases own_and3 x with h | h | h | h
  · exact absurd h h0
  · exact absurd h h1
  · exact absurd h h2
  · exact h
section Own
variable {p : Program} {l : Launch} {e : Env} {R : Room} {s : State} {m : MethodId} {args : Array Value} {below : List Frame} {meth : Method} {c : Code} {T : State} {locs : List Loc} (cells slots rc rs C S : Nat) {Z : State} {h : Heap}
theorem own_cb {Q : Option Value → Heap → List Loc → Prop} {P : Option Value → Pt → Prop} (H : ∃ (v : Option Value) (vm₁ : Vm) (B : Pt), s.WarmedH vm₁ ∧ Stand p l e R s m args below meth c B.U B.locs B.cells B.slots ∧ (∃ L, Q v B.U.heap L ∧ B.locs = locs ++ L ∧ B.cells = cells + rc ∧ B.slots = slots + rs) ∧ P v B)
    (hc : cells + rc = C) (hs : slots + rs = S) : ∃ (v : Option Value) (T' : State) (L : List Loc), Stand p l e R s m args below meth c T' (locs ++ L) C S ∧ Q v T'.heap L ∧ P v (T', locs ++ L, C, S) := by
  obtain ⟨v, vm₁, ⟨T', L', k', n'⟩, -, X, ⟨L, hQ, h1, h2, h3⟩, hP⟩ := H
  dsimp only [Pt.U, Pt.locs, Pt.cells, Pt.slots] at X hQ h1 h2 h3
  subst h1 h2 h3 hc hs
  exact ⟨v, T', L, X, hQ, hP⟩
theorem own_cb0 {Q : Option Value → Pt → List Loc → Prop} {P : Option Value → Pt → Prop} (H : ∃ (v : Option Value) (vm₁ : Vm) (B : Pt), s.WarmedH vm₁ ∧ Stand p l e R s m args below meth c B.U B.locs B.cells B.slots ∧ (∃ L, Q v B L ∧ B.locs = locs ++ L ∧ B.cells = cells + rc ∧ B.slots = slots + rs) ∧ P v B)
    (hc : cells + rc = C) (hs : slots + rs = S) : ∃ (v : Option Value) (T' : State) (L : List Loc), Stand p l e R s m args below meth c T' (locs ++ L) C S ∧ Q v (T', locs ++ L, C, S) L ∧ P v (T', locs ++ L, C, S) := by
  obtain ⟨v, vm₁, ⟨T', L', k', n'⟩, -, X, ⟨L, hQ, h1, h2, h3⟩, hP⟩ := H
  dsimp only [Pt.U, Pt.locs, Pt.cells, Pt.slots] at X h1 h2 h3
  subst h1 h2 h3 hc hs
  exact ⟨v, T', L, X, hQ, hP⟩
theorem own_cbS {EL : List (String × Nat)} {vm0 : Vm} {k0 : Nat} {own : String} {Q : Option Value → Heap → List Loc → Prop} {P : Option Value → Pt → Prop} (H : ∃ (v : Option Value) (vm₁ : Vm) (B : Pt), (s.setVm vm0).WarmedH vm₁ ∧ Stand p l e R ((s.setVm vm0).setVm B.U.vm) m args below meth c B.U B.locs B.cells B.slots ∧ (s.setVm vm0).Since B.U.vm B.U.heap.size ∧ T.heap.size ≤ B.U.heap.size ∧ (∃ L, Q v B.U.heap L ∧ B.locs = locs ++ L ∧ B.cells = cells + rc ∧ B.slots = slots + rs ∧ CHr Z EL vm0 h B.U.vm B.U.heap) ∧ P v B)
    (hc : cells + rc = C) (hs : slots + rs = S) (hS : s.Since vm0 k0) (hk : k0 ≤ T.heap.size) (hZ : Z.Warmed39 vm0) (ho : vm0.findClass own = some m.cls) : ∃ (v : Option Value) (T' : State) (L : List Loc), Stand p l e R (s.setVm T'.vm) m args below meth c T' (locs ++ L) C S ∧ Q v T'.heap L ∧ s.Since T'.vm T'.heap.size ∧ Z.Warmed39 T'.vm ∧ T'.vm.findClass own = some m.cls ∧ CHr Z EL vm0 h T'.vm T'.heap ∧ P v (T', locs ++ L, C, S) := by
  obtain ⟨v, vm₁, ⟨T', L', k', n'⟩, -, X, hS2, hg, ⟨L, hQ, h1, h2, h3, hC⟩, hP⟩ := H
  dsimp only [Pt.U, Pt.locs, Pt.cells, Pt.slots] at X hQ h1 h2 h3 hS2 hg hC
  subst h1 h2 h3 hc hs
  exact ⟨v, T', L, X, hQ, hS.trans hS2 (Nat.le_trans hk hg), State.Warmed39.trans (t := s.setVm vm0) hZ hS2.1, by rw [hS2.1.alike.findClass]; exact ho, hC, hP⟩
theorem own_lvG {cells slots : Nat} {h : Heap} {s₁ : State} {fr : JFrame} {Q : Option Value → Heap → List Loc → Prop} (X : Stand p l e R s m args below meth c T locs cells slots) (hlocks : meth.locks = false) {v : Option Value} (hv : meth.sig.returnType = none → v = none) (hE : T.heap = h) (hQ : Q v h locs) (hk : (Nat.ble cells R.cells && Nat.ble slots R.slots) = true)
    (H : ∀ fs, (∀ (f : JFrame) (acts : List Action), f.method = m → f.locked = none → f.entered = [] → (doReturn e (T.setTop f) acts v).1 = T.setFrames fs) → Steps p.tables e below (s₁.setTop fr) (T.setFrames fs)) :
    ∃ s₂ o, Steps p.tables e below (s₁.setTop fr) s₂ ∧ s₂.status = .running ∧ Ended s₂ below o ∧ ∃ v L, o = .returned v ∧ Q v s₂.heap L ∧ FrameEnd s o s₂ L R.cells R.slots := by
  obtain ⟨fs, hr, hrun, hended, hW, hsame⟩ := X.leave hv hlocks
  rw [Bool.and_eq_true] at hk
  subst hE
  exact ⟨_, _, H fs hr, hrun, hended, _, _, rfl, hQ, ⟨_, rfl⟩, hW, hsame.mono (Nat.le_of_ble_eq_true hk.1) (Nat.le_of_ble_eq_true hk.2)⟩
theorem own_lvF {cells slots : Nat} {h : Heap} {s₁ : State} {fr : JFrame} {Q : Option Value → Heap → List Loc → Prop} {y : MethodName} {S : Spec} {cd : ByteArray} {ml : Nat} {t : FieldType} {s' sa : State} {a' : Array Value} {b' : List Frame} (X : Stand p l e R s m args below meth c T locs cells slots) (B : BodyLoose p l y S cd ml (some t) e s' m a' b' meth c sa) (v : Value) (hE : T.heap = h) (hQ : Q (some v) h locs) (hk : (Nat.ble cells R.cells && Nat.ble slots R.slots) = true)
    (H : ∀ fs, (∀ (f : JFrame) (acts : List Action), f.method = m → f.locked = none → f.entered = [] → (doReturn e (T.setTop f) acts (some v)).1 = T.setFrames fs) → Steps p.tables e below (s₁.setTop fr) (T.setFrames fs)) :
    ∃ s₂ o, Steps p.tables e below (s₁.setTop fr) s₂ ∧ s₂.status = .running ∧ Ended s₂ below o ∧ ∃ v L, o = .returned v ∧ Q v s₂.heap L ∧ FrameEnd s o s₂ L R.cells R.slots :=
  own_lvG X B.notSynchronized (v := some v) (fun h => by rw [B.returns] at h; cases h) hE hQ hk H
theorem own_lvN {cells slots : Nat} {h : Heap} {s₁ : State} {fr : JFrame} {Q : Option Value → Heap → List Loc → Prop} {y : MethodName} {S : Spec} {cd : ByteArray} {ml : Nat} {rt : Option FieldType} {s' sa : State} {a' : Array Value} {b' : List Frame} (X : Stand p l e R s m args below meth c T locs cells slots) (B : BodyLoose p l y S cd ml rt e s' m a' b' meth c sa) (hE : T.heap = h) (hQ : Q none h locs) (hk : (Nat.ble cells R.cells && Nat.ble slots R.slots) = true)
    (H : ∀ fs, (∀ (f : JFrame) (acts : List Action), f.method = m → f.locked = none → f.entered = [] → (doReturn e (T.setTop f) acts none).1 = T.setFrames fs) → Steps p.tables e below (s₁.setTop fr) (T.setFrames fs)) :
    ∃ s₂ o, Steps p.tables e below (s₁.setTop fr) s₂ ∧ s₂.status = .running ∧ Ended s₂ below o ∧ ∃ v L, o = .returned v ∧ Q v s₂.heap L ∧ FrameEnd s o s₂ L R.cells R.slots :=
  own_lvG X B.notSynchronized (v := none) (fun _ => rfl) hE hQ hk H
theorem own_lvW {cells slots : Nat} {h h0 : Heap} {s₁ : State} {fr : JFrame} {Q : Option Value → Heap → List Loc → Prop} {EL : List (String × Nat)} {vm1 : Vm} {n : Nat} (X : Stand p l e R (s.setVm vm1) m args below meth c T locs cells slots) (hlocks : meth.locks = false) (hS : s.Since vm1 n) (hk0 : n ≤ h.size) {v : Option Value} (hv : meth.sig.returnType = none → v = none) (hE : T.heap = h) (hh : s.heap = h0) (hQ : Q v h locs) (hC : CHr Z EL s.vm h0 T.vm h) (hk : cells ≤ R.cells) (hn : slots ≤ R.slots)
    (H : ∀ fs, (∀ (f : JFrame) (acts : List Action), f.method = m → f.locked = none → f.entered = [] → (doReturn e (T.setTop f) acts v).1 = T.setFrames fs) → Steps p.tables e below (s₁.setTop fr) (T.setFrames fs)) :
    ∃ s₂ o, Steps p.tables e below (s₁.setTop fr) s₂ ∧ s₂.status = .running ∧ Ended s₂ below o ∧ ∃ v L, o = .returned v ∧ Q v s₂.heap L ∧ CHr Z EL s.vm s.heap s₂.vm s₂.heap ∧ ReturnedEndW s o s₂ L R.cells R.slots := by
  subst hE hh
  obtain ⟨fs, hr, hrun, hended, hEnd⟩ := X.leaveW (s := s) hS hk0 hv hlocks
  exact ⟨_, _, H fs hr, hrun, hended, _, _, rfl, hQ, hC, hEnd.1, hEnd.2.1, hEnd.2.2.1, hEnd.2.2.2.mono hk hn⟩
end Own
abbrev Rm (f c s l : Nat) : Room := { frames := f, cells := c, slots := s, locals := l }
abbrev MF (l : Launch) (Z : State) (y : MethodName) (cd : ByteArray) (ml : Nat) (rt : Option FieldType) (R : Room) (a : Array Value) (h0 : Heap) (Q : Option Value → Heap → List Loc → Prop) : Prop :=
  MetFree l y (head1 [Jvm.Cond.code y cd ml rt] R) (fun b U => b = a ∧ Z.Warmed39 U.vm ∧ U.heap = h0) (fun _ _ _ _ _ => True) (fun _ U o U' => ∃ v L, o = .returned v ∧ Q v U'.heap L ∧ FrameEnd U o U' L R.cells R.slots)
theorem own_sFm {l : Launch} {Z : State} {y : MethodName} {cd : ByteArray} {ml : Nat} {rt : Option FieldType} {R : Room} {a : Array Value} {h0 : Heap} {Q : Option Value → Heap → List Loc → Prop} {K : String} {L0 : Array Slot} (hpn : plainFor y = true) (hK : y.cls = K) (hE : ∀ m, entryFrame m a ml = mkF m 0 L0 [])
    (H : ∀ p e s m below meth c s₁, BodyLoose p l y (head1 [Jvm.Cond.code y cd ml rt] R) cd ml rt e s m a below meth c s₁ → Z.Warmed39 s.vm → s.heap = h0 → p.tables.exec = Jvm.exec → c.code = cd → c.maxLocals = ml → s.vm.findClass K = some m.cls → meth.name = y.name → Stand p l e R s m a below meth c s₁ [] 0 0 → s₁.heap = h0 → (∀ t, Steps p.tables e below (s₁.setTop (mkF m 0 L0 [])) t → Steps p.tables e below (s₁.setTop (entryFrame m a ml)) t) →
      ∃ s₂ o, Steps p.tables e below (s₁.setTop (entryFrame m a ml)) s₂ ∧ s₂.status = .running ∧ Ended s₂ below o ∧ ∃ v L, o = .returned v ∧ Q v s₂.heap L ∧ FrameEnd s o s₂ L R.cells R.slots) : MF l Z y cd ml rt R a h0 Q := by
  subst hK
  refine MetFree.of_bodySF hpn hisR ?_
  intro p e s m args below meth c s₁ Bd hml0 hP hK
  obtain ⟨rfl, hZ, hh⟩ := hP
  exact H p e s m below meth c s₁ Bd hZ hh Bd.exec Bd.bytes hml0 (findClass_of_methodNamed Bd.named) (name_of_methodNamed Bd.named Bd.method).1 (Stand.of_body Bd) (by rw [← hh, Bd.state]; rfl) (fun t k => castTop (hE m) k)
theorem own_sF {l : Launch} {Z : State} {y : MethodName} {cd : ByteArray} {ml : Nat} {rt : Option FieldType} {R : Room} {a : Array Value} {h0 : Heap} {Q : Option Value → Heap → List Loc → Prop} {K : String} {L0 : Array Slot} (hpn : plainName K = true) (hK : y.cls = K) (hE : ∀ m, entryFrame m a ml = mkF m 0 L0 [])
    (H : ∀ p e s m below meth c s₁, BodyLoose p l y (head1 [Jvm.Cond.code y cd ml rt] R) cd ml rt e s m a below meth c s₁ → Z.Warmed39 s.vm → s.heap = h0 → p.tables.exec = Jvm.exec → c.code = cd → c.maxLocals = ml → s.vm.findClass K = some m.cls → meth.name = y.name → Stand p l e R s m a below meth c s₁ [] 0 0 → s₁.heap = h0 → (∀ t, Steps p.tables e below (s₁.setTop (mkF m 0 L0 [])) t → Steps p.tables e below (s₁.setTop (entryFrame m a ml)) t) →
      ∃ s₂ o, Steps p.tables e below (s₁.setTop (entryFrame m a ml)) s₂ ∧ s₂.status = .running ∧ Ended s₂ below o ∧ ∃ v L, o = .returned v ∧ Q v s₂.heap L ∧ FrameEnd s o s₂ L R.cells R.slots) : MF l Z y cd ml rt R a h0 Q := own_sFm (plainFor_of_name (hK ▸ hpn)) hK hE H
section Own3
variable {p : Program} {l : Launch} {e : Env} {R : Room} {s : State} {m : MethodId} {args : Array Value} {below : List Frame} {meth : Method} {c : Code} {T : State} {locs : List Loc} {cells slots : Nat} {Z : State} {h : Heap} {own C : String} {index : Nat} {y z : MethodName} {bytes : ByteArray} {maxL : Nat} {ret : Option FieldType} {rm : Room} {Q : Option Value → Heap → List Loc → Prop} {argsL : List Value} {ps : List FieldType} {r : Option FieldType} {a0 : Array Value}
abbrev own_num (rm R : Room) (rest : List Value) (maxL cells slots : Nat) : Bool := Nat.ble (rm.frames + 1) R.frames && (Nat.ble ((rest.map fun v => v.category).sum + (maxL + 11) + rm.locals) R.locals && (Nat.ble (cells + rm.cells) R.cells && Nat.ble (slots + rm.slots) R.slots))
theorem own_numE {rest : List Value} (h : own_num rm R rest maxL cells slots = true) : rm.frames + 1 ≤ R.frames ∧ (rest.map fun v => v.category).sum + (maxL + 11) + rm.locals ≤ R.locals ∧ cells + rm.cells ≤ R.cells ∧ slots + rm.slots ≤ R.slots := by
  simp only [own_num, Bool.and_eq_true] at h
  exact ⟨Nat.le_of_ble_eq_true h.1, Nat.le_of_ble_eq_true h.2.1, Nat.le_of_ble_eq_true h.2.2.1, Nat.le_of_ble_eq_true h.2.2.2⟩
theorem own_cS (C' S' : Nat) (rest : List Value) (pc : Nat) (Ls : Array Slot) (X : Stand p l e R s m args below meth c T locs cells slots) (hx : p.tables.exec = Jvm.exec) (hZ : Z.Warmed39 s.vm) (hown : s.vm.findClass own = some m.cls) (w1 : (Cond.methodLink own index y).before a0 Z = true) (w2 : (Cond.static y).before a0 Z = true) (w3 : (Cond.initialized y.cls).before a0 Z = true) (w4 : (Cond.code y bytes maxL ret).before a0 Z = true)
    (hM : MF l Z y bytes maxL ret rm argsL.toArray h Q) (pd : parseMethodDescriptor y.desc = some ⟨ps, r⟩) (hsz : Ls.size = c.maxLocals) (hd : decode c.code pc = .ok (.invokestatic index, 3)) (hE : T.heap = h) (hl : argsL.length = ps.length) (hc : cells + rm.cells = C') (hs : slots + rm.slots = S') (hn : own_num rm R rest maxL cells slots = true) (hy : y.cls ≠ "java/lang/invoke/MethodHandle" ∧ y.cls ≠ "java/lang/invoke/VarHandle") :
    ∃ (v : Option Value) (T' : State) (L : List Loc), Stand p l e R s m args below meth c T' (locs ++ L) C' S' ∧ Q v T'.heap L ∧ ∀ target, Steps p.tables e below (T'.setTop (mkF m (pc + 3) Ls (v.toList ++ rest))) target → Steps p.tables e below (T.setTop (mkF m pc Ls (argsL.reverse ++ rest))) target := by
  obtain ⟨n1, n2, n3, n4⟩ := own_numE hn
  exact own_cb cells slots rm.cells rm.slots C' S' (Jvm.LawKit.callS X hx hown (mvT hZ w1) (mvT hZ w2) (mvT hZ w3) (mvT hZ w4) hy (backOf (W := (rest.map fun v => v.category).sum) hM hZ w4 w3 n1 n2) (g := mkF m pc Ls (argsL.reverse ++ rest)) rfl hsz (argsL := argsL) (rest := rest) (lenOf pd hl) rfl (Nat.le_of_eq (Nat.zero_add _)) hd (fun _ _ => ⟨rfl, hE, n3, n4⟩)) hc hs
theorem own_cI (C' S' : Nat) (rest : List Value) (pc : Nat) (Ls : Array Slot) {a : Addr} (X : Stand p l e R s m args below meth c T locs cells slots) (hx : p.tables.exec = Jvm.exec) (hZ : Z.Warmed39 s.vm) (hown : s.vm.findClass own = some m.cls) (w1 : (Cond.methodLink own index y).before a0 Z = true) (w2 : (Cond.instanceMethod y).before a0 Z = true) (w3 : (Cond.initialized y.cls).before a0 Z = true) (w4 : (Cond.code y bytes maxL none).before a0 Z = true)
    (hM : MF l Z y bytes maxL none rm (.ref a :: argsL).toArray h Q) (pd : parseMethodDescriptor y.desc = some ⟨ps, r⟩) (hsz : Ls.size = c.maxLocals) (hd : decode c.code pc = .ok (.invokespecial index, 3)) (hE : T.heap = h) (hl : argsL.length = ps.length) (hc : cells + rm.cells = C') (hs : slots + rm.slots = S') (hn : own_num rm R rest maxL cells slots = true) (hy1 : y.name = "<init>") (hy : y.cls ≠ "java/lang/invoke/MethodHandle" ∧ y.cls ≠ "java/lang/invoke/VarHandle") :
    ∃ (v : Option Value) (T' : State) (L : List Loc), Stand p l e R s m args below meth c T' (locs ++ L) C' S' ∧ Q v T'.heap L ∧ ∀ target, Steps p.tables e below (T'.setTop (mkF m (pc + 3) Ls (v.toList ++ rest))) target → Steps p.tables e below (T.setTop (mkF m pc Ls (argsL.reverse ++ .ref a :: rest))) target := by
  obtain ⟨n1, n2, n3, n4⟩ := own_numE hn
  obtain ⟨v, T', L, h1, h2, h3⟩ := own_cb cells slots rm.cells rm.slots C' S' (X.specialBack hx hy1 hown (mvT hZ w1) (mvT hZ w2) (mvT hZ w4) hy (backOf (W := (rest.map fun v => v.category).sum) hM hZ w4 w3 n1 n2) (g := mkF m pc Ls (argsL.reverse ++ .ref a :: rest)) rfl hsz (Steps.refl _) (a := a) (argsL := argsL) (rest := rest) (lenOf pd hl) rfl (Nat.le_of_eq (Nat.zero_add _)) hd (fun _ _ => ⟨rfl, hE, n3, n4⟩)) hc hs
  exact ⟨v, T', L, h1, h2, fun t k => Steps.trans h3 k⟩
theorem own_cV (C' S' : Nat) (rest : List Value) (pc : Nat) (Ls : Array Slot) {b : Addr} (X : Stand p l e R s m args below meth c T locs cells slots) (hx : p.tables.exec = Jvm.exec) (hZ : Z.Warmed39 s.vm) (hown : s.vm.findClass own = some m.cls) (E : Exa Z h b C) (w1 : (Cond.methodLink own index y).before a0 Z = true) (w2 : (Cond.declares y).before a0 Z = true) (hnf : NotFace s y) (ws : (Cond.selects C y z).before a0 Z = true) (wi : (Cond.instanceMethod z).before a0 Z = true) (w3 : (Cond.initialized z.cls).before a0 Z = true) (w4 : (Cond.code z bytes maxL ret).before a0 Z = true)
    (hM : MF l Z z bytes maxL ret rm (.ref b :: argsL).toArray h Q) (pd : parseMethodDescriptor y.desc = some ⟨ps, r⟩) (hsz : Ls.size = c.maxLocals) (hd : decode c.code pc = .ok (.invokevirtual index, 3)) (hE : T.heap = h) (hl : argsL.length = ps.length) (hc : cells + rm.cells = C') (hs : slots + rm.slots = S') (hn : own_num rm R rest maxL cells slots = true) (hy : y.cls ≠ "java/lang/invoke/MethodHandle" ∧ y.cls ≠ "java/lang/invoke/VarHandle") :
    ∃ (v : Option Value) (T' : State) (L : List Loc), Stand p l e R s m args below meth c T' (locs ++ L) C' S' ∧ Q v T'.heap L ∧ ∀ target, Steps p.tables e below (T'.setTop (mkF m (pc + 3) Ls (v.toList ++ rest))) target → Steps p.tables e below (T.setTop (mkF m pc Ls (argsL.reverse ++ .ref b :: rest))) target := by
  obtain ⟨n1, n2, n3, n4⟩ := own_numE hn
  obtain ⟨cq, kq, qa, qb, qc⟩ := isOf hZ hE E
  obtain ⟨v, T', L, h1, h2, h3⟩ := own_cb cells slots rm.cells rm.slots C' S' (X.virtualBack hx hown (mvT hZ w1) (mvT hZ w2) hnf (mvT hZ ws) (mvT hZ wi) hy (backOf (W := (rest.map fun v => v.category).sum) hM hZ w4 w3 n1 n2) qa qc (g := mkF m pc Ls (argsL.reverse ++ .ref b :: rest)) rfl hsz (Steps.refl _) (argsL := argsL) (rest := rest) (lenOf pd hl) rfl (Nat.le_of_eq (Nat.zero_add _)) hd (fun _ _ => ⟨rfl, hE, n3, n4⟩)) hc hs
  exact ⟨v, T', L, h1, h2, fun t k => Steps.trans h3 k⟩
end Own3
section Own4
variable {p : Program} {l : Launch} {e : Env} {R : Room} {s : State} {m : MethodId} {args : Array Value} {below : List Frame} {meth : Method} {c : Code} {T target : State} {locs : List Loc} {cells slots : Nat} {bs : ByteArray} {pc pc' : Nat} {Ls : Array Slot} {st : List Value} {o i : Int} {y : MethodName} {S : Spec} {ml : Nat} {rt : Option FieldType} {s' sa : State} {a' : Array Value} {b' : List Frame}
theorem zi (X : Stand p l e R s m args below meth c T locs cells slots) (B : BodyLoose p l y S bs ml rt e s' m a' b' meth c sa) {k : Nat} {v : Int32} (hd : decode bs pc = .ok (.iload k, 2)) (hl : Ls[k]? = some (.val (.int v))) (hr : Steps p.tables e below (T.setTop (mkF m (pc + 2) Ls (.int v :: st))) target) : Steps p.tables e below (T.setTop (mkF m pc Ls st)) target := XS.iload X.here B.exec rfl (hb B.bytes hd) hl hr
theorem zj (X : Stand p l e R s m args below meth c T locs cells slots) (B : BodyLoose p l y S bs ml rt e s' m a' b' meth c sa) {k : Fin 4} {v : Int32} (hd : decode bs pc = .ok (.iload_n k, 1)) (hl : Ls[k.val]? = some (.val (.int v))) (hr : Steps p.tables e below (T.setTop (mkF m (pc + 1) Ls (.int v :: st))) target) : Steps p.tables e below (T.setTop (mkF m pc Ls st)) target := XS.iloadN X.here B.exec rfl (hb B.bytes hd) hl hr
theorem za (X : Stand p l e R s m args below meth c T locs cells slots) (B : BodyLoose p l y S bs ml rt e s' m a' b' meth c sa) {k : Nat} {v : Value} (hd : decode bs pc = .ok (.aload k, 2)) (hl : Ls[k]? = some (.val v)) (hv : v.isRef = true) (hr : Steps p.tables e below (T.setTop (mkF m (pc + 2) Ls (v :: st))) target) : Steps p.tables e below (T.setTop (mkF m pc Ls st)) target := XS.aload X.here B.exec rfl (hb B.bytes hd) hl hv hr
theorem zb (X : Stand p l e R s m args below meth c T locs cells slots) (B : BodyLoose p l y S bs ml rt e s' m a' b' meth c sa) {k : Fin 4} {v : Value} (hd : decode bs pc = .ok (.aload_n k, 1)) (hl : Ls[k.val]? = some (.val v)) (hv : v.isRef = true) (hr : Steps p.tables e below (T.setTop (mkF m (pc + 1) Ls (v :: st))) target) : Steps p.tables e below (T.setTop (mkF m pc Ls st)) target := XS.aloadN X.here B.exec rfl (hb B.bytes hd) hl hv hr
theorem zc (X : Stand p l e R s m args below meth c T locs cells slots) (B : BodyLoose p l y S bs ml rt e s' m a' b' meth c sa) (hd : decode bs pc = .ok (.iconst i, 1)) (hr : Steps p.tables e below (T.setTop (mkF m (pc + 1) Ls (.int (Int32.ofInt i) :: st))) target) : Steps p.tables e below (T.setTop (mkF m pc Ls st)) target := XS.iconst X.here B.exec rfl (hb B.bytes hd) hr
theorem zd (X : Stand p l e R s m args below meth c T locs cells slots) (B : BodyLoose p l y S bs ml rt e s' m a' b' meth c sa) (hd : decode bs pc = .ok (.bipush i, 2)) (hr : Steps p.tables e below (T.setTop (mkF m (pc + 2) Ls (.int (Int8.ofInt i).toInt32 :: st))) target) : Steps p.tables e below (T.setTop (mkF m pc Ls st)) target := XS.bipush X.here B.exec rfl (hb B.bytes hd) hr
theorem zs (X : Stand p l e R s m args below meth c T locs cells slots) (B : BodyLoose p l y S bs ml rt e s' m a' b' meth c sa) {k : Nat} {v : Int32} {l' : Array Slot} (hd : decode bs pc = .ok (.istore k, 2)) (hl : storeLocals Ls k (.int v) = some l') (hr : Steps p.tables e below (T.setTop (mkF m (pc + 2) l' st)) target) : Steps p.tables e below (T.setTop (mkF m pc Ls (.int v :: st))) target := XS.istore X.here B.exec rfl (hb B.bytes hd) rfl hl hr
theorem zt (X : Stand p l e R s m args below meth c T locs cells slots) (B : BodyLoose p l y S bs ml rt e s' m a' b' meth c sa) {k : Fin 4} {v : Int32} {l' : Array Slot} (hd : decode bs pc = .ok (.istore_n k, 1)) (hl : storeLocals Ls k.val (.int v) = some l') (hr : Steps p.tables e below (T.setTop (mkF m (pc + 1) l' st)) target) : Steps p.tables e below (T.setTop (mkF m pc Ls (.int v :: st))) target := XS.istoreN X.here B.exec rfl (hb B.bytes hd) rfl hl hr
theorem zn (X : Stand p l e R s m args below meth c T locs cells slots) (B : BodyLoose p l y S bs ml rt e s' m a' b' meth c sa) {cd : ClassFile.Cond} {u v : Int32} (hd : decode bs pc = .ok (.if_icmp cd o, 3)) (hc : if_icmp.holds cd u v = false) (hr : Steps p.tables e below (T.setTop (mkF m (pc + 3) Ls st)) target) : Steps p.tables e below (T.setTop (mkF m pc Ls (.int v :: .int u :: st))) target := XS.icmpNo X.here B.exec rfl (hb B.bytes hd) rfl hc hr
theorem zy (X : Stand p l e R s m args below meth c T locs cells slots) (B : BodyLoose p l y S bs ml rt e s' m a' b' meth c sa) {cd : ClassFile.Cond} {u v : Int32} (hd : decode bs pc = .ok (.if_icmp cd o, 3)) (hc : if_icmp.holds cd u v = true) (q : decide (0 ≤ (pc : Int) + o ∧ ((pc : Int) + o).toNat = pc') = true) (hr : Steps p.tables e below (T.setTop (mkF m pc' Ls st)) target) : Steps p.tables e below (T.setTop (mkF m pc Ls (.int v :: .int u :: st))) target := XS.icmpYes X.here B.exec rfl rfl (hb B.bytes hd) rfl hc (of_decide_eq_true q).1 (of_decide_eq_true q).2 hr
theorem zo (X : Stand p l e R s m args below meth c T locs cells slots) (B : BodyLoose p l y S bs ml rt e s' m a' b' meth c sa) {cd : ClassFile.Cond} {u : Int32} (hd : decode bs pc = .ok (.ifCond cd o, 3)) (hc : ifCond.holds cd u = false) (hr : Steps p.tables e below (T.setTop (mkF m (pc + 3) Ls st)) target) : Steps p.tables e below (T.setTop (mkF m pc Ls (.int u :: st))) target := XS.ifNo X.here B.exec rfl (hb B.bytes hd) rfl hc hr
theorem zp (X : Stand p l e R s m args below meth c T locs cells slots) (B : BodyLoose p l y S bs ml rt e s' m a' b' meth c sa) {cd : ClassFile.Cond} {u : Int32} (hd : decode bs pc = .ok (.ifCond cd o, 3)) (hc : ifCond.holds cd u = true) (q : decide (0 ≤ (pc : Int) + o ∧ ((pc : Int) + o).toNat = pc') = true) (hr : Steps p.tables e below (T.setTop (mkF m pc' Ls st)) target) : Steps p.tables e below (T.setTop (mkF m pc Ls (.int u :: st))) target := XS.ifYes X.here B.exec rfl rfl (hb B.bytes hd) rfl hc (of_decide_eq_true q).1 (of_decide_eq_true q).2 hr
theorem zg (X : Stand p l e R s m args below meth c T locs cells slots) (B : BodyLoose p l y S bs ml rt e s' m a' b' meth c sa) (hd : decode bs pc = .ok (.goto o, 3)) (q : decide (0 ≤ (pc : Int) + o ∧ ((pc : Int) + o).toNat = pc') = true) (hr : Steps p.tables e below (T.setTop (mkF m pc' Ls st)) target) : Steps p.tables e below (T.setTop (mkF m pc Ls st)) target := XS.goto X.here B.exec rfl rfl (hb B.bytes hd) (of_decide_eq_true q).1 (of_decide_eq_true q).2 hr
end Own4
abbrev MW (l : Launch) (Z : State) (EL : List (String × Nat)) (y : MethodName) (cd : ByteArray) (ml : Nat) (rt : Option FieldType) (R : Room) (a : Array Value) (h0 : Heap) (Q : Option Value → Heap → List Loc → Prop) : Prop :=
  MetFree l y (head1 [Jvm.Cond.code y cd ml rt] R) (fun b U => b = a ∧ Z.Warmed39 U.vm ∧ U.heap = h0 ∧ CHv Z EL U.vm h0) (fun _ _ _ _ _ => True) (fun _ U o U' => ∃ v L, o = .returned v ∧ Q v U'.heap L ∧ CHr Z EL U.vm U.heap U'.vm U'.heap ∧ ReturnedEndW U o U' L R.cells R.slots)
theorem own_sWm {l : Launch} {Z : State} {EL : List (String × Nat)} {y : MethodName} {cd : ByteArray} {ml : Nat} {rt : Option FieldType} {R : Room} {a : Array Value} {h0 : Heap} {Q : Option Value → Heap → List Loc → Prop} {K : String} {L0 : Array Slot} (hpn : plainFor y = true) (hK : y.cls = K) (hE : ∀ m, entryFrame m a ml = mkF m 0 L0 [])
    (H : ∀ p e s m below meth c s₁, BodyLoose p l y (head1 [Jvm.Cond.code y cd ml rt] R) cd ml rt e s m a below meth c s₁ → Z.Warmed39 s.vm → s.heap = h0 → p.tables.exec = Jvm.exec → c.code = cd → c.maxLocals = ml → s.vm.findClass K = some m.cls → meth.name = y.name → Stand p l e R (s.setVm s.vm) m a below meth c s₁ [] 0 0 → s₁.heap = h0 → (∀ t, Steps p.tables e below (s₁.setTop (mkF m 0 L0 [])) t → Steps p.tables e below (s₁.setTop (entryFrame m a ml)) t) →
      CHv Z EL s.vm h0 → s.Since s.vm h0.size → h0.size ≤ h0.size → CHr Z EL s.vm h0 s.vm h0 →
      ∃ s₂ o, Steps p.tables e below (s₁.setTop (entryFrame m a ml)) s₂ ∧ s₂.status = .running ∧ Ended s₂ below o ∧ ∃ v L, o = .returned v ∧ Q v s₂.heap L ∧ CHr Z EL s.vm s.heap s₂.vm s₂.heap ∧ ReturnedEndW s o s₂ L R.cells R.slots) : MW l Z EL y cd ml rt R a h0 Q := by
  subst hK
  refine MetFree.of_bodySF hpn hisR ?_
  intro p e s m args below meth c s₁ Bd hml0 hP hK
  obtain ⟨rfl, hZ, hh, hC0⟩ := hP
  exact H p e s m below meth c s₁ Bd hZ hh Bd.exec Bd.bytes hml0 (findClass_of_methodNamed Bd.named) (name_of_methodNamed Bd.named Bd.method).1 (Stand.of_body Bd) (by rw [← hh, Bd.state]; rfl) (fun t k => castTop (hE m) k) hC0 ((State.WarmedH.refl s).since _) (Nat.le_refl _) (CHr.refl hC0)
theorem own_sW {l : Launch} {Z : State} {EL : List (String × Nat)} {y : MethodName} {cd : ByteArray} {ml : Nat} {rt : Option FieldType} {R : Room} {a : Array Value} {h0 : Heap} {Q : Option Value → Heap → List Loc → Prop} {K : String} {L0 : Array Slot} (hpn : plainName K = true) (hK : y.cls = K) (hE : ∀ m, entryFrame m a ml = mkF m 0 L0 [])
    (H : ∀ p e s m below meth c s₁, BodyLoose p l y (head1 [Jvm.Cond.code y cd ml rt] R) cd ml rt e s m a below meth c s₁ → Z.Warmed39 s.vm → s.heap = h0 → p.tables.exec = Jvm.exec → c.code = cd → c.maxLocals = ml → s.vm.findClass K = some m.cls → meth.name = y.name → Stand p l e R (s.setVm s.vm) m a below meth c s₁ [] 0 0 → s₁.heap = h0 → (∀ t, Steps p.tables e below (s₁.setTop (mkF m 0 L0 [])) t → Steps p.tables e below (s₁.setTop (entryFrame m a ml)) t) →
      CHv Z EL s.vm h0 → s.Since s.vm h0.size → h0.size ≤ h0.size → CHr Z EL s.vm h0 s.vm h0 →
      ∃ s₂ o, Steps p.tables e below (s₁.setTop (entryFrame m a ml)) s₂ ∧ s₂.status = .running ∧ Ended s₂ below o ∧ ∃ v L, o = .returned v ∧ Q v s₂.heap L ∧ CHr Z EL s.vm s.heap s₂.vm s₂.heap ∧ ReturnedEndW s o s₂ L R.cells R.slots) : MW l Z EL y cd ml rt R a h0 Q := own_sWm (plainFor_of_name (hK ▸ hpn)) hK hE H
theorem own_nf {s : State} {args : Array Value} {y x z : MethodName} {C : String} (h : (Cond.selects C x z).before args s = true) (e : z.cls = y.cls) : NotFace s y := fun r0 h0 => by
  obtain ⟨c2, r2, m2, q1, q2, q3, q4, kP, hkP, hkPi⟩ := Cond.selects_spec h
  have h1 := findClass_of_methodNamed q3
  have h2 := findClass_of_methodNamed h0
  rw [e] at h1
  have e2 : m2.cls = r0.cls := Option.some.inj (h1.symm.trans h2)
  exact ⟨kP, e2 ▸ hkP, hkPi⟩
theorem own_same {s : State} {args : Array Value} {y x z : MethodName} {C : String} (hi : (Cond.instanceMethod y).before args s = true) (h : (Cond.selects C x z).before args s = true) (e : z.cls = y.cls) (hy : y.cls ≠ "java/lang/invoke/MethodHandle" ∧ y.cls ≠ "java/lang/invoke/VarHandle") : (Cond.sameMethod y.cls y.cls y.name y.desc).before args s = true := by
  obtain ⟨mk, methM, hnamed, hmethM, -, -⟩ := Cond.instanceMethod_spec hi
  have hfound : s.methodFound? y.cls y.name y.desc = some mk := State.methodFound?_of_named hnamed hy
  obtain ⟨kr, k1, k2⟩ := own_nf (y := y) h e mk hnamed
  have hc := findClass_of_methodNamed hnamed
  have hn : s.methodNamed? ⟨y.cls, y.name, y.desc⟩ = some mk := hnamed
  simp [Cond.before, Cond.holds, Cond.value, hc, hfound, hn, k1, k2]
theorem own_ws {a0 : Array Value} {Z : State} (hw : ∀ d ∈ tables_1, d.before a0 Z = true) : ∀ d ∈ StrChars.Road.words, d.before a0 Z = true := fun d hd => hw d ((by decide +kernel : ∀ d ∈ StrChars.Road.words, d ∈ tables_1) d hd)
theorem own_wl {a0 : Array Value} {Z : State} (hw : ∀ d ∈ tables_1, d.before a0 Z = true) : ∀ d ∈ StrChars.Road.wordsLen, d.before a0 Z = true := fun d hd => hw d ((by decide +kernel : ∀ d ∈ StrChars.Road.wordsLen, d ∈ tables_1) d hd)
theorem own_wS {a0 : Array Value} {Z : State} (hw : ∀ d ∈ tables_1, d.before a0 Z = true) : ∀ d ∈ Bundle.stringAtoms, d.before a0 Z = true := fun d hd => hw d ((by decide +kernel : ∀ d ∈ Bundle.stringAtoms, d ∈ tables_1) d hd)
theorem own_safe_null {Z : State} {EL : List (String × Nat)} {vm : Vm} {h : Heap} {x : Addr} (hal : Z.vm.Alike vm) (E : Exa Z h x "java/lang/String") (F : Fld Z h x "java/lang/String" "value" "[B" .null) : Safe Z EL vm h x := fun B => by
  obtain ⟨cell, k, e1, e2, e3, -, -⟩ := E
  obtain ⟨cell', cf, k', i, f, f1, f2, f3, -, -, -, f7⟩ := F
  cases e1.symm.trans f1
  obtain ⟨p, -, u, a, -, q, -, G, rfl | rfl⟩ := B
  · cases (show h[q.sa]? = some q.sC from G.ha).symm.trans e1
    obtain ⟨cS, ⟨⟨s1, s2, s3, ⟨cv, kv, iv, s4, s4'⟩, -, s6, s7, s8, -⟩, -, -⟩, -⟩ := G
    obtain ⟨kv', z4⟩ := ff_back (U := Wst Z vm h) hal s4
    cases z4.symm.trans f2
    rw [s8] at f7
    cases f7
  · cases (show h[q.sd]? = some q.SA from G.hd).symm.trans e1
    obtain ⟨cS, -, -, hB, -⟩ := G
    have hB : vm.findClass "[B" = some q.SA.cls := hB
    rw [hal.findClass] at hB
    obtain ⟨k1, q1, q2⟩ := Vm.findClass_spec hB
    obtain ⟨k2, q3, q4⟩ := Vm.findClass_spec e2
    cases q1.symm.trans q3
    exact absurd (q2.symm.trans q4) (by decide)
theorem own_EW {a0 : Array Value} {Z : State} (hw : ∀ d ∈ tables_1, d.before a0 Z = true) : EW Z a0 consts_1 := (EW.cons (own := "java/lang/String") (index := 7) (text := "") (w20_ hw) (by decide) EW.nil)
abbrev own_at (l : List Int32) (j : Int32) : Int32 := l.getD j.toNatClampNeg 0
theorem own_atV (l : List Int32) (j : Int32) : (l.map Value.int).getD j.toNatClampNeg (.int 0) = .int (own_at l j) := by
  simp only [own_at, List.getD_eq_getElem?_getD, List.getElem?_map]
  cases l[j.toNatClampNeg]? <;> rfl
theorem own_loop1 {G : Prop} (μ : Int32 → Nat) (I : State → List Loc → Int32 → Prop) (step : ∀ T L i, I T L i → (∀ T' L' i', μ i' < μ i → I T' L' i' → G) → G) (T : State) (L : List Loc) (i : Int32) (h : I T L i) : G := by
  have : ∀ k T L i, μ i = k → I T L i → G := by
    intro k
    induction k using Nat.strongRecOn with
    | ind k ih =>
      intro T L i hk hI
      exact step T L i hI (fun T' L' i' hlt hI' => ih (μ i') (hk ▸ hlt) T' L' i' rfl hI')
  exact this _ T L i rfl h
theorem own_c16 {c : Int32} (h : nar .char c = c) : ∃ a b : Fin 256, c = Int32.ofNat (256 * a.val + b.val) := by
  have hk := c.toUInt32.toUInt16.toNat_lt
  have e : c = Int32.ofNat c.toUInt32.toUInt16.toNat := by
    conv => lhs; rw [← h]
    simp only [nar]
    apply Int32.toBitVec_inj.mp
    show _ = BitVec.ofNat 32 _
    apply BitVec.eq_of_toNat_eq
    simp
    have : c.toUInt32.toNat = c.toBitVec.toNat := rfl
    omega
  refine ⟨⟨c.toUInt32.toUInt16.toNat / 256, by omega⟩, ⟨c.toUInt32.toUInt16.toNat % 256, by omega⟩, ?_⟩
  have : 256 * (c.toUInt32.toUInt16.toNat / 256) + c.toUInt32.toUInt16.toNat % 256 = c.toUInt32.toUInt16.toNat := Nat.div_add_mod _ _
  show c = Int32.ofNat (256 * (c.toUInt32.toUInt16.toNat / 256) + c.toUInt32.toUInt16.toNat % 256)
  rw [this]; exact e
theorem own_b8 (x : Int32) : (x.toInt8.toInt32) &&& (255 : Int32) = x &&& (255 : Int32) := by
  apply Int32.toBitVec_inj.mp
  apply BitVec.eq_of_getLsbD_eq
  intro i hi
  simp only [Int32.toBitVec_and, BitVec.getLsbD_and]
  by_cases h : i < 8
  · have : (x.toInt8.toInt32).toBitVec.getLsbD i = x.toBitVec.getLsbD i := by
      show ((x.toBitVec.signExtend 8).signExtend 32).getLsbD i = _
      rw [BitVec.getLsbD_signExtend, BitVec.getLsbD_signExtend]
      simp only [h, hi, decide_true, Bool.true_and, if_true]
    rw [this]
  · have : (255 : Int32).toBitVec.getLsbD i = false := by
      show (255#32).getLsbD i = false
      simp [BitVec.getLsbD_ofNat]
      intro _
      exact Nat.testBit_lt_two_pow (Nat.lt_of_lt_of_le (by decide : 255 < 2 ^ 8) (Nat.pow_le_pow_right (by decide) (Nat.le_of_not_lt h)))
    rw [this]; simp
theorem own_get16 {c : Int32} (h : nar .char c = c) : ((((((((((c >>> ((0 : Int32) &&& 31)))).toInt8.toInt32) &&& (255 : Int32)) <<< ((0 : Int32) &&& 31))) ||| (((((((c >>> ((8 : Int32) &&& 31)))).toInt8.toInt32) &&& (255 : Int32)) <<< ((8 : Int32) &&& 31))))).toUInt32.toUInt16.toUInt32.toInt32) = c := by
  have hn : c.toBitVec.toNat < 65536 := by
    rw [← h]
    show (c.toUInt32.toUInt16.toUInt32.toInt32).toBitVec.toNat < 65536
    have := c.toUInt32.toUInt16.toNat_lt
    simp at this ⊢
    omega
  rw [own_b8, own_b8]
  have s0 : c >>> ((0 : Int32) &&& 31) = c := by
    apply Int32.toBitVec_inj.mp
    show c.toBitVec.sshiftRight 0 = c.toBitVec
    simp
  have s1 : (c &&& (255 : Int32)) <<< ((0 : Int32) &&& 31) = c &&& (255 : Int32) := by
    apply Int32.toBitVec_inj.mp
    show (c &&& (255 : Int32)).toBitVec <<< 0 = (c &&& (255 : Int32)).toBitVec
    simp
  rw [s0, s1]
  have key : (c &&& (255 : Int32)) ||| (((c >>> ((8 : Int32) &&& 31)) &&& (255 : Int32)) <<< ((8 : Int32) &&& 31)) = c := by
    apply Int32.toBitVec_inj.mp
    apply BitVec.eq_of_getLsbD_eq
    intro i hi
    show ((c.toBitVec &&& 255#32) ||| (((c.toBitVec.sshiftRight 8) &&& 255#32) <<< 8)).getLsbD i = c.toBitVec.getLsbD i
    rw [BitVec.getLsbD_or, BitVec.getLsbD_and, BitVec.getLsbD_shiftLeft, BitVec.getLsbD_and, BitVec.getLsbD_sshiftRight]
    have b : ∀ j, (255#32).getLsbD j = decide (j < 8) := by
      intro j
      rw [BitVec.getLsbD_ofNat]
      by_cases q : j < 8
      · have : j = 0 ∨ j = 1 ∨ j = 2 ∨ j = 3 ∨ j = 4 ∨ j = 5 ∨ j = 6 ∨ j = 7 := by omega
        rcases this with rfl | rfl | rfl | rfl | rfl | rfl | rfl | rfl <;> rfl
      · have : (255 : Nat).testBit j = false := Nat.testBit_lt_two_pow (Nat.lt_of_lt_of_le (by decide : 255 < 2 ^ 8) (Nat.pow_le_pow_right (by decide) (Nat.le_of_not_lt q)))
        rw [this]; simp [q]
    rw [b, b]
    by_cases q1 : i < 8
    · simp [q1, hi]
    · by_cases q2 : i < 16
      · have e1 : i - 8 < 8 := by omega
        have e2 : 8 + (i - 8) = i := by omega
        have e3 : 8 + (i - 8) < 32 := by omega
        simp [q1, hi, e1, e2, (by omega : i - 8 < 32)]
      · have e1 : ¬ i - 8 < 8 := by omega
        have e2 : c.toBitVec.getLsbD i = false := by
          rw [BitVec.getLsbD]
          exact Nat.testBit_lt_two_pow (Nat.lt_of_lt_of_le hn (by
            show 2 ^ 16 ≤ 2 ^ i
            exact Nat.pow_le_pow_right (by decide) (Nat.le_of_not_lt q2)))
        rw [e2]; simp [q1, e1]
  rw [key]; exact h
theorem own_get16l {c : Int32} (h : nar .char c = c) (hc : (255 : Int32) < c) : (255 : Int32) < ((((((((((c >>> ((0 : Int32) &&& 31)))).toInt8.toInt32) &&& (255 : Int32)) <<< ((0 : Int32) &&& 31))) ||| (((((((c >>> ((8 : Int32) &&& 31)))).toInt8.toInt32) &&& (255 : Int32)) <<< ((8 : Int32) &&& 31))))).toUInt32.toUInt16.toUInt32.toInt32) := by rw [own_get16 h]; exact hc
theorem own_ch0 {c : Int32} (h : nar .char c = c) : ¬ c < 0 := by
  obtain ⟨a, b, rfl⟩ := own_c16 h
  have e0 : (0 : Int32).toInt = 0 := rfl
  rw [Int32.lt_iff_toInt_lt, e0, Int32.toInt_ofNat_small (by omega)]; omega
def own_max : List Int32 → Int32
  | [] => 0
  | c :: r => if own_max r < c then c else own_max r
theorem own_maxge : ∀ (l : List Int32) (c : Int32), c ∈ l → ¬ own_max l < c
  | x :: r, c, h => by
    have t : ∀ a b c : Int32, ¬ a < b → a < c → ¬ c < b := fun a b c h1 h2 h3 => by rw [Int32.lt_iff_toInt_lt] at *; omega
    rw [own_max]
    rcases List.mem_cons.mp h with rfl | q
    · split
      · exact fun h => Int32.lt_irrefl h
      · assumption
    · have := own_maxge r c q
      split
      · exact t _ _ _ this (by assumption)
      · exact this
theorem own_maxle {l : List Int32} {c : Int32} (h : ¬ (255 : Int32) < own_max l) (hc : c ∈ l) : ¬ (255 : Int32) < c := fun q => by
  have := own_maxge l c hc
  rw [Int32.lt_iff_toInt_lt] at *
  omega
theorem own_maxno : ∀ (l : List Int32), (∀ c ∈ l, ¬ (255 : Int32) < c) → ¬ (255 : Int32) < own_max l
  | [], _ => by decide
  | x :: r, h => by
    rw [own_max]
    split
    · exact h _ (List.mem_cons_self ..)
    · exact own_maxno r (fun c hc => h c (List.mem_cons_of_mem _ hc))
theorem own_ltn {j : Int32} {k : Nat} (hk : k < 1000) (h : ¬ j < 0 ∧ j < Int32.ofNat k) : j.toNatClampNeg < k := by
  obtain ⟨h0, h1⟩ := h
  have e0 : (0 : Int32).toInt = 0 := rfl
  have ek : (Int32.ofNat k).toInt = k := Int32.toInt_ofNat_small (by omega)
  rw [Int32.lt_iff_toInt_lt, e0] at h0
  rw [Int32.lt_iff_toInt_lt, ek] at h1
  simp only [Int32.toNatClampNeg]; omega
abbrev own_L1 (b0 b1 : Int32) : List Int32 := ([((((((b0 &&& (255 : Int32)) <<< ((0 : Int32) &&& 31))) ||| (((b1 &&& (255 : Int32)) <<< ((8 : Int32) &&& 31))))).toUInt32.toUInt16.toUInt32.toInt32)] : List Int32)
theorem own_lt1 {j : Int32} (h0 : ¬ j < 0) (h1 : j < (1 : Int32)) : j = (0 : Int32) := by
  have e0 : (0 : Int32).toInt = 0 := rfl
  have e1 : (1 : Int32).toInt = 1 := rfl
  rw [Int32.lt_iff_toInt_lt, e0] at h0
  rw [Int32.lt_iff_toInt_lt, e1] at h1
  have e : ∀ k : Int32, j.toInt = k.toInt → j = k := fun k h => Int32.toInt_inj.mp h
  have : j.toInt = 0 := by omega
  exact e _ this
theorem own_cat1 (b0 b1 j : Int32) (h0 : ¬ j < 0) (h1 : j < (1 : Int32)) : (((((((own_at ([b0, b1] : List Int32) ((j <<< ((1 : Int32) &&& 31)))) &&& (255 : Int32)) <<< ((0 : Int32) &&& 31))) ||| ((((own_at ([b0, b1] : List Int32) (((j <<< ((1 : Int32) &&& 31))) + (1 : Int32))) &&& (255 : Int32)) <<< ((8 : Int32) &&& 31))))).toUInt32.toUInt16.toUInt32.toInt32) = own_at (own_L1 b0 b1) j := by
  rcases own_lt1 h0 h1 with rfl <;> rfl
theorem own_shla1 {j : Int32} (h0 : ¬ j < 0) (h1 : j < (1 : Int32)) : ¬ ((j <<< ((1 : Int32) &&& 31))) < 0 ∧ ((j <<< ((1 : Int32) &&& 31))) < (2 : Int32) := by
  rcases own_lt1 h0 h1 with rfl <;> decide
theorem own_shlb1 {j : Int32} (h0 : ¬ j < 0) (h1 : j < (1 : Int32)) : ¬ (((j <<< ((1 : Int32) &&& 31))) + (1 : Int32)) < 0 ∧ (((j <<< ((1 : Int32) &&& 31))) + (1 : Int32)) < (2 : Int32) := by
  rcases own_lt1 h0 h1 with rfl <;> decide
abbrev own_L2 (b0 b1 b2 b3 : Int32) : List Int32 := ([((((((b0 &&& (255 : Int32)) <<< ((0 : Int32) &&& 31))) ||| (((b1 &&& (255 : Int32)) <<< ((8 : Int32) &&& 31))))).toUInt32.toUInt16.toUInt32.toInt32), ((((((b2 &&& (255 : Int32)) <<< ((0 : Int32) &&& 31))) ||| (((b3 &&& (255 : Int32)) <<< ((8 : Int32) &&& 31))))).toUInt32.toUInt16.toUInt32.toInt32)] : List Int32)
theorem own_lt2 {j : Int32} (h0 : ¬ j < 0) (h1 : j < (2 : Int32)) : j = (0 : Int32) ∨ j = (1 : Int32) := by
  have e0 : (0 : Int32).toInt = 0 := rfl
  have e1 : (2 : Int32).toInt = 2 := rfl
  rw [Int32.lt_iff_toInt_lt, e0] at h0
  rw [Int32.lt_iff_toInt_lt, e1] at h1
  have e : ∀ k : Int32, j.toInt = k.toInt → j = k := fun k h => Int32.toInt_inj.mp h
  have : j.toInt = 0 ∨ j.toInt = 1 := by omega
  rcases this with h | h
  · exact Or.inl (e _ h)
  · exact Or.inr (e _ h)
theorem own_cat2 (b0 b1 b2 b3 j : Int32) (h0 : ¬ j < 0) (h1 : j < (2 : Int32)) : (((((((own_at ([b0, b1, b2, b3] : List Int32) ((j <<< ((1 : Int32) &&& 31)))) &&& (255 : Int32)) <<< ((0 : Int32) &&& 31))) ||| ((((own_at ([b0, b1, b2, b3] : List Int32) (((j <<< ((1 : Int32) &&& 31))) + (1 : Int32))) &&& (255 : Int32)) <<< ((8 : Int32) &&& 31))))).toUInt32.toUInt16.toUInt32.toInt32) = own_at (own_L2 b0 b1 b2 b3) j := by
  rcases own_lt2 h0 h1 with rfl | rfl <;> rfl
theorem own_shla2 {j : Int32} (h0 : ¬ j < 0) (h1 : j < (2 : Int32)) : ¬ ((j <<< ((1 : Int32) &&& 31))) < 0 ∧ ((j <<< ((1 : Int32) &&& 31))) < (4 : Int32) := by
  rcases own_lt2 h0 h1 with rfl | rfl <;> decide
theorem own_shlb2 {j : Int32} (h0 : ¬ j < 0) (h1 : j < (2 : Int32)) : ¬ (((j <<< ((1 : Int32) &&& 31))) + (1 : Int32)) < 0 ∧ (((j <<< ((1 : Int32) &&& 31))) + (1 : Int32)) < (4 : Int32) := by
  rcases own_lt2 h0 h1 with rfl | rfl <;> decide
abbrev own_L3 (b0 b1 b2 b3 b4 b5 : Int32) : List Int32 := ([((((((b0 &&& (255 : Int32)) <<< ((0 : Int32) &&& 31))) ||| (((b1 &&& (255 : Int32)) <<< ((8 : Int32) &&& 31))))).toUInt32.toUInt16.toUInt32.toInt32), ((((((b2 &&& (255 : Int32)) <<< ((0 : Int32) &&& 31))) ||| (((b3 &&& (255 : Int32)) <<< ((8 : Int32) &&& 31))))).toUInt32.toUInt16.toUInt32.toInt32), ((((((b4 &&& (255 : Int32)) <<< ((0 : Int32) &&& 31))) ||| (((b5 &&& (255 : Int32)) <<< ((8 : Int32) &&& 31))))).toUInt32.toUInt16.toUInt32.toInt32)] : List Int32)
theorem own_lt3 {j : Int32} (h0 : ¬ j < 0) (h1 : j < (3 : Int32)) : j = (0 : Int32) ∨ j = (1 : Int32) ∨ j = (2 : Int32) := by
  have e0 : (0 : Int32).toInt = 0 := rfl
  have e1 : (3 : Int32).toInt = 3 := rfl
  rw [Int32.lt_iff_toInt_lt, e0] at h0
  rw [Int32.lt_iff_toInt_lt, e1] at h1
  have e : ∀ k : Int32, j.toInt = k.toInt → j = k := fun k h => Int32.toInt_inj.mp h
  have : j.toInt = 0 ∨ j.toInt = 1 ∨ j.toInt = 2 := by omega
  rcases this with h | h | h
  · exact Or.inl (e _ h)
  · exact Or.inr (Or.inl (e _ h))
  · exact Or.inr (Or.inr (e _ h))
theorem own_cat3 (b0 b1 b2 b3 b4 b5 j : Int32) (h0 : ¬ j < 0) (h1 : j < (3 : Int32)) : (((((((own_at ([b0, b1, b2, b3, b4, b5] : List Int32) ((j <<< ((1 : Int32) &&& 31)))) &&& (255 : Int32)) <<< ((0 : Int32) &&& 31))) ||| ((((own_at ([b0, b1, b2, b3, b4, b5] : List Int32) (((j <<< ((1 : Int32) &&& 31))) + (1 : Int32))) &&& (255 : Int32)) <<< ((8 : Int32) &&& 31))))).toUInt32.toUInt16.toUInt32.toInt32) = own_at (own_L3 b0 b1 b2 b3 b4 b5) j := by
  rcases own_lt3 h0 h1 with rfl | rfl | rfl <;> rfl
theorem own_shla3 {j : Int32} (h0 : ¬ j < 0) (h1 : j < (3 : Int32)) : ¬ ((j <<< ((1 : Int32) &&& 31))) < 0 ∧ ((j <<< ((1 : Int32) &&& 31))) < (6 : Int32) := by
  rcases own_lt3 h0 h1 with rfl | rfl | rfl <;> decide
theorem own_shlb3 {j : Int32} (h0 : ¬ j < 0) (h1 : j < (3 : Int32)) : ¬ (((j <<< ((1 : Int32) &&& 31))) + (1 : Int32)) < 0 ∧ (((j <<< ((1 : Int32) &&& 31))) + (1 : Int32)) < (6 : Int32) := by
  rcases own_lt3 h0 h1 with rfl | rfl | rfl <;> decide
abbrev own_L4 (b0 b1 b2 b3 b4 b5 b6 b7 : Int32) : List Int32 := ([((((((b0 &&& (255 : Int32)) <<< ((0 : Int32) &&& 31))) ||| (((b1 &&& (255 : Int32)) <<< ((8 : Int32) &&& 31))))).toUInt32.toUInt16.toUInt32.toInt32), ((((((b2 &&& (255 : Int32)) <<< ((0 : Int32) &&& 31))) ||| (((b3 &&& (255 : Int32)) <<< ((8 : Int32) &&& 31))))).toUInt32.toUInt16.toUInt32.toInt32), ((((((b4 &&& (255 : Int32)) <<< ((0 : Int32) &&& 31))) ||| (((b5 &&& (255 : Int32)) <<< ((8 : Int32) &&& 31))))).toUInt32.toUInt16.toUInt32.toInt32), ((((((b6 &&& (255 : Int32)) <<< ((0 : Int32) &&& 31))) ||| (((b7 &&& (255 : Int32)) <<< ((8 : Int32) &&& 31))))).toUInt32.toUInt16.toUInt32.toInt32)] : List Int32)
theorem own_lt4 {j : Int32} (h0 : ¬ j < 0) (h1 : j < (4 : Int32)) : j = (0 : Int32) ∨ j = (1 : Int32) ∨ j = (2 : Int32) ∨ j = (3 : Int32) := by
  have e0 : (0 : Int32).toInt = 0 := rfl
  have e1 : (4 : Int32).toInt = 4 := rfl
  rw [Int32.lt_iff_toInt_lt, e0] at h0
  rw [Int32.lt_iff_toInt_lt, e1] at h1
  have e : ∀ k : Int32, j.toInt = k.toInt → j = k := fun k h => Int32.toInt_inj.mp h
  have : j.toInt = 0 ∨ j.toInt = 1 ∨ j.toInt = 2 ∨ j.toInt = 3 := by omega
  rcases this with h | h | h | h
  · exact Or.inl (e _ h)
  · exact Or.inr (Or.inl (e _ h))
  · exact Or.inr (Or.inr (Or.inl (e _ h)))
  · exact Or.inr (Or.inr (Or.inr (e _ h)))
theorem own_cat4 (b0 b1 b2 b3 b4 b5 b6 b7 j : Int32) (h0 : ¬ j < 0) (h1 : j < (4 : Int32)) : (((((((own_at ([b0, b1, b2, b3, b4, b5, b6, b7] : List Int32) ((j <<< ((1 : Int32) &&& 31)))) &&& (255 : Int32)) <<< ((0 : Int32) &&& 31))) ||| ((((own_at ([b0, b1, b2, b3, b4, b5, b6, b7] : List Int32) (((j <<< ((1 : Int32) &&& 31))) + (1 : Int32))) &&& (255 : Int32)) <<< ((8 : Int32) &&& 31))))).toUInt32.toUInt16.toUInt32.toInt32) = own_at (own_L4 b0 b1 b2 b3 b4 b5 b6 b7) j := by
  rcases own_lt4 h0 h1 with rfl | rfl | rfl | rfl <;> rfl
theorem own_shla4 {j : Int32} (h0 : ¬ j < 0) (h1 : j < (4 : Int32)) : ¬ ((j <<< ((1 : Int32) &&& 31))) < 0 ∧ ((j <<< ((1 : Int32) &&& 31))) < (8 : Int32) := by
  rcases own_lt4 h0 h1 with rfl | rfl | rfl | rfl <;> decide
theorem own_shlb4 {j : Int32} (h0 : ¬ j < 0) (h1 : j < (4 : Int32)) : ¬ (((j <<< ((1 : Int32) &&& 31))) + (1 : Int32)) < 0 ∧ (((j <<< ((1 : Int32) &&& 31))) + (1 : Int32)) < (8 : Int32) := by
  rcases own_lt4 h0 h1 with rfl | rfl | rfl | rfl <;> decide
theorem own_nar_nar (x : Int32) : nar .char (nar .char x) = nar .char x := own_nar_i2c x
def own_ix (ch : Int32) : List Int32 → Int32 → Int32
  | [], _ => -1
  | c :: r, i => if c = ch then i else own_ix ch r (i + 1)
def own_has (ch : Int32) : List Int32 → Int32
  | [] => 0
  | c :: r => if c = ch then 1 else own_has ch r
def own_sep (l : List Int32) : Int32 := if own_ix (59 : Int32) l (0 : Int32) < (0 : Int32) then 38 else if own_ix (38 : Int32) l (0 : Int32) < (0 : Int32) then 59 else 38
def own_exp (l : List Int32) : Int32 := if own_has (59 : Int32) l = (0 : Int32) then 38 else if own_has (38 : Int32) l = (0 : Int32) then 59 else 38
theorem own_ix_has (ch : Int32) : ∀ (l : List Int32) (i : Int32), 0 ≤ i.toInt → i.toInt + l.length < 1000 → (own_ix ch l i < (0 : Int32) ↔ own_has ch l = (0 : Int32))
  | [], i, _, _ => by simp only [own_ix, own_has]; decide
  | c :: r, i, h1, h2 => by
    have e0 : (0 : Int32).toInt = 0 := rfl
    have e1 : (1 : Int32).toInt = 1 := rfl
    simp only [List.length_cons] at h2
    by_cases h : c = ch
    · rw [own_ix, own_has, if_pos h, if_pos h, Int32.lt_iff_toInt_lt, e0]
      constructor
      · intro q; omega
      · intro q; exact absurd q (by decide)
    · rw [own_ix, own_has, if_neg h, if_neg h]
      have e : (i + 1).toInt = i.toInt + 1 := by rw [XT.add32 (by rw [e1]; constructor <;> omega), e1]
      exact own_ix_has ch r (i + 1) (by omega) (by omega)
theorem own_sep_exp {l : List Int32} (hl : l.length ≤ 900) : own_sep l = own_exp l := by
  have e0 : (0 : Int32).toInt = 0 := rfl
  have q := fun ch => own_ix_has ch l 0 (by rw [e0]; omega) (by rw [e0]; omega)
  simp only [own_sep, own_exp, q]
theorem own_lo8 {c ch : Int32} (hch : ch = 59 ∨ ch = 38) (h : ¬ c < 0 ∧ ¬ (255 : Int32) < c) : c.toInt8.toInt32 = ch ↔ c = ch := by
  have e0 : (0 : Int32).toInt = 0 := rfl
  have e1 : (255 : Int32).toInt = 255 := rfl
  have h1 := h.1
  have h2 := h.2
  rw [Int32.lt_iff_toInt_lt, e0] at h1
  rw [Int32.lt_iff_toInt_lt, e1] at h2
  have e : c = Int32.ofNat c.toInt.toNat := by
    apply Int32.toInt_inj.mp
    rw [Int32.toInt_ofNat_small (by omega)]; omega
  rw [e]
  rcases hch with rfl | rfl
  · exact (by decide +kernel : ∀ k : Fin 256, (Int32.ofNat k.val).toInt8.toInt32 = 59 ↔ Int32.ofNat k.val = 59) ⟨c.toInt.toNat, by omega⟩
  · exact (by decide +kernel : ∀ k : Fin 256, (Int32.ofNat k.val).toInt8.toInt32 = 38 ↔ Int32.ofNat k.val = 38) ⟨c.toInt.toNat, by omega⟩
theorem own_has_lat {ch : Int32} (hch : ch = 59 ∨ ch = 38) : ∀ (z : List Int32), (∀ c ∈ z, ¬ c < 0 ∧ ¬ (255 : Int32) < c) → own_has ch (z.map (fun c => c.toInt8.toInt32)) = own_has ch z
  | [], _ => rfl
  | c :: r, h => by
    simp only [List.map_cons, own_has, own_lo8 hch (h c (List.mem_cons_self ..)), own_has_lat hch r (fun x hx => h x (List.mem_cons_of_mem _ hx))]
theorem own_finL {z : List Int32} (h : ∀ c ∈ z, ¬ c < 0 ∧ ¬ (255 : Int32) < c) (hl : z.length ≤ 900) : own_sep (z.map (fun c => c.toInt8.toInt32)) = own_exp z := by
  rw [own_sep_exp (by rw [List.length_map]; exact hl)]
  simp only [own_exp, own_has_lat (Or.inl rfl) z h, own_has_lat (Or.inr rfl) z h]
theorem own_fin16 {l z : List Int32} (h : l = z) (hl : z.length ≤ 900) : own_sep l = own_exp z := by
  subst h; exact own_sep_exp hl
theorem own_rem5f (x : Int32) (h0 : ¬ ((x &&& (2147483647 : Int32)) % (5 : Int32)) = (0 : Int32)) (h1 : ¬ ((x &&& (2147483647 : Int32)) % (5 : Int32)) = (1 : Int32)) (h2 : ¬ ((x &&& (2147483647 : Int32)) % (5 : Int32)) = (2 : Int32)) (h3 : ¬ ((x &&& (2147483647 : Int32)) % (5 : Int32)) = (3 : Int32)) : ((x &&& (2147483647 : Int32)) % (5 : Int32)) = (4 : Int32) := by
  have g0 : ¬ (x &&& (2147483647 : Int32)) < 0 := fun h => absurd ((XT.and_neg32 _ _).mp h).2 (by decide)
  have g1 : 0 ≤ (x &&& (2147483647 : Int32)).toInt := by rw [XT.negI32] at g0; omega
  have e8 : (5 : Int32).toInt = 5 := rfl
  have a1 := Int.tmod_nonneg 5 g1
  have a2 := Int.tmod_lt_of_pos (x &&& (2147483647 : Int32)).toInt (b := 5) (by decide)
  have e : ((x &&& (2147483647 : Int32)) % (5 : Int32)).toInt = (x &&& (2147483647 : Int32)).toInt.tmod 5 := by rw [Int32.toInt_mod, e8]
  have ne : ∀ k : Int32, ¬ ((x &&& (2147483647 : Int32)) % (5 : Int32)) = k → ¬ ((x &&& (2147483647 : Int32)) % (5 : Int32)).toInt = k.toInt := fun k h q => h (Int32.toInt_inj.mp q)
  have b0 := ne _ h0; have b1 := ne _ h1; have b2 := ne _ h2; have b3 := ne _ h3
  have c0 : (0 : Int32).toInt = 0 := rfl
  have c1 : (1 : Int32).toInt = 1 := rfl
  have c2 : (2 : Int32).toInt = 2 := rfl
  have c3 : (3 : Int32).toInt = 3 := rfl
  have c4 : (4 : Int32).toInt = 4 := rfl
  apply Int32.toInt_inj.mp
  rw [c0] at b0; rw [c1] at b1; rw [c2] at b2; rw [c3] at b3
  rw [c4]; omega
theorem ef0 (m : MethodId) (x0 : Int32) (x1 : Int32) (x2 : Int32) (x3 : Int32) (x4 : Int32) : entryFrame m #[.int x0, .int x1, .int x2, .int x3, .int x4] maxLocals = mkF m 0 #[.val (.int x0), .val (.int x1), .val (.int x2), .val (.int x3), .val (.int x4), .unset, .unset, .unset, .unset, .unset, .unset, .unset, .unset, .unset] [] := by first | (simp [entryFrame, mkF, argsToLocals, Value.category, maxLocals]; done) | rfl
theorem pn0 : plainName "com/example/echoes_to_canon/echoestocanon/HttpUrlSeparatorPinLaw" = true := by first | (simp [plainName, overriddenIn]; done) | decide +kernel
theorem ef1 (m : MethodId) (x0 : Int32) : entryFrame m #[.int x0] 2 = mkF m 0 #[.val (.int x0), .unset] [] := by first | (simp [entryFrame, mkF, argsToLocals, Value.category]; done) | rfl
theorem d0_0 : decode method_2_code 0 = .ok (.iload_n 0, 1) := by decide +kernel
theorem d0_1 : decode method_2_code 1 = .ok (.iconst 3, 1) := by decide +kernel
theorem d0_2 : decode method_2_code 2 = .ok (.iand, 1) := by decide +kernel
theorem d0_3 : decode method_2_code 3 = .ok (.istore_n 1, 1) := by decide +kernel
theorem d0_4 : decode method_2_code 4 = .ok (.iload_n 1, 1) := by decide +kernel
theorem d0_5 : decode method_2_code 5 = .ok (.ifCond .ne 6, 3) := by decide +kernel
theorem d0_8 : decode method_2_code 8 = .ok (.bipush 59, 2) := by decide +kernel
theorem d0_10 : decode method_2_code 10 = .ok (.ireturn, 1) := by decide +kernel
theorem d0_11 : decode method_2_code 11 = .ok (.iload_n 1, 1) := by decide +kernel
theorem d0_12 : decode method_2_code 12 = .ok (.iconst 1, 1) := by decide +kernel
theorem d0_13 : decode method_2_code 13 = .ok (.if_icmp .ne 6, 3) := by decide +kernel
theorem d0_16 : decode method_2_code 16 = .ok (.bipush 38, 2) := by decide +kernel
theorem d0_18 : decode method_2_code 18 = .ok (.ireturn, 1) := by decide +kernel
theorem d0_19 : decode method_2_code 19 = .ok (.iload_n 0, 1) := by decide +kernel
theorem d0_20 : decode method_2_code 20 = .ok (.iconst 2, 1) := by decide +kernel
theorem d0_21 : decode method_2_code 21 = .ok (.iushr, 1) := by decide +kernel
theorem d0_22 : decode method_2_code 22 = .ok (.ldc 7, 2) := by decide +kernel
theorem d0_24 : decode method_2_code 24 = .ok (.iand, 1) := by decide +kernel
theorem d0_25 : decode method_2_code 25 = .ok (.i2c, 1) := by decide +kernel
theorem d0_26 : decode method_2_code 26 = .ok (.ireturn, 1) := by decide +kernel
-- com/example/echoes_to_canon/echoestocanon/HttpUrlSeparatorPinLaw.draw(I)C
def Q1 (Z : State)  (h0 : Heap) (n0 : Nat) (v : Option Value) (h : Heap) (L : List Loc) : Prop := ∃ z_ : Int32, v = some (.int z_) ∧ Fr n0 L ∧ h = h0 ∧ nar .char z_ = z_
theorem rm1 (l : Launch) (Z : State) (a0 : Array Value) (hw : HW a0 Z) (qi1 : Int32) (h0 : Heap) (n0 : Nat) (X00 : Old Z n0 h0)  :
    MF l Z Y0_ method_2_code 2 (some .char) (Rm 0 0 0 0) #[.int qi1] h0 (Q1 Z  h0 n0) := by
 refine own_sF pn0 rfl (fun m => ef1 m qi1) ?_
 intro p e s m below meth c s₁ Bd hZ hh hx hby hml hown hnm X0 e0 pre0
 have N0 := Fr.nil n0
 have pr1 : Pr p e below s₁ m 5 #[iv qi1, iv (qi1 &&& (3 : Int32))] [(.int (qi1 &&& (3 : Int32)))] s₁ (entryFrame m #[.int qi1] 2) := fun t k => pre0 t (by
  show Sx p e below s₁ m 0 #[iv qi1, .unset] [] _
  refine zj X0 Bd d0_0 rfl ?_
  refine zc X0 Bd d0_1 ?_
  refine XS.iand X0.here hx rfl (hb hby d0_2) rfl ?_
  refine zt X0 Bd d0_3 (l' := #[iv qi1, iv (qi1 &&& (3 : Int32))]) rfl ?_
  refine zj X0 Bd d0_4 rfl ?_
  exact k)
 by_cases hc2 : (qi1 &&& (3 : Int32)) = (0 : Int32)
 ·
  skip
  refine own_lvF X0 Bd (.int 59) e0 ⟨(59 : Int32), rfl, N0, rfl, (by decide)⟩ rfl (fun fs hr => pr1 _ (by
   show Sx p e below s₁ m 5 #[iv qi1, iv (qi1 &&& (3 : Int32))] [(.int (qi1 &&& (3 : Int32)))] _
   refine zo X0 Bd d0_5 (XT.i0_ne_f (hc2 : (qi1 &&& (3 : Int32)) = (0 : Int32))) ?_
   refine zd X0 Bd d0_8 ?_
   exact retN X0 hx (t := .char) Bd.returns (by simp) (hb hby d0_10) hr))
 ·
  skip
  have pr3 : Pr p e below s₁ m 13 #[iv qi1, iv (qi1 &&& (3 : Int32))] [.int 1, (.int (qi1 &&& (3 : Int32)))] s₁ (entryFrame m #[.int qi1] 2) := fun t k => pr1 t (by
   show Sx p e below s₁ m 5 #[iv qi1, iv (qi1 &&& (3 : Int32))] [(.int (qi1 &&& (3 : Int32)))] _
   refine zp (pc' := 11) X0 Bd d0_5 (XT.i0_ne_t (hc2 : ¬ ((qi1 &&& (3 : Int32)) = (0 : Int32)))) rfl ?_
   refine zj X0 Bd d0_11 rfl ?_
   refine zc X0 Bd d0_12 ?_
   exact k)
  by_cases hc4 : (qi1 &&& (3 : Int32)) = (1 : Int32)
  ·
   skip
   refine own_lvF X0 Bd (.int 38) e0 ⟨(38 : Int32), rfl, N0, rfl, (by decide)⟩ rfl (fun fs hr => pr3 _ (by
    show Sx p e below s₁ m 13 #[iv qi1, iv (qi1 &&& (3 : Int32))] [.int 1, (.int (qi1 &&& (3 : Int32)))] _
    refine zn X0 Bd d0_13 (XT.ii_ne_f (hc4 : (qi1 &&& (3 : Int32)) = (1 : Int32))) ?_
    refine zd X0 Bd d0_16 ?_
    exact retN X0 hx (t := .char) Bd.returns (by simp) (hb hby d0_18) hr))
  ·
   skip
   refine own_lvF X0 Bd (.int (nar .char ((((((qi1).toUInt32 >>> ((2 : Int32) &&& 31).toUInt32).toInt32) &&& (65535 : Int32))).toUInt32.toUInt16.toUInt32.toInt32))) e0 ⟨(nar .char ((((((qi1).toUInt32 >>> ((2 : Int32) &&& 31).toUInt32).toInt32) &&& (65535 : Int32))).toUInt32.toUInt16.toUInt32.toInt32)), rfl, N0, rfl, (own_nar_nar _)⟩ rfl (fun fs hr => pr3 _ (by
    show Sx p e below s₁ m 13 #[iv qi1, iv (qi1 &&& (3 : Int32))] [.int 1, (.int (qi1 &&& (3 : Int32)))] _
    refine zy (pc' := 19) X0 Bd d0_13 (XT.ii_ne_t (hc4 : ¬ ((qi1 &&& (3 : Int32)) = (1 : Int32)))) rfl ?_
    refine zj X0 Bd d0_19 rfl ?_
    refine zc X0 Bd d0_20 ?_
    refine XS.iushr X0.here hx rfl (hb hby d0_21) rfl ?_
    refine X0.ldcInt hx hown (mvT hZ (w5_ hw)) (g := (mkF m 22 #[iv qi1, iv (qi1 &&& (3 : Int32))] [(.int (((qi1).toUInt32 >>> ((2 : Int32) &&& 31).toUInt32).toInt32))])) rfl (hb hby d0_22) _ ?_
    refine XS.iand X0.here hx rfl (hb hby d0_24) rfl ?_
    refine XS.i2c X0.here hx rfl (hb hby d0_25) rfl ?_
    exact retN X0 hx (t := .char) Bd.returns (by simp) (hb hby d0_26) hr))
theorem pd0 : parseMethodDescriptor "(I)C" = some ⟨[.int], some .char⟩ := by decide +kernel
theorem ef2 (m : MethodId) (x0 : Addr) (x1 : Addr) : entryFrame m #[.ref x0, .ref x1] 2 = mkF m 0 #[.val (.ref x0), .val (.ref x1)] [] := by first | (simp [entryFrame, mkF, argsToLocals, Value.category]; done) | rfl
theorem pn1 : plainName "java/lang/String" = true := by first | (simp [plainName, overriddenIn]; done) | decide +kernel
theorem d1_0 : decode jdk_42_method_3_code 0 = .ok (.aload_n 0, 1) := by decide +kernel
theorem d1_1 : decode jdk_42_method_3_code 1 = .ok (.aload_n 1, 1) := by decide +kernel
theorem d1_2 : decode jdk_42_method_3_code 2 = .ok (.iconst 0, 1) := by decide +kernel
theorem d1_3 : decode jdk_42_method_3_code 3 = .ok (.aload_n 1, 1) := by decide +kernel
theorem d1_4 : decode jdk_42_method_3_code 4 = .ok (.arraylength, 1) := by decide +kernel
theorem d1_5 : decode jdk_42_method_3_code 5 = .ok (.aconst_null, 1) := by decide +kernel
theorem d1_6 : decode jdk_42_method_3_code 6 = .ok (.invokespecial 27, 3) := by decide +kernel
theorem ef3 (m : MethodId) (x0 : Addr) (x1 : Addr) (x2 : Int32) (x3 : Int32) : entryFrame m #[.ref x0, .ref x1, .int x2, .int x3, .null] 6 = mkF m 0 #[.val (.ref x0), .val (.ref x1), .val (.int x2), .val (.int x3), .val .null, .unset] [] := by first | (simp [entryFrame, mkF, argsToLocals, Value.category]; done) | rfl
theorem d2_0 : decode jdk_42_method_149_code 0 = .ok (.aload_n 0, 1) := by decide +kernel
theorem d2_1 : decode jdk_42_method_149_code 1 = .ok (.invokespecial 1, 3) := by decide +kernel
theorem d2_4 : decode jdk_42_method_149_code 4 = .ok (.iload_n 3, 1) := by decide +kernel
theorem d2_5 : decode jdk_42_method_149_code 5 = .ok (.ifCond .ne 22, 3) := by decide +kernel
theorem d2_8 : decode jdk_42_method_149_code 8 = .ok (.aload_n 0, 1) := by decide +kernel
theorem d2_9 : decode jdk_42_method_149_code 9 = .ok (.ldc 7, 2) := by decide +kernel
theorem d2_11 : decode jdk_42_method_149_code 11 = .ok (.getfield 9, 3) := by decide +kernel
theorem d2_14 : decode jdk_42_method_149_code 14 = .ok (.putfield 9, 3) := by decide +kernel
theorem d2_17 : decode jdk_42_method_149_code 17 = .ok (.aload_n 0, 1) := by decide +kernel
theorem d2_18 : decode jdk_42_method_149_code 18 = .ok (.ldc 7, 2) := by decide +kernel
theorem d2_20 : decode jdk_42_method_149_code 20 = .ok (.getfield 15, 3) := by decide +kernel
theorem d2_23 : decode jdk_42_method_149_code 23 = .ok (.putfield 15, 3) := by decide +kernel
theorem d2_26 : decode jdk_42_method_149_code 26 = .ok (.return_, 1) := by decide +kernel
-- java/lang/String.<init>([CIILjava/lang/Void;)V
def Q2 (Z : State) (qa1 : Addr) (h0 : Heap) (n0 : Nat) (v : Option Value) (h : Heap) (L : List Loc) : Prop := ∃ t2 : Addr, ∃ c2 : ClassId, v = none ∧ Fr n0 L ∧ Keep h0 h [qa1] ∧ Exa Z h qa1 "java/lang/String" ∧ Fld Z h qa1 "java/lang/String" "value" "[B" (.ref t2) ∧ Fld Z h qa1 "java/lang/String" "coder" "B" (.int 0) ∧ Arv Z h t2 c2 .byte (0 : Int32) [] (.int 0)
theorem rm2 (l : Launch) (Z : State) (a0 : Array Value) (hw : HW a0 Z) (qa1 : Addr) (qa2 : Addr) (h0 : Heap) (n0 : Nat) (X00 : Old Z n0 h0) (E_qa1 : Exa Z h0 qa1 "java/lang/String") (F_qa1_value : Fld Z h0 qa1 "java/lang/String" "value" "[B" .null) (g_qa1 : n0 ≤ qa1) (F_qa1_coder : Fld Z h0 qa1 "java/lang/String" "coder" "B" (.int 0)) :
    MW l Z consts_1 Y1_ jdk_42_method_149_code 6 none (Rm 1 4 8 12) #[.ref qa1, .ref qa2, .int 0, .int 0, .null] h0 (Q2 Z qa1 h0 n0) := by
 refine own_sW pn1 rfl (fun m => ef3 m qa1 qa2 (0 : Int32) (0 : Int32)) ?_
 intro p e s m below meth c s₁ Bd hZ hh hx hby hml hown hnm X0 e0 pre0 hC0 hS0 hk0 hR0
 have N0 := Fr.nil n0
 have hEL := own_EW hw
 have hwS := own_wS hw
 obtain ⟨T1, X1, e1, st1⟩ := initO X0 hx hZ hown (w17_ hw) (w18_ hw) (w19_ hw) e0 (g := (mkF m 1 #[rv qa1, rv qa2, iv 0, iv 0, .val .null, .unset] [.ref qa1])) rfl hml.symm rfl (hb hby d2_1) (by decide) (W := 0) (own_hw rfl) (lE rfl)
 obtain ⟨b2, T2, h2, k2, t2, c2, X2, e2, E2, hS2, hk2, hZ2, ho2, Ex2, Fc2, Fv2, Av2, lb2, lt2, CR2, -, sf2, st2⟩ := ldcCH (text := "") (EL := consts_1) X1 hx hZ hown (w20_ hw) hwS e1 hS0 hk0 hEL (by decide) hC0 (vs := []) (z := (0 : Int32)) ⟨by decide, by decide⟩ (by decide) (by decide) (g := (mkF m 9 #[rv qa1, rv qa2, iv 0, iv 0, .val .null, .unset] [.ref qa1])) rfl (hb hby d2_9) (n := 0) (by decide) (lE rfl) (lE rfl) (lE rfl)
 have K3 := (Keep.refl h0 [qa1]).ext E2
 have R5 := hR0.trans CR2
 replace X2 : Stand p l e (Rm 1 4 8 12) (s.setVm T2.vm) m #[.ref qa1, .ref qa2, .int 0, .int 0, .null] below meth c T2 _ 2 4 := X2
 obtain ⟨T6, X6, e6, st6⟩ := getF X2 hx hZ2 ho2 (host := "") (Or.inl (w26_ hw)) Via.refl e2 Fv2 (g := (mkF m 11 #[rv qa1, rv qa2, iv 0, iv 0, .val .null, .unset] [.ref b2, .ref qa1])) rfl rfl (hb hby d2_11)
 have F7_ := F_qa1_value.ext E2
 have E8_ := E_qa1.ext E2
 obtain ⟨T9, h9, X9, e9, W9, st9⟩ := putF X6 hx hZ2 ho2 (host := "") (Or.inl (w26_ hw)) Via.refl e6 F7_ E8_ (Or.inr ⟨(w22_ hw), rfl, hnm⟩) (w7_ hw) (ty := (.array .byte)) (by decide) rfl rfl (g := (mkF m 14 #[rv qa1, rv qa2, iv 0, iv 0, .val .null, .unset] [.ref t2, .ref qa1])) rfl rfl (hb hby d2_14)
 have N9 := Fr.snoc X9 N0 g_qa1
 have K10 := K3.wr W9 (Or.inl (mI 0 rfl))
 have f12 : Safe Z consts_1 T2.vm h2 qa1 := CR2.safe E_qa1.lt (own_safe_null hZ.alike E_qa1 F_qa1_value)
 have C11 : CHv Z consts_1 T2.vm h9 := CHv.wr W9 f12 CR2.1
 have R13 : CHr Z consts_1 s.vm h0 T2.vm h9 := R5.trans (CHr.wr W9 f12 CR2.1)
 have F14_ : Fld Z h9 qa1 "java/lang/String" "value" "[B" (.ref t2) := F7_.same W9
 have hk16' : _ ≤ h9.size := (Nat.le_trans hk2 (Nat.le_of_eq W9.size.symm))
 obtain ⟨b15, T15, h15, k15, t15, c15, X15, e15, E15, hS15, hk15, hZ15, ho15, Ex15, Fc15, Fv15, Av15, lb15, lt15, CR15, -, sf15, st15⟩ := ldcCH (text := "") (EL := consts_1) X9 hx hZ2 ho2 (w20_ hw) hwS e9 hS2 hk16' hEL (by decide) C11 (vs := []) (z := (0 : Int32)) ⟨by decide, by decide⟩ (by decide) (by decide) (g := (mkF m 18 #[rv qa1, rv qa2, iv 0, iv 0, .val .null, .unset] [.ref qa1])) rfl (hb hby d2_18) (n := 0) (by decide) (lE rfl) (lE rfl) (lE rfl)
 have K17 := K10.ext E15
 have R19 := R13.trans CR15
 replace X15 : Stand p l e (Rm 1 4 8 12) (s.setVm T15.vm) m #[.ref qa1, .ref qa2, .int 0, .int 0, .null] below meth c T15 _ 4 8 := X15
 obtain ⟨T20, X20, e20, st20⟩ := getF X15 hx hZ15 ho15 (host := "") (Or.inl (w27_ hw)) Via.refl e15 Fc15 (g := (mkF m 20 #[rv qa1, rv qa2, iv 0, iv 0, .val .null, .unset] [.ref b15, .ref qa1])) rfl rfl (hb hby d2_20)
 have F21_ := F_qa1_coder.ext E2
 have F22_ := F21_.other W9 (Or.inr (slot_ne (Or.inr (w23_ hw)) (Or.inr (w22_ hw)) (by decide) (t := .byte) (t' := (.array .byte)) (by decide) (by decide)))
 have F23_ := F22_.ext E15
 have E24_ := E8_.wr W9
 have E25_ := E24_.ext E15
 obtain ⟨T26, h26, X26, e26, W26, st26⟩ := putF X20 hx hZ15 ho15 (host := "") (Or.inl (w27_ hw)) Via.refl e20 F23_ E25_ (Or.inr ⟨(w23_ hw), rfl, hnm⟩) (w7_ hw) (ty := .byte) (by decide) rfl rfl (g := (mkF m 23 #[rv qa1, rv qa2, iv 0, iv 0, .val .null, .unset] [.int 0, .ref qa1])) rfl rfl (hb hby d2_23)
 have N26 := Fr.snoc X26 N9 g_qa1
 have K27 := K17.wr W26 (Or.inl (mI 0 rfl))
 have f29 : Safe Z consts_1 T2.vm h9 qa1 := Safe.wr W9 f12 CR2.1 f12
 have f30 : Safe Z consts_1 T15.vm h15 qa1 := CR15.safe (Nat.lt_of_lt_of_le E_qa1.lt (Nat.le_trans E2.1 (Nat.le_of_eq W9.size.symm))) f29
 have C28 : CHv Z consts_1 T15.vm h26 := CHv.wr W26 f30 CR15.1
 have R31 : CHr Z consts_1 s.vm h0 T15.vm h26 := R19.trans (CHr.wr W26 f30 CR15.1)
 have F32_ : Fld Z h26 qa1 "java/lang/String" "coder" "B" (.int 0) := F23_.same W26
 have E33_ := E25_.wr W26
 have F34_ := F14_.ext E15
 have F35_ := F34_.other W26 (Or.inr (slot_ne (Or.inr (w22_ hw)) (Or.inr (w23_ hw)) (by decide) (t := (.array .byte)) (t' := .byte) (by decide) (by decide)))
 have A36_ := Av2.other W9 (Ne.symm (sf2 qa1 f12).2)
 have A37_ := A36_.ext E15
 have A38_ := A37_.other W26 (Ne.symm (sf2 qa1 f12).2)
 have hk39' : _ ≤ h26.size := (Nat.le_trans hk15 (Nat.le_of_eq W26.size.symm))
 refine own_lvW X26 Bd.notSynchronized hS15 hk39' (v := none) (fun _ => rfl) e26 hh ⟨t2, c2, rfl, N26, K27, E33_, F35_, F32_, A38_⟩ (R31.trans (CHv.at X26 hZ15 hEL C28)) (lE rfl) (lE rfl) (fun fs hr => pre0 _ (by
  show Sx p e below s₁ m 0 #[rv qa1, rv qa2, iv 0, iv 0, .val .null, .unset] [] _
  refine zb X0 Bd d2_0 rfl rfl ?_
  refine st1 _ ?_
  refine zj X1 Bd d2_4 rfl ?_
  refine zo X1 Bd d2_5 (XT.i0_ne_f ((by decide) : (0 : Int32) = (0 : Int32))) ?_
  refine zb X1 Bd d2_8 rfl rfl ?_
  refine st2 _ ?_
  refine st6 _ ?_
  refine st9 _ ?_
  refine zb X9 Bd d2_17 rfl rfl ?_
  refine st15 _ ?_
  refine st20 _ ?_
  refine st26 _ ?_
  exact X26.returnOut hx Bd.returns (hb hby d2_26) hr))
theorem pd1 : parseMethodDescriptor "([CIILjava/lang/Void;)V" = some ⟨[(.array .char), .int, .int, (.object "java/lang/Void")], none⟩ := by decide +kernel
theorem d1_9 : decode jdk_42_method_3_code 9 = .ok (.return_, 1) := by decide +kernel
-- java/lang/String.<init>([C)V
def Q3 (Z : State) (qa1 : Addr) (h0 : Heap) (n0 : Nat) (v : Option Value) (h : Heap) (L : List Loc) : Prop := ∃ b3 : Addr, ∃ c4_ : ClassId, v = none ∧ Fr n0 L ∧ Keep h0 h [qa1] ∧ Exa Z h qa1 "java/lang/String" ∧ Fld Z h qa1 "java/lang/String" "value" "[B" (.ref b3) ∧ Fld Z h qa1 "java/lang/String" "coder" "B" (.int 0) ∧ Arv Z h b3 c4_ .byte (0 : Int32) [] (.int 0)
theorem rm3 (l : Launch) (Z : State) (a0 : Array Value) (hw : HW a0 Z) (qa1 : Addr) (qa2 : Addr) (qk3 : ClassId) (h0 : Heap) (n0 : Nat) (X00 : Old Z n0 h0) (A_qa2 : Arv Z h0 qa2 qk3 .char (0 : Int32) [] (.int 0)) (E_qa1 : Exa Z h0 qa1 "java/lang/String") (F_qa1_value : Fld Z h0 qa1 "java/lang/String" "value" "[B" .null) (g_qa1 : n0 ≤ qa1) (F_qa1_coder : Fld Z h0 qa1 "java/lang/String" "coder" "B" (.int 0)) :
    MW l Z consts_1 Y2_ jdk_42_method_3_code 2 none (Rm 2 4 8 29) #[.ref qa1, .ref qa2] h0 (Q3 Z qa1 h0 n0) := by
 refine own_sW pn1 rfl (fun m => ef2 m qa1 qa2) ?_
 intro p e s m below meth c s₁ Bd hZ hh hx hby hml hown hnm X0 e0 pre0 hC0 hS0 hk0 hR0
 have N0 := Fr.nil n0
 have hEL := own_EW hw
 have hwS := own_wS hw
 have av1 := A_qa2
 obtain ⟨cl1, Ar1, q1, S1, N1, H1, Gf1⟩ := av1
 obtain ⟨_, T2, L2, X2, hQ2, hS2, hZ2, ho2, CR2, st2⟩ := own_cbS 0 0 4 8 4 8 (X0.specialBackS hx (y := Y1_) rfl hown (mvT hZ (w13_ hw)) (mvT hZ (w14_ hw)) (mvT hZ (w16_ hw)) (by decide) (backOfSH (W := 0) (EL := consts_1) (s := s) (rm2 l Z a0 hw  qa1 qa2 h0 n0 X00 E_qa1 F_qa1_value g_qa1 F_qa1_coder) hZ (w16_ hw) (w8_ hw) (lE rfl) (lE rfl) hEL hC0) (g := (mkF m 6 #[rv qa1, rv qa2] [.null, .int 0, .int 0, .ref qa2, .ref qa1])) rfl hml.symm (Steps.refl _) (a := qa1) (argsL := [.ref qa2, .int 0, .int 0, .null]) (rest := []) (lenOf pd1 rfl) rfl (own_hw rfl) (hb hby d1_6) (fun _ _ => ⟨rfl, e0, (lE rfl : 0 + 4 ≤ _), (lE rfl : 0 + 8 ≤ _)⟩)) rfl rfl hS0 (by rw [e0]; exact hk0) hZ hown
 obtain ⟨b3, c4_, rfl, N2q, K2q, w5, w6, w7, w8⟩ := hQ2
 have N2 := Fr.app N0 N2q
 have hk2 : T2.heap.size ≤ T2.heap.size := Nat.le_refl _
 have K9 := (Keep.refl h0 [qa1]).trans K2q (allS (Or.inl (mI 0 rfl)) all0)
 have R11 := hR0.trans CR2
 have E12_ := E_qa1.keep K2q
 refine own_lvW X2 Bd.notSynchronized hS2 hk2 (v := none) (fun _ => rfl) rfl hh ⟨b3, c4_, rfl, N2, K9, E12_, w6, w7, w8⟩ (R11.trans (CHv.at X2 hZ2 hEL CR2.1)) (lE rfl) (lE rfl) (fun fs hr => pre0 _ (by
  show Sx p e below s₁ m 0 #[rv qa1, rv qa2] [] _
  refine zb X0 Bd d1_0 rfl rfl ?_
  refine zb X0 Bd d1_1 rfl rfl ?_
  refine zc X0 Bd d1_2 ?_
  refine zb X0 Bd d1_3 rfl rfl ?_
  refine X0.arraylength hx (by rw [e0]; exact Ar1.1) (State.isArrayOf_alike hZ.alike Ar1.2.1) (g := (mkF m 4 #[rv qa1, rv qa2] [.ref qa2, .int 0, .ref qa2, .ref qa1])) rfl rfl (hb hby d1_4) _ ?_
  rw [len_of S1 N1]
  refine XS.aconstNull X0.here hx rfl (hb hby d1_5) ?_
  refine st2.trans ?_
  exact X2.returnOut hx Bd.returns (hb hby d1_9) hr))
theorem pd2 : parseMethodDescriptor "([C)V" = some ⟨[(.array .char)], none⟩ := by decide +kernel
theorem ef4 (m : MethodId) (x0 : Addr) : entryFrame m #[.ref x0] 1 = mkF m 0 #[.val (.ref x0)] [] := by first | (simp [entryFrame, mkF, argsToLocals, Value.category]; done) | rfl
theorem pn2 : plainName "com/example/echoes_to_canon/echoestocanon/HttpUrl" = true := by first | (simp [plainName, overriddenIn]; done) | decide +kernel
theorem d3_0 : decode prog_2_method_30_code 0 = .ok (.aload_n 0, 1) := by decide +kernel
theorem d3_1 : decode prog_2_method_30_code 1 = .ok (.bipush 59, 2) := by decide +kernel
theorem d3_3 : decode prog_2_method_30_code 3 = .ok (.invokevirtual 271, 3) := by decide +kernel
theorem ef5 (m : MethodId) (x0 : Addr) (x1 : Int32) : entryFrame m #[.ref x0, .int x1] 2 = mkF m 0 #[.val (.ref x0), .val (.int x1)] [] := by first | (simp [entryFrame, mkF, argsToLocals, Value.category]; done) | rfl
theorem d4_0 : decode jdk_42_method_79_code 0 = .ok (.aload_n 0, 1) := by decide +kernel
theorem d4_1 : decode jdk_42_method_79_code 1 = .ok (.iload_n 1, 1) := by decide +kernel
theorem d4_2 : decode jdk_42_method_79_code 2 = .ok (.iconst 0, 1) := by decide +kernel
theorem d4_3 : decode jdk_42_method_79_code 3 = .ok (.invokevirtual 633, 3) := by decide +kernel
theorem ef6 (m : MethodId) (x0 : Addr) (x1 : Int32) (x2 : Int32) : entryFrame m #[.ref x0, .int x1, .int x2] 3 = mkF m 0 #[.val (.ref x0), .val (.int x1), .val (.int x2)] [] := by first | (simp [entryFrame, mkF, argsToLocals, Value.category]; done) | rfl
theorem d5_0 : decode jdk_42_method_80_code 0 = .ok (.aload_n 0, 1) := by decide +kernel
theorem d5_1 : decode jdk_42_method_80_code 1 = .ok (.invokevirtual 492, 3) := by decide +kernel
theorem d6_0 : decode jdk_42_method_154_code 0 = .ok (.getstatic 38, 3) := by decide +kernel
theorem d6_3 : decode jdk_42_method_154_code 3 = .ok (.ifCond .eq 14, 3) := by decide +kernel
theorem d6_6 : decode jdk_42_method_154_code 6 = .ok (.aload_n 0, 1) := by decide +kernel
theorem d6_7 : decode jdk_42_method_154_code 7 = .ok (.getfield 15, 3) := by decide +kernel
theorem d6_10 : decode jdk_42_method_154_code 10 = .ok (.ifCond .ne 7, 3) := by decide +kernel
theorem d6_13 : decode jdk_42_method_154_code 13 = .ok (.iconst 1, 1) := by decide +kernel
theorem d6_14 : decode jdk_42_method_154_code 14 = .ok (.goto 4, 3) := by decide +kernel
theorem d6_18 : decode jdk_42_method_154_code 18 = .ok (.ireturn, 1) := by decide +kernel
-- java/lang/String.isLatin1()Z
def Q4 (Z : State)  (h0 : Heap) (n0 : Nat) (v : Option Value) (h : Heap) (L : List Loc) : Prop := v = some (.int 1) ∧ Fr n0 L ∧ h = h0
theorem rm4 (l : Launch) (Z : State) (a0 : Array Value) (hw : HW a0 Z) (G1 : Int32) (qa1 : Addr) (h0 : Heap) (n0 : Nat) (X00 : Old Z n0 h0) (O2 : Sta Z Z.heap "java/lang/String" "COMPACT_STRINGS" "Z" (.int G1)) (P5 : ¬ (G1 = (0 : Int32))) (F_qa1_coder : Fld Z h0 qa1 "java/lang/String" "coder" "B" (.int 0)) :
    MF l Z Y3_ jdk_42_method_154_code 1 (some .boolean) (Rm 0 0 0 0) #[.ref qa1] h0 (Q4 Z  h0 n0) := by
 refine own_sF pn1 rfl (fun m => ef4 m qa1) ?_
 intro p e s m below meth c s₁ Bd hZ hh hx hby hml hown hnm X0 e0 pre0
 have N0 := Fr.nil n0
 obtain ⟨T1, X1, e1, st1⟩ := getS2 X0 hx hZ hown (host := "") (Or.inl (w47_ hw)) Via.refl e0 (O2.ext X00.2) (g := (mkF m 0 #[rv qa1] [])) rfl (hb hby d6_0)
 obtain ⟨T2, X2, e2, st2⟩ := getF X1 hx hZ hown (host := "") (Or.inl (w27_ hw)) Via.refl e1 F_qa1_coder (g := (mkF m 7 #[rv qa1] [.ref qa1])) rfl rfl (hb hby d6_7)
 refine own_lvF X2 Bd (.int 1) e2 ⟨rfl, N0, rfl⟩ rfl (fun fs hr => pre0 _ (by
  show Sx p e below s₁ m 0 #[rv qa1] [] _
  refine st1 _ ?_
  refine zo X1 Bd d6_3 (XT.i0_eq_f (P5 : ¬ (G1 = (0 : Int32)))) ?_
  refine zb X1 Bd d6_6 rfl rfl ?_
  refine st2 _ ?_
  refine zo X2 Bd d6_10 (XT.i0_ne_f ((by decide) : (0 : Int32) = (0 : Int32))) ?_
  refine zc X2 Bd d6_13 ?_
  refine zg (pc' := 18) X2 Bd d6_14 rfl ?_
  exact retN X2 hx (t := .boolean) Bd.returns (by simp) (hb hby d6_18) hr))
theorem pd3 : parseMethodDescriptor "()Z" = some ⟨[], some .boolean⟩ := by decide +kernel
theorem d5_4 : decode jdk_42_method_80_code 4 = .ok (.ifCond .eq 19, 3) := by decide +kernel
theorem d5_7 : decode jdk_42_method_80_code 7 = .ok (.aload_n 0, 1) := by decide +kernel
theorem d5_8 : decode jdk_42_method_80_code 8 = .ok (.getfield 9, 3) := by decide +kernel
theorem d5_11 : decode jdk_42_method_80_code 11 = .ok (.iload_n 1, 1) := by decide +kernel
theorem d5_12 : decode jdk_42_method_80_code 12 = .ok (.iload_n 2, 1) := by decide +kernel
theorem d5_13 : decode jdk_42_method_80_code 13 = .ok (.aload_n 0, 1) := by decide +kernel
theorem d5_14 : decode jdk_42_method_80_code 14 = .ok (.invokevirtual 505, 3) := by decide +kernel
theorem pd4 : parseMethodDescriptor "()I" = some ⟨[], some .int⟩ := by decide +kernel
theorem d5_17 : decode jdk_42_method_80_code 17 = .ok (.invokestatic 637, 3) := by decide +kernel
theorem ef7 (m : MethodId) (x0 : Addr) (x1 : Int32) (x2 : Int32) (x3 : Int32) : entryFrame m #[.ref x0, .int x1, .int x2, .int x3] 4 = mkF m 0 #[.val (.ref x0), .val (.int x1), .val (.int x2), .val (.int x3)] [] := by first | (simp [entryFrame, mkF, argsToLocals, Value.category]; done) | rfl
theorem pn3 : plainName "java/lang/StringLatin1" = true := by first | (simp [plainName, overriddenIn]; done) | decide +kernel
theorem d7_0 : decode jdk_43_method_22_code 0 = .ok (.iload_n 1, 1) := by decide +kernel
theorem d7_1 : decode jdk_43_method_22_code 1 = .ok (.invokestatic 88, 3) := by decide +kernel
theorem ef8 (m : MethodId) (x0 : Int32) : entryFrame m #[.int x0] 1 = mkF m 0 #[.val (.int x0)] [] := by first | (simp [entryFrame, mkF, argsToLocals, Value.category]; done) | rfl
theorem d8_0 : decode jdk_43_method_4_code 0 = .ok (.iload_n 0, 1) := by decide +kernel
theorem d8_1 : decode jdk_43_method_4_code 1 = .ok (.ifCond .lt 14, 3) := by decide +kernel
theorem d8_4 : decode jdk_43_method_4_code 4 = .ok (.iload_n 0, 1) := by decide +kernel
theorem d8_5 : decode jdk_43_method_4_code 5 = .ok (.sipush 255, 3) := by decide +kernel
theorem d8_8 : decode jdk_43_method_4_code 8 = .ok (.if_icmp .gt 7, 3) := by decide +kernel
theorem d8_11 : decode jdk_43_method_4_code 11 = .ok (.iconst 1, 1) := by decide +kernel
theorem d8_12 : decode jdk_43_method_4_code 12 = .ok (.goto 4, 3) := by decide +kernel
theorem d8_16 : decode jdk_43_method_4_code 16 = .ok (.ireturn, 1) := by decide +kernel
-- java/lang/StringLatin1.canEncode(I)Z
def Q5 (Z : State)  (h0 : Heap) (n0 : Nat) (v : Option Value) (h : Heap) (L : List Loc) : Prop := v = some (.int 1) ∧ Fr n0 L ∧ h = h0
theorem rm5 (l : Launch) (Z : State) (a0 : Array Value) (hw : HW a0 Z) (qi1 : Int32) (h0 : Heap) (n0 : Nat) (X00 : Old Z n0 h0) (hc1 : ¬ (qi1 < (0 : Int32))) (hc2 : ¬ ((255 : Int32) < qi1)) :
    MF l Z Y4_ jdk_43_method_4_code 1 (some .boolean) (Rm 0 0 0 0) #[.int qi1] h0 (Q5 Z  h0 n0) := by
 refine own_sF pn3 rfl (fun m => ef8 m qi1) ?_
 intro p e s m below meth c s₁ Bd hZ hh hx hby hml hown hnm X0 e0 pre0
 have N0 := Fr.nil n0
 refine own_lvF X0 Bd (.int 1) e0 ⟨rfl, N0, rfl⟩ rfl (fun fs hr => pre0 _ (by
  show Sx p e below s₁ m 0 #[iv qi1] [] _
  refine zj X0 Bd d8_0 rfl ?_
  refine zo X0 Bd d8_1 (XT.i0_lt_f (hc1 : ¬ (qi1 < (0 : Int32)))) ?_
  refine zj X0 Bd d8_4 rfl ?_
  refine XS.sipush X0.here hx rfl (hb hby d8_5) ?_
  refine zn X0 Bd d8_8 (XT.ii_gt_f (hc2 : ¬ ((255 : Int32) < qi1))) ?_
  refine zc X0 Bd d8_11 ?_
  refine zg (pc' := 16) X0 Bd d8_12 rfl ?_
  exact retN X0 hx (t := .boolean) Bd.returns (by simp) (hb hby d8_16) hr))
theorem pd5 : parseMethodDescriptor "(I)Z" = some ⟨[.int], some .boolean⟩ := by decide +kernel
theorem d7_4 : decode jdk_43_method_22_code 4 = .ok (.ifCond .ne 5, 3) := by decide +kernel
theorem d7_9 : decode jdk_43_method_22_code 9 = .ok (.iload_n 2, 1) := by decide +kernel
theorem d7_10 : decode jdk_43_method_22_code 10 = .ok (.iconst 0, 1) := by decide +kernel
theorem d7_11 : decode jdk_43_method_22_code 11 = .ok (.invokestatic 92, 3) := by decide +kernel
theorem ef9 (m : MethodId) (x0 : Int32) (x1 : Int32) : entryFrame m #[.int x0, .int x1] 2 = mkF m 0 #[.val (.int x0), .val (.int x1)] [] := by first | (simp [entryFrame, mkF, argsToLocals, Value.category]; done) | rfl
theorem d9_0 : decode jdk_29_method_65_code 0 = .ok (.iload_n 0, 1) := by decide +kernel
theorem d9_1 : decode jdk_29_method_65_code 1 = .ok (.iload_n 1, 1) := by decide +kernel
theorem d9_2 : decode jdk_29_method_65_code 2 = .ok (.if_icmp .lt 7, 3) := by decide +kernel
theorem d9_5 : decode jdk_29_method_65_code 5 = .ok (.iload_n 0, 1) := by decide +kernel
theorem d9_6 : decode jdk_29_method_65_code 6 = .ok (.goto 4, 3) := by decide +kernel
theorem d9_10 : decode jdk_29_method_65_code 10 = .ok (.ireturn, 1) := by decide +kernel
-- java/lang/Math.max(II)I
def Q6 (Z : State)  (h0 : Heap) (n0 : Nat) (v : Option Value) (h : Heap) (L : List Loc) : Prop := v = some (.int 0) ∧ Fr n0 L ∧ h = h0
theorem rm6 (l : Launch) (Z : State) (a0 : Array Value) (hw : HW a0 Z)  (h0 : Heap) (n0 : Nat) (X00 : Old Z n0 h0)  :
    MF l Z Y5_ jdk_29_method_65_code 2 (some .int) (Rm 0 0 0 0) #[.int 0, .int 0] h0 (Q6 Z  h0 n0) := by
 refine own_sFm (K := "java/lang/Math") (by decide +kernel) rfl (fun m => ef9 m (0 : Int32) (0 : Int32)) ?_
 intro p e s m below meth c s₁ Bd hZ hh hx hby hml hown hnm X0 e0 pre0
 have N0 := Fr.nil n0
 refine own_lvF X0 Bd (.int 0) e0 ⟨rfl, N0, rfl⟩ rfl (fun fs hr => pre0 _ (by
  show Sx p e below s₁ m 0 #[iv 0, iv 0] [] _
  refine zj X0 Bd d9_0 rfl ?_
  refine zj X0 Bd d9_1 rfl ?_
  refine zn X0 Bd d9_2 (XT.ii_lt_f ((by decide) : ¬ ((0 : Int32) < (0 : Int32)))) ?_
  refine zj X0 Bd d9_5 rfl ?_
  refine zg (pc' := 10) X0 Bd d9_6 rfl ?_
  exact retI X0 hx Bd.returns (hb hby d9_10) hr))
theorem pd6 : parseMethodDescriptor "(II)I" = some ⟨[.int, .int], some .int⟩ := by decide +kernel
theorem d7_14 : decode jdk_43_method_22_code 14 = .ok (.istore_n 2, 1) := by decide +kernel
theorem d7_15 : decode jdk_43_method_22_code 15 = .ok (.iload_n 3, 1) := by decide +kernel
theorem d7_16 : decode jdk_43_method_22_code 16 = .ok (.aload_n 0, 1) := by decide +kernel
theorem d7_17 : decode jdk_43_method_22_code 17 = .ok (.arraylength, 1) := by decide +kernel
theorem d7_18 : decode jdk_43_method_22_code 18 = .ok (.invokestatic 38, 3) := by decide +kernel
theorem d10_0 : decode jdk_29_method_69_code 0 = .ok (.iload_n 0, 1) := by decide +kernel
theorem d10_1 : decode jdk_29_method_69_code 1 = .ok (.iload_n 1, 1) := by decide +kernel
theorem d10_2 : decode jdk_29_method_69_code 2 = .ok (.if_icmp .gt 7, 3) := by decide +kernel
theorem d10_5 : decode jdk_29_method_69_code 5 = .ok (.iload_n 0, 1) := by decide +kernel
theorem d10_6 : decode jdk_29_method_69_code 6 = .ok (.goto 4, 3) := by decide +kernel
theorem d10_10 : decode jdk_29_method_69_code 10 = .ok (.ireturn, 1) := by decide +kernel
-- java/lang/Math.min(II)I
def Q7 (Z : State)  (h0 : Heap) (n0 : Nat) (v : Option Value) (h : Heap) (L : List Loc) : Prop := v = some (.int 0) ∧ Fr n0 L ∧ h = h0
theorem rm7 (l : Launch) (Z : State) (a0 : Array Value) (hw : HW a0 Z)  (h0 : Heap) (n0 : Nat) (X00 : Old Z n0 h0)  :
    MF l Z Y6_ jdk_29_method_69_code 2 (some .int) (Rm 0 0 0 0) #[.int 0, .int 0] h0 (Q7 Z  h0 n0) := by
 refine own_sFm (K := "java/lang/Math") (by decide +kernel) rfl (fun m => ef9 m (0 : Int32) (0 : Int32)) ?_
 intro p e s m below meth c s₁ Bd hZ hh hx hby hml hown hnm X0 e0 pre0
 have N0 := Fr.nil n0
 refine own_lvF X0 Bd (.int 0) e0 ⟨rfl, N0, rfl⟩ rfl (fun fs hr => pre0 _ (by
  show Sx p e below s₁ m 0 #[iv 0, iv 0] [] _
  refine zj X0 Bd d10_0 rfl ?_
  refine zj X0 Bd d10_1 rfl ?_
  refine zn X0 Bd d10_2 (XT.ii_gt_f ((by decide) : ¬ ((0 : Int32) < (0 : Int32)))) ?_
  refine zj X0 Bd d10_5 rfl ?_
  refine zg (pc' := 10) X0 Bd d10_6 rfl ?_
  exact retI X0 hx Bd.returns (hb hby d10_10) hr))
theorem d7_21 : decode jdk_43_method_22_code 21 = .ok (.istore_n 3, 1) := by decide +kernel
theorem d7_22 : decode jdk_43_method_22_code 22 = .ok (.iload_n 2, 1) := by decide +kernel
theorem d7_23 : decode jdk_43_method_22_code 23 = .ok (.iload_n 3, 1) := by decide +kernel
theorem d7_24 : decode jdk_43_method_22_code 24 = .ok (.if_icmp .lt 5, 3) := by decide +kernel
theorem d7_27 : decode jdk_43_method_22_code 27 = .ok (.iconst (-1), 1) := by decide +kernel
theorem d7_28 : decode jdk_43_method_22_code 28 = .ok (.ireturn, 1) := by decide +kernel
-- java/lang/StringLatin1.indexOf([BIII)I
def Q8 (Z : State)  (h0 : Heap) (n0 : Nat) (v : Option Value) (h : Heap) (L : List Loc) : Prop := v = some (.int (-1 : Int32)) ∧ Fr n0 L ∧ h = h0
theorem rm8 (l : Launch) (Z : State) (a0 : Array Value) (hw : HW a0 Z) (qa1 : Addr) (qi2 : Int32) (qk3 : ClassId) (h0 : Heap) (n0 : Nat) (X00 : Old Z n0 h0) (hc2 : ¬ (qi2 < (0 : Int32))) (hc3 : ¬ ((255 : Int32) < qi2)) (A_qa1 : Arv Z h0 qa1 qk3 .byte (0 : Int32) [] (.int 0)) :
    MF l Z Y7_ jdk_43_method_22_code 4 (some .int) (Rm 1 0 0 13) #[.ref qa1, .int qi2, .int 0, .int 0] h0 (Q8 Z  h0 n0) := by
 refine own_sF pn3 rfl (fun m => ef7 m qa1 qi2 (0 : Int32) (0 : Int32)) ?_
 intro p e s m below meth c s₁ Bd hZ hh hx hby hml hown hnm X0 e0 pre0
 have N0 := Fr.nil n0
 obtain ⟨_, T1, L1, X1, hQ1, st1⟩ := own_cS 0 0 [] 1 #[rv qa1, iv qi2, iv 0, iv 0] X0 hx hZ hown (w62_ hw) (w63_ hw) (w60_ hw) (w64_ hw) (rm5 l Z a0 hw  qi2 h0 n0 X00 hc2 hc3) pd5 hml.symm (hb hby d7_1) e0 rfl rfl rfl rfl (by decide)
 obtain ⟨rfl, N1q, e1q⟩ := hQ1
 have N1 := Fr.app N0 N1q
 obtain ⟨_, T4, L4, X4, hQ4, st4⟩ := own_cS 0 0 [] 11 #[rv qa1, iv qi2, iv 0, iv 0] X1 hx hZ hown (w65_ hw) (w66_ hw) (w67_ hw) (w68_ hw) (rm6 l Z a0 hw   h0 n0 X00 ) pd6 hml.symm (hb hby d7_11) e1q rfl rfl rfl rfl (by decide)
 obtain ⟨rfl, N4q, e4q⟩ := hQ4
 have N4 := Fr.app N1 N4q
 have av5 := A_qa1
 obtain ⟨cl5, Ar5, q5, S5, N5, H5, Gf5⟩ := av5
 obtain ⟨_, T6, L6, X6, hQ6, st6⟩ := own_cS 0 0 [] 18 #[rv qa1, iv qi2, iv 0, iv 0] X4 hx hZ hown (w69_ hw) (w70_ hw) (w67_ hw) (w71_ hw) (rm7 l Z a0 hw   h0 n0 X00 ) pd6 hml.symm (hb hby d7_18) e4q rfl rfl rfl rfl (by decide)
 obtain ⟨rfl, N6q, e6q⟩ := hQ6
 have N6 := Fr.app N4 N6q
 refine own_lvF X6 Bd (.int (-1 : Int32)) e6q ⟨rfl, N6, rfl⟩ rfl (fun fs hr => pre0 _ (by
  show Sx p e below s₁ m 0 #[rv qa1, iv qi2, iv 0, iv 0] [] _
  refine zj X0 Bd d7_0 rfl ?_
  refine st1 _ ?_
  refine zp (pc' := 9) X1 Bd d7_4 (XT.i0_ne_t ((by decide) : ¬ ((1 : Int32) = (0 : Int32)))) rfl ?_
  refine zj X1 Bd d7_9 rfl ?_
  refine zc X1 Bd d7_10 ?_
  refine st4 _ ?_
  refine zt X4 Bd d7_14 (l' := #[rv qa1, iv qi2, iv 0, iv 0]) rfl ?_
  refine zj X4 Bd d7_15 rfl ?_
  refine zb X4 Bd d7_16 rfl rfl ?_
  refine X4.arraylength hx (by rw [e4q]; exact Ar5.1) (State.isArrayOf_alike hZ.alike Ar5.2.1) (g := (mkF m 17 #[rv qa1, iv qi2, iv 0, iv 0] [.ref qa1, .int 0])) rfl rfl (hb hby d7_17) _ ?_
  rw [len_of S5 N5]
  refine st6 _ ?_
  refine zt X6 Bd d7_21 (l' := #[rv qa1, iv qi2, iv 0, iv 0]) rfl ?_
  refine zj X6 Bd d7_22 rfl ?_
  refine zj X6 Bd d7_23 rfl ?_
  refine zn X6 Bd d7_24 (XT.ii_lt_f ((by decide) : ¬ ((0 : Int32) < (0 : Int32)))) ?_
  refine zc X6 Bd d7_27 ?_
  exact retI X6 hx Bd.returns (hb hby d7_28) hr))
theorem pd7 : parseMethodDescriptor "([BIII)I" = some ⟨[(.array .byte), .int, .int, .int], some .int⟩ := by decide +kernel
theorem d5_20 : decode jdk_42_method_80_code 20 = .ok (.goto 16, 3) := by decide +kernel
theorem d5_36 : decode jdk_42_method_80_code 36 = .ok (.ireturn, 1) := by decide +kernel
-- java/lang/String.indexOf(II)I
def Q9 (Z : State)  (h0 : Heap) (n0 : Nat) (v : Option Value) (h : Heap) (L : List Loc) : Prop := v = some (.int (-1 : Int32)) ∧ Fr n0 L ∧ h = h0
theorem rm9 (l : Launch) (Z : State) (a0 : Array Value) (hw : HW a0 Z) (G1 : Int32) (qa1 : Addr) (qi2 : Int32) (qa3 : Addr) (qk4 : ClassId) (h0 : Heap) (n0 : Nat) (X00 : Old Z n0 h0) (O2 : Sta Z Z.heap "java/lang/String" "COMPACT_STRINGS" "Z" (.int G1)) (P5 : ¬ (G1 = (0 : Int32))) (E_qa1 : Exa Z h0 qa1 "java/lang/String") (F_qa1_coder : Fld Z h0 qa1 "java/lang/String" "coder" "B" (.int 0)) (F_qa1_value : Fld Z h0 qa1 "java/lang/String" "value" "[B" (.ref qa3)) (A_qa3 : Arv Z h0 qa3 qk4 .byte (0 : Int32) [] (.int 0)) (hc7 : ¬ (qi2 < (0 : Int32))) (hc8 : ¬ ((255 : Int32) < qi2)) :
    MF l Z Y8_ jdk_42_method_80_code 3 (some .int) (Rm 2 0 0 28) #[.ref qa1, .int qi2, .int 0] h0 (Q9 Z  h0 n0) := by
 refine own_sF pn1 rfl (fun m => ef6 m qa1 qi2 (0 : Int32)) ?_
 intro p e s m below meth c s₁ Bd hZ hh hx hby hml hown hnm X0 e0 pre0
 have N0 := Fr.nil n0
 obtain ⟨_, T1, L1, X1, hQ1, st1⟩ := own_cV 0 0 [] 1 #[rv qa1, iv qi2, iv 0] X0 hx hZ hown E_qa1 (w42_ hw) (w43_ hw) (notFace_of_selects (args := #[]) (mvT hZ (w45_ hw))) (w45_ hw) (w44_ hw) (w8_ hw) (w46_ hw) (rm4 l Z a0 hw G1 qa1 h0 n0 X00 O2 P5 F_qa1_coder) pd3 hml.symm (hb hby d5_1) e0 rfl rfl rfl rfl (by decide)
 obtain ⟨rfl, N1q, e1q⟩ := hQ1
 have N1 := Fr.app N0 N1q
 obtain ⟨T2, X2, e2, st2⟩ := getF X1 hx hZ hown (host := "") (Or.inl (w26_ hw)) Via.refl e1q F_qa1_value (g := (mkF m 8 #[rv qa1, iv qi2, iv 0] [.ref qa1])) rfl rfl (hb hby d5_8)
 have hp4 : ∀ c ∈ ([] : List Int32), ¬ c < 0 ∧ ¬ (255 : Int32) < c := (fun _ q => nomatch q)
 have hcd5 : StrChars.Road.CodA ([] : List Int32) 0 (0 : Int32) [] := StrChars.Road.codOf (n := 0) rfl (fun x hx => (hp4 x hx).2)
 have hbd5 : ∀ x ∈ ([] : List Int32), ¬ x < 0 ∧ ¬ (65535 : Int32) < x := own_up _ hp4
 obtain ⟨cq3, kq3, q3a, q3b, q3c⟩ := isOf hZ e2 E_qa1
 obtain ⟨_, T3, L3, X3, hQ3, st3⟩ := own_cb0 0 0 0 0 0 0 (X2.virtualBack hx (y := Y9_) (z := Y9_) hown (mvT hZ (w48_ hw)) (mvT hZ (w49_ hw)) (notFace_of_selects (args := #[]) (mvT hZ (w51_ hw))) (mvT hZ (w51_ hw)) (mvT hZ (w50_ hw)) (by decide) (StrChars.Road.lenW (W := 3) hZ (own_wl hw) (kI := 4) (w7_ hw) E_qa1 F_qa1_value F_qa1_coder A_qa3 hcd5 hbd5 (O2.ext X00.2) P5 (lE rfl) (lE rfl) (lE rfl)) q3a q3c (g := (mkF m 14 #[rv qa1, iv qi2, iv 0] [.ref qa1, .int 0, .int qi2, .ref qa3])) rfl hml.symm (Steps.refl _) (argsL := []) (rest := [.int 0, .int qi2, .ref qa3]) (lenOf pd4 rfl) rfl (own_hw rfl) (hb hby d5_14) (fun _ _ => ⟨rfl, e2, (lE rfl : 0 + 0 ≤ _), (lE rfl : 0 + 0 ≤ _)⟩)) rfl rfl
 dsimp only [Pt.U, Pt.locs, Pt.cells, Pt.slots] at hQ3
 obtain ⟨rfl, rfl, e3q⟩ := hQ3
 have N3 := Fr.app N1 (Fr.nil n0)
 obtain ⟨_, T6, L6, X6, hQ6, st6⟩ := own_cS 0 0 [] 17 #[rv qa1, iv qi2, iv 0] X3 hx hZ hown (w58_ hw) (w59_ hw) (w60_ hw) (w61_ hw) (rm8 l Z a0 hw  qa3 qi2 qk4 h0 n0 X00 hc7 hc8 A_qa3) pd7 hml.symm (hb hby d5_17) e3q rfl rfl rfl rfl (by decide)
 obtain ⟨rfl, N6q, e6q⟩ := hQ6
 have N6 := Fr.app N3 N6q
 refine own_lvF X6 Bd (.int (-1 : Int32)) e6q ⟨rfl, N6, rfl⟩ rfl (fun fs hr => pre0 _ (by
  show Sx p e below s₁ m 0 #[rv qa1, iv qi2, iv 0] [] _
  refine zb X0 Bd d5_0 rfl rfl ?_
  refine st1 _ ?_
  refine zo X1 Bd d5_4 (XT.i0_eq_f ((by decide) : ¬ ((1 : Int32) = (0 : Int32)))) ?_
  refine zb X1 Bd d5_7 rfl rfl ?_
  refine st2 _ ?_
  refine zj X2 Bd d5_11 rfl ?_
  refine zj X2 Bd d5_12 rfl ?_
  refine zb X2 Bd d5_13 rfl rfl ?_
  refine st3.trans ?_
  refine st6 _ ?_
  refine zg (pc' := 36) X6 Bd d5_20 rfl ?_
  exact retI X6 hx Bd.returns (hb hby d5_36) hr))
theorem d4_6 : decode jdk_42_method_79_code 6 = .ok (.ireturn, 1) := by decide +kernel
-- java/lang/String.indexOf(I)I
def Q10 (Z : State)  (h0 : Heap) (n0 : Nat) (v : Option Value) (h : Heap) (L : List Loc) : Prop := v = some (.int (-1 : Int32)) ∧ Fr n0 L ∧ h = h0
theorem rm10 (l : Launch) (Z : State) (a0 : Array Value) (hw : HW a0 Z) (G1 : Int32) (qa1 : Addr) (qi2 : Int32) (qa3 : Addr) (qk4 : ClassId) (h0 : Heap) (n0 : Nat) (X00 : Old Z n0 h0) (O2 : Sta Z Z.heap "java/lang/String" "COMPACT_STRINGS" "Z" (.int G1)) (P5 : ¬ (G1 = (0 : Int32))) (E_qa1 : Exa Z h0 qa1 "java/lang/String") (F_qa1_coder : Fld Z h0 qa1 "java/lang/String" "coder" "B" (.int 0)) (F_qa1_value : Fld Z h0 qa1 "java/lang/String" "value" "[B" (.ref qa3)) (A_qa3 : Arv Z h0 qa3 qk4 .byte (0 : Int32) [] (.int 0)) (hc3 : ¬ (qi2 < (0 : Int32))) (hc4 : ¬ ((255 : Int32) < qi2)) :
    MF l Z Y10_ jdk_42_method_79_code 2 (some .int) (Rm 3 0 0 42) #[.ref qa1, .int qi2] h0 (Q10 Z  h0 n0) := by
 refine own_sF pn1 rfl (fun m => ef5 m qa1 qi2) ?_
 intro p e s m below meth c s₁ Bd hZ hh hx hby hml hown hnm X0 e0 pre0
 have N0 := Fr.nil n0
 have hp2 : ∀ c ∈ ([] : List Int32), ¬ c < 0 ∧ ¬ (255 : Int32) < c := (fun _ q => nomatch q)
 obtain ⟨_, T1, L1, X1, hQ1, st1⟩ := own_cV 0 0 [] 3 #[rv qa1, iv qi2] X0 hx hZ hown E_qa1 (w37_ hw) (w38_ hw) (notFace_of_selects (args := #[]) (mvT hZ (w40_ hw))) (w40_ hw) (w39_ hw) (w8_ hw) (w41_ hw) (rm9 l Z a0 hw G1 qa1 qi2 qa3 qk4 h0 n0 X00 O2 P5 E_qa1 F_qa1_coder F_qa1_value A_qa3 hc3 hc4) pd6 hml.symm (hb hby d4_3) e0 rfl rfl rfl rfl (by decide)
 obtain ⟨rfl, N1q, e1q⟩ := hQ1
 have N1 := Fr.app N0 N1q
 refine own_lvF X1 Bd (.int (-1 : Int32)) e1q ⟨rfl, N1, rfl⟩ rfl (fun fs hr => pre0 _ (by
  show Sx p e below s₁ m 0 #[rv qa1, iv qi2] [] _
  refine zb X0 Bd d4_0 rfl rfl ?_
  refine zj X0 Bd d4_1 rfl ?_
  refine zc X0 Bd d4_2 ?_
  refine st1 _ ?_
  exact retI X1 hx Bd.returns (hb hby d4_6) hr))
theorem pd8 : parseMethodDescriptor "(I)I" = some ⟨[.int], some .int⟩ := by decide +kernel
theorem d3_6 : decode prog_2_method_30_code 6 = .ok (.ifCond .lt 17, 3) := by decide +kernel
theorem d3_23 : decode prog_2_method_30_code 23 = .ok (.bipush 38, 2) := by decide +kernel
theorem d3_25 : decode prog_2_method_30_code 25 = .ok (.ireturn, 1) := by decide +kernel
-- com/example/echoes_to_canon/echoestocanon/HttpUrl.separator(Ljava/lang/String;)C
def Q11 (Z : State)  (h0 : Heap) (n0 : Nat) (v : Option Value) (h : Heap) (L : List Loc) : Prop := v = some (.int (own_sep ([] : List Int32))) ∧ Fr n0 L ∧ h = h0
theorem rm11 (l : Launch) (Z : State) (a0 : Array Value) (hw : HW a0 Z) (G1 : Int32) (qa1 : Addr) (qa2 : Addr) (qk3 : ClassId) (h0 : Heap) (n0 : Nat) (X00 : Old Z n0 h0) (O2 : Sta Z Z.heap "java/lang/String" "COMPACT_STRINGS" "Z" (.int G1)) (P5 : ¬ (G1 = (0 : Int32))) (E_qa1 : Exa Z h0 qa1 "java/lang/String") (F_qa1_coder : Fld Z h0 qa1 "java/lang/String" "coder" "B" (.int 0)) (F_qa1_value : Fld Z h0 qa1 "java/lang/String" "value" "[B" (.ref qa2)) (A_qa2 : Arv Z h0 qa2 qk3 .byte (0 : Int32) [] (.int 0)) :
    MF l Z Y11_ prog_2_method_30_code 1 (some .char) (Rm 4 0 0 55) #[.ref qa1] h0 (Q11 Z  h0 n0) := by
 refine own_sF pn2 rfl (fun m => ef4 m qa1) ?_
 intro p e s m below meth c s₁ Bd hZ hh hx hby hml hown hnm X0 e0 pre0
 have N0 := Fr.nil n0
 have hp2 : ∀ c ∈ ([] : List Int32), ¬ c < 0 ∧ ¬ (255 : Int32) < c := (fun _ q => nomatch q)
 obtain ⟨_, T1, L1, X1, hQ1, st1⟩ := own_cV 0 0 [] 3 #[rv qa1] X0 hx hZ hown E_qa1 (w32_ hw) (w33_ hw) (notFace_of_selects (args := #[]) (mvT hZ (w35_ hw))) (w35_ hw) (w34_ hw) (w8_ hw) (w36_ hw) (rm10 l Z a0 hw G1 qa1 (59 : Int32) qa2 qk3 h0 n0 X00 O2 P5 E_qa1 F_qa1_coder F_qa1_value A_qa2 (by decide) (by decide)) pd8 hml.symm (hb hby d3_3) e0 rfl rfl rfl rfl (by decide)
 obtain ⟨rfl, N1q, e1q⟩ := hQ1
 have N1 := Fr.app N0 N1q
 refine own_lvF X1 Bd (.int 38) e1q ⟨(by rw [own_sep] <;> rfl), N1, rfl⟩ rfl (fun fs hr => pre0 _ (by
  show Sx p e below s₁ m 0 #[rv qa1] [] _
  refine zb X0 Bd d3_0 rfl rfl ?_
  refine zd X0 Bd d3_1 ?_
  refine st1 _ ?_
  refine zp (pc' := 23) X1 Bd d3_6 (XT.i0_lt_t ((by decide) : (-1 : Int32) < (0 : Int32))) rfl ?_
  refine zd X1 Bd d3_23 ?_
  exact retN X1 hx (t := .char) Bd.returns (by simp) (hb hby d3_25) hr))
theorem pd9 : parseMethodDescriptor "(Ljava/lang/String;)C" = some ⟨[(.object "java/lang/String")], some .char⟩ := by decide +kernel
theorem d2_27 : decode jdk_42_method_149_code 27 = .ok (.getstatic 38, 3) := by decide +kernel
theorem d2_30 : decode jdk_42_method_149_code 30 = .ok (.ifCond .eq 28, 3) := by decide +kernel
theorem d2_33 : decode jdk_42_method_149_code 33 = .ok (.aload_n 1, 1) := by decide +kernel
theorem d2_34 : decode jdk_42_method_149_code 34 = .ok (.iload_n 2, 1) := by decide +kernel
theorem d2_35 : decode jdk_42_method_149_code 35 = .ok (.iload_n 3, 1) := by decide +kernel
theorem d2_36 : decode jdk_42_method_149_code 36 = .ok (.invokestatic 177, 3) := by decide +kernel
theorem ef10 (m : MethodId) (x0 : Addr) (x1 : Int32) (x2 : Int32) : entryFrame m #[.ref x0, .int x1, .int x2] 6 = mkF m 0 #[.val (.ref x0), .val (.int x1), .val (.int x2), .unset, .unset, .unset] [] := by first | (simp [entryFrame, mkF, argsToLocals, Value.category]; done) | rfl
theorem pn4 : plainName "java/lang/StringUTF16" = true := by first | (simp [plainName, overriddenIn]; done) | decide +kernel
theorem d11_0 : decode jdk_52_method_16_code 0 = .ok (.iload_n 2, 1) := by decide +kernel
theorem d11_1 : decode jdk_52_method_16_code 1 = .ok (.newarray .byte, 2) := by decide +kernel
theorem d11_3 : decode jdk_52_method_16_code 3 = .ok (.astore_n 3, 1) := by decide +kernel
theorem d11_4 : decode jdk_52_method_16_code 4 = .ok (.aload_n 0, 1) := by decide +kernel
theorem d11_5 : decode jdk_52_method_16_code 5 = .ok (.iload_n 1, 1) := by decide +kernel
theorem d11_6 : decode jdk_52_method_16_code 6 = .ok (.aload_n 3, 1) := by decide +kernel
theorem d11_7 : decode jdk_52_method_16_code 7 = .ok (.iconst 0, 1) := by decide +kernel
theorem d11_8 : decode jdk_52_method_16_code 8 = .ok (.iload_n 2, 1) := by decide +kernel
theorem d11_9 : decode jdk_52_method_16_code 9 = .ok (.invokestatic 115, 3) := by decide +kernel
theorem ef11 (m : MethodId) (x0 : Addr) (x1 : Int32) (x2 : Addr) (x3 : Int32) (x4 : Int32) : entryFrame m #[.ref x0, .int x1, .ref x2, .int x3, .int x4] 7 = mkF m 0 #[.val (.ref x0), .val (.int x1), .val (.ref x2), .val (.int x3), .val (.int x4), .unset, .unset] [] := by first | (simp [entryFrame, mkF, argsToLocals, Value.category]; done) | rfl
theorem d12_0 : decode jdk_52_method_21_code 0 = .ok (.iconst 0, 1) := by decide +kernel
theorem d12_1 : decode jdk_52_method_21_code 1 = .ok (.istore 5, 2) := by decide +kernel
theorem d12_3 : decode jdk_52_method_21_code 3 = .ok (.iload 5, 2) := by decide +kernel
theorem d12_5 : decode jdk_52_method_21_code 5 = .ok (.iload 4, 2) := by decide +kernel
theorem d12_7 : decode jdk_52_method_21_code 7 = .ok (.if_icmp .ge 37, 3) := by decide +kernel
theorem d12_10 : decode jdk_52_method_21_code 10 = .ok (.aload_n 0, 1) := by decide +kernel
theorem d12_11 : decode jdk_52_method_21_code 11 = .ok (.iload_n 1, 1) := by decide +kernel
theorem d12_12 : decode jdk_52_method_21_code 12 = .ok (.caload, 1) := by decide +kernel
theorem d12_13 : decode jdk_52_method_21_code 13 = .ok (.istore 6, 2) := by decide +kernel
theorem d12_15 : decode jdk_52_method_21_code 15 = .ok (.iload 6, 2) := by decide +kernel
theorem d12_17 : decode jdk_52_method_21_code 17 = .ok (.sipush 255, 3) := by decide +kernel
theorem d12_20 : decode jdk_52_method_21_code 20 = .ok (.if_icmp .le 6, 3) := by decide +kernel
theorem d12_23 : decode jdk_52_method_21_code 23 = .ok (.iload 5, 2) := by decide +kernel
theorem d12_25 : decode jdk_52_method_21_code 25 = .ok (.ireturn, 1) := by decide +kernel
-- java/lang/StringUTF16.compress([CI[BII)I
def Q12 (Z : State)  (h0 : Heap) (n0 : Nat) (v : Option Value) (h : Heap) (L : List Loc) : Prop := v = some (.int 0) ∧ Fr n0 L ∧ h = h0
theorem rm12 (l : Launch) (Z : State) (a0 : Array Value) (hw : HW a0 Z) (qa1 : Addr) (qa2 : Addr) (qk3 : ClassId) (qi4 : Int32) (h0 : Heap) (n0 : Nat) (X00 : Old Z n0 h0) (A_qa1 : Arv Z h0 qa1 qk3 .char (1 : Int32) [.int qi4] (.int 0)) (hc3 : (255 : Int32) < qi4) :
    MF l Z Y12_ jdk_52_method_21_code 7 (some .int) (Rm 0 0 0 0) #[.ref qa1, .int 0, .ref qa2, .int 0, .int 1] h0 (Q12 Z  h0 n0) := by
 refine own_sF pn4 rfl (fun m => ef11 m qa1 (0 : Int32) qa2 (0 : Int32) (1 : Int32)) ?_
 intro p e s m below meth c s₁ Bd hZ hh hx hby hml hown hnm X0 e0 pre0
 have N0 := Fr.nil n0
 have av1 := A_qa1
 obtain ⟨cl1, Ar1, q1, S1, N1, H1, Gf1⟩ := av1
 have hin2 : ¬ ((0 : Int32) < 0 ∨ cl1.slots.size ≤ ((0 : Int32) : Int32).toNatClampNeg) := inb_of S1 (by decide)
 have hat2 : cl1.slots[((0 : Int32) : Int32).toNatClampNeg]? = some (.int qi4) := Has.at H1 hin2 rfl
 refine own_lvF X0 Bd (.int 0) e0 ⟨rfl, N0, rfl⟩ rfl (fun fs hr => pre0 _ (by
  show Sx p e below s₁ m 0 #[rv qa1, iv 0, rv qa2, iv 0, iv 1, .unset, .unset] [] _
  refine zc X0 Bd d12_0 ?_
  refine zs X0 Bd d12_1 (l' := #[rv qa1, iv 0, rv qa2, iv 0, iv 1, iv 0, .unset]) rfl ?_
  refine zi X0 Bd d12_3 rfl ?_
  refine zi X0 Bd d12_5 rfl ?_
  refine zn X0 Bd d12_7 (XT.ii_ge_f ((by decide) : (0 : Int32) < (1 : Int32))) ?_
  refine zb X0 Bd d12_10 rfl rfl ?_
  refine zj X0 Bd d12_11 rfl ?_
  refine X0.caload hx (j := (0 : Int32)) (v := (.int qi4)) (by rw [e0]; exact Ar1.1) (State.isArrayOf_alike hZ.alike Ar1.2.1) Ar1.2.2 hin2 hat2 (g := (mkF m 12 #[rv qa1, iv 0, rv qa2, iv 0, iv 1, iv 0, .unset] [.int 0, .ref qa1])) rfl rfl (hb hby d12_12) _ ?_
  refine zs X0 Bd d12_13 (l' := #[rv qa1, iv 0, rv qa2, iv 0, iv 1, iv 0, iv qi4]) rfl ?_
  refine zi X0 Bd d12_15 rfl ?_
  refine XS.sipush X0.here hx rfl (hb hby d12_17) ?_
  refine zn X0 Bd d12_20 (XT.ii_le_f (hc3 : (255 : Int32) < qi4)) ?_
  refine zi X0 Bd d12_23 rfl ?_
  exact retI X0 hx Bd.returns (hb hby d12_25) hr))
theorem pd10 : parseMethodDescriptor "([CI[BII)I" = some ⟨[(.array .char), .int, (.array .byte), .int, .int], some .int⟩ := by decide +kernel
theorem d11_12 : decode jdk_52_method_16_code 12 = .ok (.istore 4, 2) := by decide +kernel
theorem d11_14 : decode jdk_52_method_16_code 14 = .ok (.iload 4, 2) := by decide +kernel
theorem d11_16 : decode jdk_52_method_16_code 16 = .ok (.iload_n 2, 1) := by decide +kernel
theorem d11_17 : decode jdk_52_method_16_code 17 = .ok (.if_icmp .eq 40, 3) := by decide +kernel
theorem d11_20 : decode jdk_52_method_16_code 20 = .ok (.aload_n 0, 1) := by decide +kernel
theorem d11_21 : decode jdk_52_method_16_code 21 = .ok (.iload_n 1, 1) := by decide +kernel
theorem d11_22 : decode jdk_52_method_16_code 22 = .ok (.iload_n 2, 1) := by decide +kernel
theorem d11_23 : decode jdk_52_method_16_code 23 = .ok (.invokestatic 119, 3) := by decide +kernel
theorem ef12 (m : MethodId) (x0 : Addr) (x1 : Int32) (x2 : Int32) : entryFrame m #[.ref x0, .int x1, .int x2] 5 = mkF m 0 #[.val (.ref x0), .val (.int x1), .val (.int x2), .unset, .unset] [] := by first | (simp [entryFrame, mkF, argsToLocals, Value.category]; done) | rfl
theorem d13_0 : decode jdk_52_method_14_code 0 = .ok (.iload_n 2, 1) := by decide +kernel
theorem d13_1 : decode jdk_52_method_14_code 1 = .ok (.invokestatic 107, 3) := by decide +kernel
theorem d14_0 : decode jdk_52_method_2_code 0 = .ok (.iload_n 0, 1) := by decide +kernel
theorem d14_1 : decode jdk_52_method_2_code 1 = .ok (.invokestatic 11, 3) := by decide +kernel
theorem d15_0 : decode jdk_52_method_3_code 0 = .ok (.iload_n 0, 1) := by decide +kernel
theorem d15_1 : decode jdk_52_method_3_code 1 = .ok (.ifCond .ge 11, 3) := by decide +kernel
theorem d15_12 : decode jdk_52_method_3_code 12 = .ok (.iload_n 0, 1) := by decide +kernel
theorem d15_13 : decode jdk_52_method_3_code 13 = .ok (.ldc 20, 2) := by decide +kernel
theorem d15_15 : decode jdk_52_method_3_code 15 = .ok (.if_icmp .lt 40, 3) := by decide +kernel
theorem d15_55 : decode jdk_52_method_3_code 55 = .ok (.iload_n 0, 1) := by decide +kernel
theorem d15_56 : decode jdk_52_method_3_code 56 = .ok (.iconst 1, 1) := by decide +kernel
theorem d15_57 : decode jdk_52_method_3_code 57 = .ok (.ishl, 1) := by decide +kernel
theorem d15_58 : decode jdk_52_method_3_code 58 = .ok (.ireturn, 1) := by decide +kernel
-- java/lang/StringUTF16.newBytesLength(I)I
def Q13 (Z : State)  (h0 : Heap) (n0 : Nat) (v : Option Value) (h : Heap) (L : List Loc) : Prop := v = some (.int 2) ∧ Fr n0 L ∧ h = h0
theorem rm13 (l : Launch) (Z : State) (a0 : Array Value) (hw : HW a0 Z)  (h0 : Heap) (n0 : Nat) (X00 : Old Z n0 h0)  :
    MF l Z Y13_ jdk_52_method_3_code 1 (some .int) (Rm 0 0 0 0) #[.int 1] h0 (Q13 Z  h0 n0) := by
 refine own_sF pn4 rfl (fun m => ef8 m (1 : Int32)) ?_
 intro p e s m below meth c s₁ Bd hZ hh hx hby hml hown hnm X0 e0 pre0
 have N0 := Fr.nil n0
 refine own_lvF X0 Bd (.int 2) e0 ⟨rfl, N0, rfl⟩ rfl (fun fs hr => pre0 _ (by
  show Sx p e below s₁ m 0 #[iv 1] [] _
  refine zj X0 Bd d15_0 rfl ?_
  refine zp (pc' := 12) X0 Bd d15_1 (XT.i0_ge_t ((by decide) : ¬ ((1 : Int32) < (0 : Int32)))) rfl ?_
  refine zj X0 Bd d15_12 rfl ?_
  refine X0.ldcInt hx hown (mvT hZ (w94_ hw)) (g := (mkF m 13 #[iv 1] [.int 1])) rfl (hb hby d15_13) _ ?_
  refine zy (pc' := 55) X0 Bd d15_15 (XT.ii_lt_t ((by decide) : (1 : Int32) < (1073741823 : Int32))) rfl ?_
  refine zj X0 Bd d15_55 rfl ?_
  refine zc X0 Bd d15_56 ?_
  refine XS.ishl X0.here hx rfl (hb hby d15_57) rfl ?_
  exact retI X0 hx Bd.returns (hb hby d15_58) hr))
theorem d14_4 : decode jdk_52_method_2_code 4 = .ok (.newarray .byte, 2) := by decide +kernel
theorem d14_6 : decode jdk_52_method_2_code 6 = .ok (.areturn, 1) := by decide +kernel
-- java/lang/StringUTF16.newBytesFor(I)[B
def Q14 (Z : State)  (h0 : Heap) (n0 : Nat) (v : Option Value) (h : Heap) (L : List Loc) : Prop := ∃ b2 : Addr, ∃ c2 : ClassId, v = some (.ref b2) ∧ Fr n0 L ∧ Keep h0 h [] ∧ h0.size ≤ b2 ∧ Arv Z h b2 c2 .byte (2 : Int32) [.int 0, .int 0] (.int 0)
theorem rm14 (l : Launch) (Z : State) (a0 : Array Value) (hw : HW a0 Z)  (h0 : Heap) (n0 : Nat) (X00 : Old Z n0 h0)  :
    MF l Z Y14_ jdk_52_method_2_code 1 (some (.array .byte)) (Rm 1 1 2 12) #[.int 1] h0 (Q14 Z  h0 n0) := by
 refine own_sF pn4 rfl (fun m => ef8 m (1 : Int32)) ?_
 intro p e s m below meth c s₁ Bd hZ hh hx hby hml hown hnm X0 e0 pre0
 have N0 := Fr.nil n0
 obtain ⟨_, T1, L1, X1, hQ1, st1⟩ := own_cS 0 0 [] 1 #[iv 1] X0 hx hZ hown (w91_ hw) (w92_ hw) (w74_ hw) (w93_ hw) (rm13 l Z a0 hw   h0 n0 X00 ) pd8 hml.symm (hb hby d14_1) e0 rfl rfl rfl rfl (by decide)
 obtain ⟨rfl, N1q, e1q⟩ := hQ1
 have N1 := Fr.app N0 N1q
 obtain ⟨T2, h2, c2, X2, e2, E2, A2, st2⟩ := newP (aty := .byte) X1 hx hZ (w21_ hw) e1q (g := (mkF m 4 #[iv 1] [.int 2])) rfl (hb hby d14_4) rfl (by decide) (cap := 2) (by decide) (lE rfl) (lE rfl) (lE rfl)
 obtain ⟨b2, g2⟩ : ∃ z, z = h0.size := ⟨_, rfl⟩
 rw [← g2] at A2 st2
 replace X2 : Stand p l e (Rm 1 1 2 12) s m #[.int 1] below meth c T2 _ 1 2 := X2
 have K3 := (Keep.refl h0 []).ext E2
 have A4_ : Arv Z h2 b2 c2 .byte (2 : Int32) [.int 0, .int 0] (.int 0) := (Arv.new A2 (by decide)).pad (pad_rep [] (.int 0) 2)
 have sz_b2 : h0.size ≤ b2 := (Nat.le_of_eq g2.symm)
 refine own_lvF X2 Bd (.ref b2) e2 ⟨b2, c2, rfl, N1, K3, sz_b2, A4_⟩ rfl (fun fs hr => pre0 _ (by
  show Sx p e below s₁ m 0 #[iv 1] [] _
  refine zj X0 Bd d14_0 rfl ?_
  refine st1 _ ?_
  refine st2 _ ?_
  exact retOut X2 hx Bd.returns rfl (Or.inr (Or.inr (Or.inr (Or.inr ⟨rfl, rfl, rfl⟩)))) (hb hby d14_6) hr))
theorem pd11 : parseMethodDescriptor "(I)[B" = some ⟨[.int], some (.array .byte)⟩ := by decide +kernel
theorem d13_4 : decode jdk_52_method_14_code 4 = .ok (.astore_n 3, 1) := by decide +kernel
theorem d13_5 : decode jdk_52_method_14_code 5 = .ok (.iconst 0, 1) := by decide +kernel
theorem d13_6 : decode jdk_52_method_14_code 6 = .ok (.istore 4, 2) := by decide +kernel
theorem d13_8 : decode jdk_52_method_14_code 8 = .ok (.iload 4, 2) := by decide +kernel
theorem d13_10 : decode jdk_52_method_14_code 10 = .ok (.iload_n 2, 1) := by decide +kernel
theorem d13_11 : decode jdk_52_method_14_code 11 = .ok (.if_icmp .ge 21, 3) := by decide +kernel
theorem d13_14 : decode jdk_52_method_14_code 14 = .ok (.aload_n 3, 1) := by decide +kernel
theorem d13_15 : decode jdk_52_method_14_code 15 = .ok (.iload 4, 2) := by decide +kernel
theorem d13_17 : decode jdk_52_method_14_code 17 = .ok (.aload_n 0, 1) := by decide +kernel
theorem d13_18 : decode jdk_52_method_14_code 18 = .ok (.iload_n 1, 1) := by decide +kernel
theorem d13_19 : decode jdk_52_method_14_code 19 = .ok (.caload, 1) := by decide +kernel
theorem d13_20 : decode jdk_52_method_14_code 20 = .ok (.invokestatic 111, 3) := by decide +kernel
theorem d16_0 : decode jdk_52_method_4_code 0 = .ok (.getstatic 44, 3) := by decide +kernel
theorem d16_3 : decode jdk_52_method_4_code 3 = .ok (.ifCond .ne 25, 3) := by decide +kernel
theorem d16_28 : decode jdk_52_method_4_code 28 = .ok (.iload_n 1, 1) := by decide +kernel
theorem d16_29 : decode jdk_52_method_4_code 29 = .ok (.iconst 1, 1) := by decide +kernel
theorem d16_30 : decode jdk_52_method_4_code 30 = .ok (.ishl, 1) := by decide +kernel
theorem d16_31 : decode jdk_52_method_4_code 31 = .ok (.istore_n 1, 1) := by decide +kernel
theorem d16_32 : decode jdk_52_method_4_code 32 = .ok (.aload_n 0, 1) := by decide +kernel
theorem d16_33 : decode jdk_52_method_4_code 33 = .ok (.iload_n 1, 1) := by decide +kernel
theorem d16_34 : decode jdk_52_method_4_code 34 = .ok (.iinc 1 1, 3) := by decide +kernel
theorem d16_37 : decode jdk_52_method_4_code 37 = .ok (.iload_n 2, 1) := by decide +kernel
theorem d16_38 : decode jdk_52_method_4_code 38 = .ok (.getstatic 59, 3) := by decide +kernel
theorem d16_41 : decode jdk_52_method_4_code 41 = .ok (.ishr, 1) := by decide +kernel
theorem d16_42 : decode jdk_52_method_4_code 42 = .ok (.i2b, 1) := by decide +kernel
theorem d16_43 : decode jdk_52_method_4_code 43 = .ok (.bastore, 1) := by decide +kernel
theorem d16_44 : decode jdk_52_method_4_code 44 = .ok (.aload_n 0, 1) := by decide +kernel
theorem d16_45 : decode jdk_52_method_4_code 45 = .ok (.iload_n 1, 1) := by decide +kernel
theorem d16_46 : decode jdk_52_method_4_code 46 = .ok (.iload_n 2, 1) := by decide +kernel
theorem d16_47 : decode jdk_52_method_4_code 47 = .ok (.getstatic 63, 3) := by decide +kernel
theorem d16_50 : decode jdk_52_method_4_code 50 = .ok (.ishr, 1) := by decide +kernel
theorem d16_51 : decode jdk_52_method_4_code 51 = .ok (.i2b, 1) := by decide +kernel
theorem d16_52 : decode jdk_52_method_4_code 52 = .ok (.bastore, 1) := by decide +kernel
theorem d16_53 : decode jdk_52_method_4_code 53 = .ok (.return_, 1) := by decide +kernel
-- java/lang/StringUTF16.putChar([BII)V
def Q15 (Z : State) (qa1 : Addr) (qi2 : Int32) (qi3 : Int32) (qk4 : ClassId) (qi5 : Int32) (qi6 : Int32) (h0 : Heap) (n0 : Nat) (v : Option Value) (h : Heap) (L : List Loc) : Prop := v = none ∧ Fr n0 L ∧ Keep h0 h [qa1] ∧ Arv Z h qa1 qk4 .byte (2 : Int32) (((([qi5, qi6] : List Int32).set (((qi2 <<< ((1 : Int32) &&& 31)))).toNatClampNeg ((((qi3 >>> ((0 : Int32) &&& 31)))).toInt8.toInt32)).set ((((qi2 <<< ((1 : Int32) &&& 31))) + (1 : Int32))).toNatClampNeg ((((qi3 >>> ((8 : Int32) &&& 31)))).toInt8.toInt32)).map Value.int) (.int 0)
theorem rm15 (l : Launch) (Z : State) (a0 : Array Value) (hw : HW a0 Z) (qa1 : Addr) (qi2 : Int32) (qi3 : Int32) (qk4 : ClassId) (qi5 : Int32) (qi6 : Int32) (h0 : Heap) (n0 : Nat) (X00 : Old Z n0 h0) (uS12 : Sta Z Z.heap "java/lang/StringUTF16" "$assertionsDisabled" "Z" (.int 1)) (uS15 : Sta Z Z.heap "java/lang/StringUTF16" "HI_BYTE_SHIFT" "I" (.int 0)) (uS18 : Sta Z Z.heap "java/lang/StringUTF16" "LO_BYTE_SHIFT" "I" (.int 8)) (A_qa1 : Arv Z h0 qa1 qk4 .byte (2 : Int32) [.int qi5, .int qi6] (.int 0)) (hc4 : ¬ (qi2 < (0 : Int32))) (hc5 : qi2 < (1 : Int32)) (g_qa1 : n0 ≤ qa1) :
    MF l Z Y15_ jdk_52_method_4_code 3 none (Rm 0 0 0 0) #[.ref qa1, .int qi2, .int qi3] h0 (Q15 Z qa1 qi2 qi3 qk4 qi5 qi6 h0 n0) := by
 refine own_sF pn4 rfl (fun m => ef6 m qa1 qi2 qi3) ?_
 intro p e s m below meth c s₁ Bd hZ hh hx hby hml hown hnm X0 e0 pre0
 have N0 := Fr.nil n0
 obtain ⟨T1, X1, e1, st1⟩ := getS2 X0 hx hZ hown (host := "") (Or.inl (w98_ hw)) Via.refl e0 (uS12.ext X00.2) (g := (mkF m 0 #[rv qa1, iv qi2, iv qi3] [])) rfl (hb hby d16_0)
 obtain ⟨T2, X2, e2, st2⟩ := getS2 X1 hx hZ hown (host := "") (Or.inl (w99_ hw)) Via.refl e1 (uS15.ext X00.2) (g := (mkF m 38 #[rv qa1, iv (((qi2 <<< ((1 : Int32) &&& 31))) + (1 : Int32)), iv qi3] [.int qi3, (.int ((qi2 <<< ((1 : Int32) &&& 31)))), .ref qa1])) rfl (hb hby d16_38)
 have A3_ : Arv Z h0 qa1 qk4 .byte (2 : Int32) (([qi5, qi6] : List Int32).map Value.int) (.int 0) := A_qa1
 have av6 := A3_
 obtain ⟨cl6, Ar6, q6, S6, N6, H6, Gf6⟩ := av6
 have hin7 : ¬ (((qi2 <<< ((1 : Int32) &&& 31))) < 0 ∨ cl6.slots.size ≤ (((qi2 <<< ((1 : Int32) &&& 31))) : Int32).toNatClampNeg) := inb_of S6 (own_shla1 hc4 hc5)
 obtain ⟨T7, h7, X7, e7, W7, st7⟩ := stB X2 hx hZ e2 Ar6 (j := ((qi2 <<< ((1 : Int32) &&& 31)))) hin7 (g := (mkF m 43 #[rv qa1, iv (((qi2 <<< ((1 : Int32) &&& 31))) + (1 : Int32)), iv qi3] [(.int ((((qi3 >>> ((0 : Int32) &&& 31)))).toInt8.toInt32)), (.int ((qi2 <<< ((1 : Int32) &&& 31)))), .ref qa1])) rfl rfl (hb hby d16_43)
 have N7_ := Fr.snoc X7 N0 g_qa1
 have K8 := (Keep.refl h0 [qa1]).wr W7 (Or.inl (mI 0 rfl))
 have A9_ : Arv Z h7 qa1 qk4 .byte (2 : Int32) ((([qi5, qi6] : List Int32).set (((qi2 <<< ((1 : Int32) &&& 31)))).toNatClampNeg ((((qi3 >>> ((0 : Int32) &&& 31)))).toInt8.toInt32)).map Value.int) (.int 0) := by rw [List.map_set]; have q := Arv.set (v := .int (nar .byte ((((qi3 >>> ((0 : Int32) &&& 31)))).toInt8.toInt32))) Ar6 q6 S6 N6 H6 Gf6 (fits_nar_byte _) W7 _ rfl (by rw [List.length_map]; exact own_ltn (k := 2) (by decide) (own_shla1 hc4 hc5)); rw [((own_nar_i2b _) : nar .byte ((((qi3 >>> ((0 : Int32) &&& 31)))).toInt8.toInt32) = ((((qi3 >>> ((0 : Int32) &&& 31)))).toInt8.toInt32))] at q; exact q
 have O11 := X00.wr W7 g_qa1
 obtain ⟨T10, X10, e10, st10⟩ := getS2 X7 hx hZ hown (host := "") (Or.inl (w100_ hw)) Via.refl e7 (uS18.ext O11.2) (g := (mkF m 47 #[rv qa1, iv (((qi2 <<< ((1 : Int32) &&& 31))) + (1 : Int32)), iv qi3] [.int qi3, (.int (((qi2 <<< ((1 : Int32) &&& 31))) + (1 : Int32))), .ref qa1])) rfl (hb hby d16_47)
 have av12 := A9_
 obtain ⟨cl12, Ar12, q12, S12, N12, H12, Gf12⟩ := av12
 have hin13 : ¬ ((((qi2 <<< ((1 : Int32) &&& 31))) + (1 : Int32)) < 0 ∨ cl12.slots.size ≤ ((((qi2 <<< ((1 : Int32) &&& 31))) + (1 : Int32)) : Int32).toNatClampNeg) := inb_of S12 (own_shlb1 hc4 hc5)
 obtain ⟨T13, h13, X13, e13, W13, st13⟩ := stB X10 hx hZ e10 Ar12 (j := (((qi2 <<< ((1 : Int32) &&& 31))) + (1 : Int32))) hin13 (g := (mkF m 52 #[rv qa1, iv (((qi2 <<< ((1 : Int32) &&& 31))) + (1 : Int32)), iv qi3] [(.int ((((qi3 >>> ((8 : Int32) &&& 31)))).toInt8.toInt32)), (.int (((qi2 <<< ((1 : Int32) &&& 31))) + (1 : Int32))), .ref qa1])) rfl rfl (hb hby d16_52)
 have N13_ := Fr.snoc X13 N7_ g_qa1
 have K14 := K8.wr W13 (Or.inl (mI 0 rfl))
 have A15_ : Arv Z h13 qa1 qk4 .byte (2 : Int32) (((([qi5, qi6] : List Int32).set (((qi2 <<< ((1 : Int32) &&& 31)))).toNatClampNeg ((((qi3 >>> ((0 : Int32) &&& 31)))).toInt8.toInt32)).set ((((qi2 <<< ((1 : Int32) &&& 31))) + (1 : Int32))).toNatClampNeg ((((qi3 >>> ((8 : Int32) &&& 31)))).toInt8.toInt32)).map Value.int) (.int 0) := by rw [List.map_set]; have q := Arv.set (v := .int (nar .byte ((((qi3 >>> ((8 : Int32) &&& 31)))).toInt8.toInt32))) Ar12 q12 S12 N12 H12 Gf12 (fits_nar_byte _) W13 _ rfl (by rw [List.length_map, List.length_set]; exact own_ltn (k := 2) (by decide) (own_shlb1 hc4 hc5)); rw [((own_nar_i2b _) : nar .byte ((((qi3 >>> ((8 : Int32) &&& 31)))).toInt8.toInt32) = ((((qi3 >>> ((8 : Int32) &&& 31)))).toInt8.toInt32))] at q; exact q
 refine own_lvN X13 Bd e13 ⟨rfl, N13_, K14, A15_⟩ rfl (fun fs hr => pre0 _ (by
  show Sx p e below s₁ m 0 #[rv qa1, iv qi2, iv qi3] [] _
  refine st1 _ ?_
  refine zp (pc' := 28) X1 Bd d16_3 (XT.i0_ne_t ((by decide) : ¬ ((1 : Int32) = (0 : Int32)))) rfl ?_
  refine zj X1 Bd d16_28 rfl ?_
  refine zc X1 Bd d16_29 ?_
  refine XS.ishl X1.here hx rfl (hb hby d16_30) rfl ?_
  refine zt X1 Bd d16_31 (l' := #[rv qa1, iv ((qi2 <<< ((1 : Int32) &&& 31))), iv qi3]) rfl ?_
  refine zb X1 Bd d16_32 rfl rfl ?_
  refine zj X1 Bd d16_33 rfl ?_
  refine XS.iinc X1.here hx rfl (hb hby d16_34) rfl (l' := #[rv qa1, iv (((qi2 <<< ((1 : Int32) &&& 31))) + (1 : Int32)), iv qi3]) rfl ?_
  refine zj X1 Bd d16_37 rfl ?_
  refine st2 _ ?_
  refine XS.ishr X2.here hx rfl (hb hby d16_41) rfl ?_
  refine XS.i2b X2.here hx rfl (hb hby d16_42) rfl ?_
  refine st7 _ ?_
  refine zb X7 Bd d16_44 rfl rfl ?_
  refine zj X7 Bd d16_45 rfl ?_
  refine zj X7 Bd d16_46 rfl ?_
  refine st10 _ ?_
  refine XS.ishr X10.here hx rfl (hb hby d16_50) rfl ?_
  refine XS.i2b X10.here hx rfl (hb hby d16_51) rfl ?_
  refine st13 _ ?_
  exact X13.returnOut hx Bd.returns (hb hby d16_53) hr))
theorem pd12 : parseMethodDescriptor "([BII)V" = some ⟨[(.array .byte), .int, .int], none⟩ := by decide +kernel
theorem d13_23 : decode jdk_52_method_14_code 23 = .ok (.iinc 1 1, 3) := by decide +kernel
theorem d13_26 : decode jdk_52_method_14_code 26 = .ok (.iinc 4 1, 3) := by decide +kernel
theorem d13_29 : decode jdk_52_method_14_code 29 = .ok (.goto (-21), 3) := by decide +kernel
theorem d13_32 : decode jdk_52_method_14_code 32 = .ok (.aload_n 3, 1) := by decide +kernel
theorem d13_33 : decode jdk_52_method_14_code 33 = .ok (.areturn, 1) := by decide +kernel
-- java/lang/StringUTF16.toBytes([CII)[B
def Q16 (Z : State) (qi3 : Int32) (h0 : Heap) (n0 : Nat) (v : Option Value) (h : Heap) (L : List Loc) : Prop := ∃ b2 : Addr, ∃ c3_ : ClassId, v = some (.ref b2) ∧ Fr n0 L ∧ Keep h0 h [] ∧ h0.size ≤ b2 ∧ Arv Z h b2 c3_ .byte (2 : Int32) [(.int ((((qi3 >>> ((0 : Int32) &&& 31)))).toInt8.toInt32)), (.int ((((qi3 >>> ((8 : Int32) &&& 31)))).toInt8.toInt32))] (.int 0)
theorem rm16 (l : Launch) (Z : State) (a0 : Array Value) (hw : HW a0 Z) (qa1 : Addr) (qk2 : ClassId) (qi3 : Int32) (h0 : Heap) (n0 : Nat) (X00 : Old Z n0 h0) (uS12 : Sta Z Z.heap "java/lang/StringUTF16" "$assertionsDisabled" "Z" (.int 1)) (uS15 : Sta Z Z.heap "java/lang/StringUTF16" "HI_BYTE_SHIFT" "I" (.int 0)) (uS18 : Sta Z Z.heap "java/lang/StringUTF16" "LO_BYTE_SHIFT" "I" (.int 8)) (A_qa1 : Arv Z h0 qa1 qk2 .char (1 : Int32) [.int qi3] (.int 0)) :
    MF l Z Y16_ jdk_52_method_14_code 5 (some (.array .byte)) (Rm 2 1 2 24) #[.ref qa1, .int 0, .int 1] h0 (Q16 Z qi3 h0 n0) := by
 refine own_sF pn4 rfl (fun m => ef12 m qa1 (0 : Int32) (1 : Int32)) ?_
 intro p e s m below meth c s₁ Bd hZ hh hx hby hml hown hnm X0 e0 pre0
 have N0 := Fr.nil n0
 obtain ⟨_, T1, L1, X1, hQ1, st1⟩ := own_cS 1 2 [] 1 #[rv qa1, iv 0, iv 1, .unset, .unset] X0 hx hZ hown (w88_ hw) (w89_ hw) (w74_ hw) (w90_ hw) (rm14 l Z a0 hw   h0 n0 X00 ) pd11 hml.symm (hb hby d13_1) e0 rfl rfl rfl rfl (by decide)
 obtain ⟨b2, c3_, rfl, N1q, K1q, w4, w5⟩ := hQ1
 have N1 := Fr.app N0 N1q
 have K6 := (Keep.refl h0 []).trans K1q (fun x q => nomatch q)
 have A8_ := A_qa1.keep K1q nin0
 have av7 := A8_
 obtain ⟨cl7, Ar7, q7, S7, N7, H7, Gf7⟩ := av7
 have hin9 : ¬ ((0 : Int32) < 0 ∨ cl7.slots.size ≤ ((0 : Int32) : Int32).toNatClampNeg) := inb_of S7 (by decide)
 have hat9 : cl7.slots[((0 : Int32) : Int32).toNatClampNeg]? = some (.int qi3) := Has.at H7 hin9 rfl
 have g_b2 : n0 ≤ b2 := Nat.le_trans (Nat.le_trans (Nat.le_of_eq X00.1.symm) X00.2.1) w4
 have O11 := X00.keep K1q all0
 obtain ⟨_, T10, L10, X10, hQ10, st10⟩ := own_cS 1 2 [] 20 #[rv qa1, iv 0, iv 1, rv b2, iv 0] X1 hx hZ hown (w95_ hw) (w96_ hw) (w74_ hw) (w97_ hw) (rm15 l Z a0 hw  b2 (0 : Int32) qi3 c3_ (0 : Int32) (0 : Int32) T1.heap n0 O11 uS12 uS15 uS18 w5 (by decide) (by decide) g_b2) pd12 hml.symm (hb hby d13_20) rfl rfl rfl rfl rfl (by decide)
 obtain ⟨rfl, N10q, K10q, w12⟩ := hQ10
 have N10 := Fr.app N1 N10q
 have sz_b2 : h0.size ≤ b2 := w4
 have K13 := K6.trans K10q (allS (Or.inr sz_b2) all0)
 have A14_ : Arv Z T10.heap b2 c3_ .byte (2 : Int32) [(.int ((((qi3 >>> ((0 : Int32) &&& 31)))).toInt8.toInt32)), (.int ((((qi3 >>> ((8 : Int32) &&& 31)))).toInt8.toInt32))] (.int 0) := w12
 refine own_lvF X10 Bd (.ref b2) rfl ⟨b2, c3_, rfl, N10, K13, sz_b2, A14_⟩ rfl (fun fs hr => pre0 _ (by
  show Sx p e below s₁ m 0 #[rv qa1, iv 0, iv 1, .unset, .unset] [] _
  refine zj X0 Bd d13_0 rfl ?_
  refine st1 _ ?_
  refine XS.astoreN X1.here hx rfl (hb hby d13_4) rfl rfl (l' := #[rv qa1, iv 0, iv 1, rv b2, .unset]) rfl ?_
  refine zc X1 Bd d13_5 ?_
  refine zs X1 Bd d13_6 (l' := #[rv qa1, iv 0, iv 1, rv b2, iv 0]) rfl ?_
  refine zi X1 Bd d13_8 rfl ?_
  refine zj X1 Bd d13_10 rfl ?_
  refine zn X1 Bd d13_11 (XT.ii_ge_f ((by decide) : (0 : Int32) < (1 : Int32))) ?_
  refine zb X1 Bd d13_14 rfl rfl ?_
  refine zi X1 Bd d13_15 rfl ?_
  refine zb X1 Bd d13_17 rfl rfl ?_
  refine zj X1 Bd d13_18 rfl ?_
  refine X1.caload hx (j := (0 : Int32)) (v := (.int qi3)) Ar7.1 (State.isArrayOf_alike hZ.alike Ar7.2.1) Ar7.2.2 hin9 hat9 (g := (mkF m 19 #[rv qa1, iv 0, iv 1, rv b2, iv 0] [.int 0, .ref qa1, .int 0, .ref b2])) rfl rfl (hb hby d13_19) _ ?_
  refine st10 _ ?_
  refine XS.iinc X10.here hx rfl (hb hby d13_23) rfl (l' := #[rv qa1, iv 1, iv 1, rv b2, iv 0]) rfl ?_
  refine XS.iinc X10.here hx rfl (hb hby d13_26) rfl (l' := #[rv qa1, iv 1, iv 1, rv b2, iv 1]) rfl ?_
  refine zg (pc' := 8) X10 Bd d13_29 rfl ?_
  refine zi X10 Bd d13_8 rfl ?_
  refine zj X10 Bd d13_10 rfl ?_
  refine zy (pc' := 32) X10 Bd d13_11 (XT.ii_ge_t ((by decide) : ¬ ((1 : Int32) < (1 : Int32)))) rfl ?_
  refine zb X10 Bd d13_32 rfl rfl ?_
  exact retOut X10 hx Bd.returns rfl (Or.inr (Or.inr (Or.inr (Or.inr ⟨rfl, rfl, rfl⟩)))) (hb hby d13_33) hr))
theorem pd13 : parseMethodDescriptor "([CII)[B" = some ⟨[(.array .char), .int, .int], some (.array .byte)⟩ := by decide +kernel
theorem d11_26 : decode jdk_52_method_16_code 26 = .ok (.astore 5, 2) := by decide +kernel
theorem d11_28 : decode jdk_52_method_16_code 28 = .ok (.aload 5, 2) := by decide +kernel
theorem d11_30 : decode jdk_52_method_16_code 30 = .ok (.iload 4, 2) := by decide +kernel
theorem d11_32 : decode jdk_52_method_16_code 32 = .ok (.invokestatic 71, 3) := by decide +kernel
theorem d17_0 : decode jdk_52_method_5_code 0 = .ok (.getstatic 44, 3) := by decide +kernel
theorem d17_3 : decode jdk_52_method_5_code 3 = .ok (.ifCond .ne 25, 3) := by decide +kernel
theorem d17_28 : decode jdk_52_method_5_code 28 = .ok (.iload_n 1, 1) := by decide +kernel
theorem d17_29 : decode jdk_52_method_5_code 29 = .ok (.iconst 1, 1) := by decide +kernel
theorem d17_30 : decode jdk_52_method_5_code 30 = .ok (.ishl, 1) := by decide +kernel
theorem d17_31 : decode jdk_52_method_5_code 31 = .ok (.istore_n 1, 1) := by decide +kernel
theorem d17_32 : decode jdk_52_method_5_code 32 = .ok (.aload_n 0, 1) := by decide +kernel
theorem d17_33 : decode jdk_52_method_5_code 33 = .ok (.iload_n 1, 1) := by decide +kernel
theorem d17_34 : decode jdk_52_method_5_code 34 = .ok (.iinc 1 1, 3) := by decide +kernel
theorem d17_37 : decode jdk_52_method_5_code 37 = .ok (.baload, 1) := by decide +kernel
theorem d17_38 : decode jdk_52_method_5_code 38 = .ok (.sipush 255, 3) := by decide +kernel
theorem d17_41 : decode jdk_52_method_5_code 41 = .ok (.iand, 1) := by decide +kernel
theorem d17_42 : decode jdk_52_method_5_code 42 = .ok (.getstatic 59, 3) := by decide +kernel
theorem d17_45 : decode jdk_52_method_5_code 45 = .ok (.ishl, 1) := by decide +kernel
theorem d17_46 : decode jdk_52_method_5_code 46 = .ok (.aload_n 0, 1) := by decide +kernel
theorem d17_47 : decode jdk_52_method_5_code 47 = .ok (.iload_n 1, 1) := by decide +kernel
theorem d17_48 : decode jdk_52_method_5_code 48 = .ok (.baload, 1) := by decide +kernel
theorem d17_49 : decode jdk_52_method_5_code 49 = .ok (.sipush 255, 3) := by decide +kernel
theorem d17_52 : decode jdk_52_method_5_code 52 = .ok (.iand, 1) := by decide +kernel
theorem d17_53 : decode jdk_52_method_5_code 53 = .ok (.getstatic 63, 3) := by decide +kernel
theorem d17_56 : decode jdk_52_method_5_code 56 = .ok (.ishl, 1) := by decide +kernel
theorem d17_57 : decode jdk_52_method_5_code 57 = .ok (.ior, 1) := by decide +kernel
theorem d17_58 : decode jdk_52_method_5_code 58 = .ok (.i2c, 1) := by decide +kernel
theorem d17_59 : decode jdk_52_method_5_code 59 = .ok (.ireturn, 1) := by decide +kernel
-- java/lang/StringUTF16.getChar([BI)C
def Q17 (Z : State) (qi2 : Int32) (qi4 : Int32) (qi5 : Int32) (h0 : Heap) (n0 : Nat) (v : Option Value) (h : Heap) (L : List Loc) : Prop := v = some (.int (((((((own_at ([qi4, qi5] : List Int32) ((qi2 <<< ((1 : Int32) &&& 31)))) &&& (255 : Int32)) <<< ((0 : Int32) &&& 31))) ||| ((((own_at ([qi4, qi5] : List Int32) (((qi2 <<< ((1 : Int32) &&& 31))) + (1 : Int32))) &&& (255 : Int32)) <<< ((8 : Int32) &&& 31))))).toUInt32.toUInt16.toUInt32.toInt32)) ∧ Fr n0 L ∧ h = h0
theorem rm17 (l : Launch) (Z : State) (a0 : Array Value) (hw : HW a0 Z) (qa1 : Addr) (qi2 : Int32) (qk3 : ClassId) (qi4 : Int32) (qi5 : Int32) (h0 : Heap) (n0 : Nat) (X00 : Old Z n0 h0) (uS12 : Sta Z Z.heap "java/lang/StringUTF16" "$assertionsDisabled" "Z" (.int 1)) (uS15 : Sta Z Z.heap "java/lang/StringUTF16" "HI_BYTE_SHIFT" "I" (.int 0)) (uS18 : Sta Z Z.heap "java/lang/StringUTF16" "LO_BYTE_SHIFT" "I" (.int 8)) (A_qa1 : Arv Z h0 qa1 qk3 .byte (2 : Int32) [.int qi4, .int qi5] (.int 0)) (hc3 : ¬ (qi2 < (0 : Int32))) (hc4 : qi2 < (1 : Int32)) :
    MF l Z Y17_ jdk_52_method_5_code 2 (some .char) (Rm 0 0 0 0) #[.ref qa1, .int qi2] h0 (Q17 Z qi2 qi4 qi5 h0 n0) := by
 refine own_sF pn4 rfl (fun m => ef5 m qa1 qi2) ?_
 intro p e s m below meth c s₁ Bd hZ hh hx hby hml hown hnm X0 e0 pre0
 have N0 := Fr.nil n0
 obtain ⟨T1, X1, e1, st1⟩ := getS2 X0 hx hZ hown (host := "") (Or.inl (w98_ hw)) Via.refl e0 (uS12.ext X00.2) (g := (mkF m 0 #[rv qa1, iv qi2] [])) rfl (hb hby d17_0)
 have A2_ : Arv Z h0 qa1 qk3 .byte (2 : Int32) (([qi4, qi5] : List Int32).map Value.int) (.int 0) := A_qa1
 have av5 := A2_
 obtain ⟨cl5, Ar5, q5, S5, N5, H5, Gf5⟩ := av5
 have hin6 : ¬ (((qi2 <<< ((1 : Int32) &&& 31))) < 0 ∨ cl5.slots.size ≤ (((qi2 <<< ((1 : Int32) &&& 31))) : Int32).toNatClampNeg) := inb_of S5 (own_shla1 hc3 hc4)
 have hat6 : cl5.slots[(((qi2 <<< ((1 : Int32) &&& 31))) : Int32).toNatClampNeg]? = some (.int (own_at ([qi4, qi5] : List Int32) ((qi2 <<< ((1 : Int32) &&& 31))))) := Has.at H5 hin6 (own_atV _ _)
 obtain ⟨T7, X7, e7, st7⟩ := getS2 X1 hx hZ hown (host := "") (Or.inl (w99_ hw)) Via.refl e1 (uS15.ext X00.2) (g := (mkF m 42 #[rv qa1, iv (((qi2 <<< ((1 : Int32) &&& 31))) + (1 : Int32))] [(.int ((own_at ([qi4, qi5] : List Int32) ((qi2 <<< ((1 : Int32) &&& 31)))) &&& (255 : Int32)))])) rfl (hb hby d17_42)
 have av8 := A2_
 obtain ⟨cl8, Ar8, q8, S8, N8, H8, Gf8⟩ := av8
 have hin9 : ¬ ((((qi2 <<< ((1 : Int32) &&& 31))) + (1 : Int32)) < 0 ∨ cl8.slots.size ≤ ((((qi2 <<< ((1 : Int32) &&& 31))) + (1 : Int32)) : Int32).toNatClampNeg) := inb_of S8 (own_shlb1 hc3 hc4)
 have hat9 : cl8.slots[((((qi2 <<< ((1 : Int32) &&& 31))) + (1 : Int32)) : Int32).toNatClampNeg]? = some (.int (own_at ([qi4, qi5] : List Int32) (((qi2 <<< ((1 : Int32) &&& 31))) + (1 : Int32)))) := Has.at H8 hin9 (own_atV _ _)
 obtain ⟨T10, X10, e10, st10⟩ := getS2 X7 hx hZ hown (host := "") (Or.inl (w100_ hw)) Via.refl e7 (uS18.ext X00.2) (g := (mkF m 53 #[rv qa1, iv (((qi2 <<< ((1 : Int32) &&& 31))) + (1 : Int32))] [(.int ((own_at ([qi4, qi5] : List Int32) (((qi2 <<< ((1 : Int32) &&& 31))) + (1 : Int32))) &&& (255 : Int32))), (.int ((((own_at ([qi4, qi5] : List Int32) ((qi2 <<< ((1 : Int32) &&& 31)))) &&& (255 : Int32)) <<< ((0 : Int32) &&& 31))))])) rfl (hb hby d17_53)
 refine own_lvF X10 Bd (.int (nar .char (((((((own_at ([qi4, qi5] : List Int32) ((qi2 <<< ((1 : Int32) &&& 31)))) &&& (255 : Int32)) <<< ((0 : Int32) &&& 31))) ||| ((((own_at ([qi4, qi5] : List Int32) (((qi2 <<< ((1 : Int32) &&& 31))) + (1 : Int32))) &&& (255 : Int32)) <<< ((8 : Int32) &&& 31))))).toUInt32.toUInt16.toUInt32.toInt32))) e10 ⟨(congrArg (fun z => some (Value.int z)) (own_nar_i2c _)), N0, rfl⟩ rfl (fun fs hr => pre0 _ (by
  show Sx p e below s₁ m 0 #[rv qa1, iv qi2] [] _
  refine st1 _ ?_
  refine zp (pc' := 28) X1 Bd d17_3 (XT.i0_ne_t ((by decide) : ¬ ((1 : Int32) = (0 : Int32)))) rfl ?_
  refine zj X1 Bd d17_28 rfl ?_
  refine zc X1 Bd d17_29 ?_
  refine XS.ishl X1.here hx rfl (hb hby d17_30) rfl ?_
  refine zt X1 Bd d17_31 (l' := #[rv qa1, iv ((qi2 <<< ((1 : Int32) &&& 31)))]) rfl ?_
  refine zb X1 Bd d17_32 rfl rfl ?_
  refine zj X1 Bd d17_33 rfl ?_
  refine XS.iinc X1.here hx rfl (hb hby d17_34) rfl (l' := #[rv qa1, iv (((qi2 <<< ((1 : Int32) &&& 31))) + (1 : Int32))]) rfl ?_
  refine X1.baloadBytes hx (j := ((qi2 <<< ((1 : Int32) &&& 31)))) (v := (.int (own_at ([qi4, qi5] : List Int32) ((qi2 <<< ((1 : Int32) &&& 31)))))) (by rw [e1]; exact Ar5.1) (State.isArrayOf_alike hZ.alike Ar5.2.1) Ar5.2.2 hin6 hat6 (g := (mkF m 37 #[rv qa1, iv (((qi2 <<< ((1 : Int32) &&& 31))) + (1 : Int32))] [(.int ((qi2 <<< ((1 : Int32) &&& 31)))), .ref qa1])) rfl rfl (hb hby d17_37) _ ?_
  refine XS.sipush X1.here hx rfl (hb hby d17_38) ?_
  refine XS.iand X1.here hx rfl (hb hby d17_41) rfl ?_
  refine st7 _ ?_
  refine XS.ishl X7.here hx rfl (hb hby d17_45) rfl ?_
  refine zb X7 Bd d17_46 rfl rfl ?_
  refine zj X7 Bd d17_47 rfl ?_
  refine X7.baloadBytes hx (j := (((qi2 <<< ((1 : Int32) &&& 31))) + (1 : Int32))) (v := (.int (own_at ([qi4, qi5] : List Int32) (((qi2 <<< ((1 : Int32) &&& 31))) + (1 : Int32))))) (by rw [e7]; exact Ar8.1) (State.isArrayOf_alike hZ.alike Ar8.2.1) Ar8.2.2 hin9 hat9 (g := (mkF m 48 #[rv qa1, iv (((qi2 <<< ((1 : Int32) &&& 31))) + (1 : Int32))] [(.int (((qi2 <<< ((1 : Int32) &&& 31))) + (1 : Int32))), .ref qa1, (.int ((((own_at ([qi4, qi5] : List Int32) ((qi2 <<< ((1 : Int32) &&& 31)))) &&& (255 : Int32)) <<< ((0 : Int32) &&& 31))))])) rfl rfl (hb hby d17_48) _ ?_
  refine XS.sipush X7.here hx rfl (hb hby d17_49) ?_
  refine XS.iand X7.here hx rfl (hb hby d17_52) rfl ?_
  refine st10 _ ?_
  refine XS.ishl X10.here hx rfl (hb hby d17_56) rfl ?_
  refine XS.ior X10.here hx rfl (hb hby d17_57) rfl ?_
  refine XS.i2c X10.here hx rfl (hb hby d17_58) rfl ?_
  exact retN X10 hx (t := .char) Bd.returns (by simp) (hb hby d17_59) hr))
theorem pd14 : parseMethodDescriptor "([BI)C" = some ⟨[(.array .byte), .int], some .char⟩ := by decide +kernel
theorem d11_35 : decode jdk_52_method_16_code 35 = .ok (.sipush 255, 3) := by decide +kernel
theorem d11_38 : decode jdk_52_method_16_code 38 = .ok (.if_icmp .gt 16, 3) := by decide +kernel
theorem d11_54 : decode jdk_52_method_16_code 54 = .ok (.aload 5, 2) := by decide +kernel
theorem d11_56 : decode jdk_52_method_16_code 56 = .ok (.areturn, 1) := by decide +kernel
-- java/lang/StringUTF16.compress([CII)[B
def Q18 (Z : State) (qi3 : Int32) (h0 : Heap) (n0 : Nat) (v : Option Value) (h : Heap) (L : List Loc) : Prop := ∃ bm : Addr, ∃ cm : ClassId, v = some (.ref bm) ∧ Fr n0 L ∧ Keep h0 h [] ∧ h0.size ≤ bm ∧ Arv Z h bm cm .byte (2 : Int32) [(.int ((((qi3 >>> ((0 : Int32) &&& 31)))).toInt8.toInt32)), (.int ((((qi3 >>> ((8 : Int32) &&& 31)))).toInt8.toInt32))] (.int 0)
theorem rm18 (l : Launch) (Z : State) (a0 : Array Value) (hw : HW a0 Z) (qa1 : Addr) (qk2 : ClassId) (qi3 : Int32) (h0 : Heap) (n0 : Nat) (X00 : Old Z n0 h0) (uS12 : Sta Z Z.heap "java/lang/StringUTF16" "$assertionsDisabled" "Z" (.int 1)) (uS15 : Sta Z Z.heap "java/lang/StringUTF16" "HI_BYTE_SHIFT" "I" (.int 0)) (uS18 : Sta Z Z.heap "java/lang/StringUTF16" "LO_BYTE_SHIFT" "I" (.int 8)) (A_qa1 : Arv Z h0 qa1 qk2 .char (1 : Int32) [.int qi3] (.int 0)) (hc1 : (255 : Int32) < (own_max ([qi3] : List Int32))) (hr20 : nar .char qi3 = qi3) :
    MF l Z Y18_ jdk_52_method_16_code 6 (some (.array .byte)) (Rm 3 2 3 40) #[.ref qa1, .int 0, .int 1] h0 (Q18 Z qi3 h0 n0) := by
 refine own_sF pn4 rfl (fun m => ef10 m qa1 (0 : Int32) (1 : Int32)) ?_
 intro p e s m below meth c s₁ Bd hZ hh hx hby hml hown hnm X0 e0 pre0
 have N0 := Fr.nil n0
 obtain ⟨T2, h2, c2, X2, e2, E2, A2, st2⟩ := newP (aty := .byte) X0 hx hZ (w21_ hw) e0 (g := (mkF m 1 #[rv qa1, iv 0, iv 1, .unset, .unset, .unset] [.int 1])) rfl (hb hby d11_1) rfl (by decide) (cap := 1) (by decide) (lE rfl) (lE rfl) (lE rfl)
 obtain ⟨b2, g2⟩ : ∃ z, z = h0.size := ⟨_, rfl⟩
 rw [← g2] at A2 st2
 replace X2 : Stand p l e (Rm 3 2 3 40) s m #[.ref qa1, .int 0, .int 1] below meth c T2 _ 1 1 := X2
 have K3 := (Keep.refl h0 []).ext E2
 have A4_ : Arv Z h2 b2 c2 .byte (1 : Int32) [.int 0] (.int 0) := (Arv.new A2 (by decide)).pad (pad_rep [] (.int 0) 1)
 have A6_ := A_qa1.ext E2
 have pr7 : Pr p e below T2 m 9 #[rv qa1, iv 0, iv 1, rv b2, .unset, .unset] [.int 1, .int 0, .ref b2, .int 0, .ref qa1] s₁ (entryFrame m #[.ref qa1, .int 0, .int 1] 6) := fun t k => pre0 t (by
  show Sx p e below s₁ m 0 #[rv qa1, iv 0, iv 1, .unset, .unset, .unset] [] _
  refine zj X0 Bd d11_0 rfl ?_
  refine st2 _ ?_
  refine XS.astoreN X2.here hx rfl (hb hby d11_3) rfl rfl (l' := #[rv qa1, iv 0, iv 1, rv b2, .unset, .unset]) rfl ?_
  refine zb X2 Bd d11_4 rfl rfl ?_
  refine zj X2 Bd d11_5 rfl ?_
  refine zb X2 Bd d11_6 rfl rfl ?_
  refine zc X2 Bd d11_7 ?_
  refine zj X2 Bd d11_8 rfl ?_
  exact k)
 by_cases hc8 : (255 : Int32) < qi3
 ·
  skip
  have A10_ := A_qa1.ext E2
  have O11 := X00.ext E2
  obtain ⟨_, T9, L9, X9, hQ9, st9⟩ := own_cS 1 1 [] 9 #[rv qa1, iv 0, iv 1, rv b2, .unset, .unset] X2 hx hZ hown (w76_ hw) (w77_ hw) (w74_ hw) (w78_ hw) (rm12 l Z a0 hw  qa1 b2 qk2 qi3 h2 n0 O11 A10_ hc8) pd10 hml.symm (hb hby d11_9) e2 rfl rfl rfl rfl (by decide)
  obtain ⟨rfl, N9q, e9q⟩ := hQ9
  have N9 := Fr.app N0 N9q
  obtain ⟨_, T12, L12, X12, hQ12, st12⟩ := own_cS 2 3 [] 23 #[rv qa1, iv 0, iv 1, rv b2, iv 0, .unset] X9 hx hZ hown (w85_ hw) (w86_ hw) (w74_ hw) (w87_ hw) (rm16 l Z a0 hw  qa1 qk2 qi3 h2 n0 O11 uS12 uS15 uS18 A10_) pd13 hml.symm (hb hby d11_23) e9q rfl rfl rfl rfl (by decide)
  obtain ⟨b13, c14_, rfl, N12q, K12q, w15, w16⟩ := hQ12
  have N12 := Fr.app N9 N12q
  have K17 := K3.trans K12q (fun x q => nomatch q)
  have O19 := O11.keep K12q all0
  obtain ⟨_, T18, L18, X18, hQ18, st18⟩ := own_cS 2 3 [] 32 #[rv qa1, iv 0, iv 1, rv b2, iv 0, rv b13] X12 hx hZ hown (w101_ hw) (w102_ hw) (w74_ hw) (w103_ hw) (rm17 l Z a0 hw  b13 (0 : Int32) c14_ ((((qi3 >>> ((0 : Int32) &&& 31)))).toInt8.toInt32) ((((qi3 >>> ((8 : Int32) &&& 31)))).toInt8.toInt32) T12.heap n0 O19 uS12 uS15 uS18 w16 (by decide) (by decide)) pd14 hml.symm (hb hby d11_32) rfl rfl rfl rfl rfl (by decide)
  obtain ⟨rfl, N18q, e18q⟩ := hQ18
  have N18 := Fr.app N12 N18q
  have sz_b13 : h0.size ≤ b13 := Nat.le_trans K3.1 w15
  refine own_lvF X18 Bd (.ref b13) e18q ⟨b13, c14_, rfl, N18, K17, sz_b13, w16⟩ rfl (fun fs hr => pr7 _ (by
   show Sx p e below T2 m 9 #[rv qa1, iv 0, iv 1, rv b2, .unset, .unset] [.int 1, .int 0, .ref b2, .int 0, .ref qa1] _
   refine st9 _ ?_
   refine zs X9 Bd d11_12 (l' := #[rv qa1, iv 0, iv 1, rv b2, iv 0, .unset]) rfl ?_
   refine zi X9 Bd d11_14 rfl ?_
   refine zj X9 Bd d11_16 rfl ?_
   refine zn X9 Bd d11_17 (XT.ii_eq_f ((by decide) : ¬ ((0 : Int32) = (1 : Int32)))) ?_
   refine zb X9 Bd d11_20 rfl rfl ?_
   refine zj X9 Bd d11_21 rfl ?_
   refine zj X9 Bd d11_22 rfl ?_
   refine st12 _ ?_
   refine XS.astore X12.here hx rfl (hb hby d11_26) rfl rfl (l' := #[rv qa1, iv 0, iv 1, rv b2, iv 0, rv b13]) rfl ?_
   refine za X12 Bd d11_28 rfl rfl ?_
   refine zi X12 Bd d11_30 rfl ?_
   refine st18 _ ?_
   refine XS.sipush X18.here hx rfl (hb hby d11_35) ?_
   refine zy (pc' := 54) X18 Bd d11_38 (XT.ii_gt_t ((own_get16l hr20 hc8) : (255 : Int32) < ((((((((((qi3 >>> ((0 : Int32) &&& 31)))).toInt8.toInt32) &&& (255 : Int32)) <<< ((0 : Int32) &&& 31))) ||| (((((((qi3 >>> ((8 : Int32) &&& 31)))).toInt8.toInt32) &&& (255 : Int32)) <<< ((8 : Int32) &&& 31))))).toUInt32.toUInt16.toUInt32.toInt32))) rfl ?_
   refine za X18 Bd d11_54 rfl rfl ?_
   exact retOut X18 hx Bd.returns rfl (Or.inr (Or.inr (Or.inr (Or.inr ⟨rfl, rfl, rfl⟩)))) (hb hby d11_56) hr))
 ·
  skip
  exact absurd hc1 (own_maxno _ (List.forall_mem_cons.mpr ⟨hc8, (fun _ q => nomatch q)⟩))
theorem d2_39 : decode jdk_42_method_149_code 39 = .ok (.astore 5, 2) := by decide +kernel
theorem d2_41 : decode jdk_42_method_149_code 41 = .ok (.aload_n 0, 1) := by decide +kernel
theorem d2_42 : decode jdk_42_method_149_code 42 = .ok (.aload 5, 2) := by decide +kernel
theorem d2_44 : decode jdk_42_method_149_code 44 = .ok (.iload_n 3, 1) := by decide +kernel
theorem d2_45 : decode jdk_42_method_149_code 45 = .ok (.invokestatic 47, 3) := by decide +kernel
theorem d18_0 : decode jdk_52_method_15_code 0 = .ok (.iload_n 1, 1) := by decide +kernel
theorem d18_1 : decode jdk_52_method_15_code 1 = .ok (.aload_n 0, 1) := by decide +kernel
theorem d18_2 : decode jdk_52_method_15_code 2 = .ok (.arraylength, 1) := by decide +kernel
theorem d18_3 : decode jdk_52_method_15_code 3 = .ok (.isub, 1) := by decide +kernel
theorem d18_4 : decode jdk_52_method_15_code 4 = .ok (.bipush 31, 2) := by decide +kernel
theorem d18_6 : decode jdk_52_method_15_code 6 = .ok (.iushr, 1) := by decide +kernel
theorem d18_7 : decode jdk_52_method_15_code 7 = .ok (.i2b, 1) := by decide +kernel
theorem d18_8 : decode jdk_52_method_15_code 8 = .ok (.ireturn, 1) := by decide +kernel
-- java/lang/StringUTF16.coderFromArrayLen([BI)B
def Q19 (Z : State)  (h0 : Heap) (n0 : Nat) (v : Option Value) (h : Heap) (L : List Loc) : Prop := v = some (.int 1) ∧ Fr n0 L ∧ h = h0
theorem rm19 (l : Launch) (Z : State) (a0 : Array Value) (hw : HW a0 Z) (qa1 : Addr) (qk2 : ClassId) (qi3 : Int32) (qi4 : Int32) (h0 : Heap) (n0 : Nat) (X00 : Old Z n0 h0) (A_qa1 : Arv Z h0 qa1 qk2 .byte (2 : Int32) [.int qi3, .int qi4] (.int 0)) :
    MF l Z Y19_ jdk_52_method_15_code 2 (some .byte) (Rm 0 0 0 0) #[.ref qa1, .int 1] h0 (Q19 Z  h0 n0) := by
 refine own_sF pn4 rfl (fun m => ef5 m qa1 (1 : Int32)) ?_
 intro p e s m below meth c s₁ Bd hZ hh hx hby hml hown hnm X0 e0 pre0
 have N0 := Fr.nil n0
 have av1 := A_qa1
 obtain ⟨cl1, Ar1, q1, S1, N1, H1, Gf1⟩ := av1
 refine own_lvF X0 Bd (.int 1) e0 ⟨rfl, N0, rfl⟩ rfl (fun fs hr => pre0 _ (by
  show Sx p e below s₁ m 0 #[rv qa1, iv 1] [] _
  refine zj X0 Bd d18_0 rfl ?_
  refine zb X0 Bd d18_1 rfl rfl ?_
  refine X0.arraylength hx (by rw [e0]; exact Ar1.1) (State.isArrayOf_alike hZ.alike Ar1.2.1) (g := (mkF m 2 #[rv qa1, iv 1] [.ref qa1, .int 1])) rfl rfl (hb hby d18_2) _ ?_
  rw [len_of S1 N1]
  refine XS.isub X0.here hx rfl (hb hby d18_3) rfl ?_
  refine zd X0 Bd d18_4 ?_
  refine XS.iushr X0.here hx rfl (hb hby d18_6) rfl ?_
  refine XS.i2b X0.here hx rfl (hb hby d18_7) rfl ?_
  exact retN X0 hx (t := .byte) Bd.returns (by simp) (hb hby d18_8) hr))
theorem pd15 : parseMethodDescriptor "([BI)B" = some ⟨[(.array .byte), .int], some .byte⟩ := by decide +kernel
theorem d2_48 : decode jdk_42_method_149_code 48 = .ok (.putfield 15, 3) := by decide +kernel
theorem d2_51 : decode jdk_42_method_149_code 51 = .ok (.aload_n 0, 1) := by decide +kernel
theorem d2_52 : decode jdk_42_method_149_code 52 = .ok (.aload 5, 2) := by decide +kernel
theorem d2_54 : decode jdk_42_method_149_code 54 = .ok (.putfield 9, 3) := by decide +kernel
theorem d2_57 : decode jdk_42_method_149_code 57 = .ok (.return_, 1) := by decide +kernel
-- java/lang/String.<init>([CIILjava/lang/Void;)V
def Q20 (Z : State) (qa1 : Addr) (qi4 : Int32) (h0 : Heap) (n0 : Nat) (v : Option Value) (h : Heap) (L : List Loc) : Prop := ∃ b6 : Addr, ∃ c7_ : ClassId, v = none ∧ Fr n0 L ∧ Keep h0 h [qa1] ∧ h0.size ≤ b6 ∧ Exa Z h qa1 "java/lang/String" ∧ Fld Z h qa1 "java/lang/String" "coder" "B" (.int 1) ∧ Fld Z h qa1 "java/lang/String" "value" "[B" (.ref b6) ∧ Arv Z h b6 c7_ .byte (2 : Int32) [(.int ((((qi4 >>> ((0 : Int32) &&& 31)))).toInt8.toInt32)), (.int ((((qi4 >>> ((8 : Int32) &&& 31)))).toInt8.toInt32))] (.int 0)
theorem rm20 (l : Launch) (Z : State) (a0 : Array Value) (hw : HW a0 Z) (G1 : Int32) (qa1 : Addr) (qa2 : Addr) (qk3 : ClassId) (qi4 : Int32) (h0 : Heap) (n0 : Nat) (X00 : Old Z n0 h0) (O2 : Sta Z Z.heap "java/lang/String" "COMPACT_STRINGS" "Z" (.int G1)) (P5 : ¬ (G1 = (0 : Int32))) (uS12 : Sta Z Z.heap "java/lang/StringUTF16" "$assertionsDisabled" "Z" (.int 1)) (uS15 : Sta Z Z.heap "java/lang/StringUTF16" "HI_BYTE_SHIFT" "I" (.int 0)) (uS18 : Sta Z Z.heap "java/lang/StringUTF16" "LO_BYTE_SHIFT" "I" (.int 8)) (A_qa2 : Arv Z h0 qa2 qk3 .char (1 : Int32) [.int qi4] (.int 0)) (hc4 : (255 : Int32) < (own_max ([qi4] : List Int32))) (hr5 : nar .char qi4 = qi4) (E_qa1 : Exa Z h0 qa1 "java/lang/String") (F_qa1_coder : Fld Z h0 qa1 "java/lang/String" "coder" "B" (.int 0)) (g_qa1 : n0 ≤ qa1) (F_qa1_value : Fld Z h0 qa1 "java/lang/String" "value" "[B" .null) :
    MF l Z Y1_ jdk_42_method_149_code 6 none (Rm 4 2 3 57) #[.ref qa1, .ref qa2, .int 0, .int 1, .null] h0 (Q20 Z qa1 qi4 h0 n0) := by
 refine own_sF pn1 rfl (fun m => ef3 m qa1 qa2 (0 : Int32) (1 : Int32)) ?_
 intro p e s m below meth c s₁ Bd hZ hh hx hby hml hown hnm X0 e0 pre0
 have N0 := Fr.nil n0
 obtain ⟨T1, X1, e1, st1⟩ := initO X0 hx hZ hown (w17_ hw) (w18_ hw) (w19_ hw) e0 (g := (mkF m 1 #[rv qa1, rv qa2, iv 0, iv 1, .val .null, .unset] [.ref qa1])) rfl hml.symm rfl (hb hby d2_1) (by decide) (W := 0) (own_hw rfl) (lE rfl)
 obtain ⟨T2, X2, e2, st2⟩ := getS2 X1 hx hZ hown (host := "") (Or.inl (w47_ hw)) Via.refl e1 (O2.ext X00.2) (g := (mkF m 27 #[rv qa1, rv qa2, iv 0, iv 1, .val .null, .unset] [])) rfl (hb hby d2_27)
 obtain ⟨_, T3, L3, X3, hQ3, st3⟩ := own_cS 2 3 [] 36 #[rv qa1, rv qa2, iv 0, iv 1, .val .null, .unset] X2 hx hZ hown (w72_ hw) (w73_ hw) (w74_ hw) (w75_ hw) (rm18 l Z a0 hw  qa2 qk3 qi4 h0 n0 X00 uS12 uS15 uS18 A_qa2 hc4 hr5) pd13 hml.symm (hb hby d2_36) e2 rfl rfl rfl rfl (by decide)
 obtain ⟨b6, c7_, rfl, N3q, K3q, w8, w9⟩ := hQ3
 have N3 := Fr.app N0 N3q
 have K10 := (Keep.refl h0 [qa1]).trans K3q (fun x q => nomatch q)
 have O12 := X00.keep K3q all0
 obtain ⟨_, T11, L11, X11, hQ11, st11⟩ := own_cS 2 3 [.ref qa1] 45 #[rv qa1, rv qa2, iv 0, iv 1, .val .null, rv b6] X3 hx hZ hown (w79_ hw) (w80_ hw) (w74_ hw) (w81_ hw) (rm19 l Z a0 hw  b6 c7_ ((((qi4 >>> ((0 : Int32) &&& 31)))).toInt8.toInt32) ((((qi4 >>> ((8 : Int32) &&& 31)))).toInt8.toInt32) T3.heap n0 O12 w9) pd15 hml.symm (hb hby d2_45) rfl rfl rfl rfl rfl (by decide)
 obtain ⟨rfl, N11q, e11q⟩ := hQ11
 have N11 := Fr.app N3 N11q
 have F13_ := F_qa1_coder.keep K3q nin0
 have E14_ := E_qa1.keep K3q
 obtain ⟨T15, h15, X15, e15, W15, st15⟩ := putF X11 hx hZ hown (host := "") (Or.inl (w27_ hw)) Via.refl e11q F13_ E14_ (Or.inr ⟨(w23_ hw), rfl, hnm⟩) (w7_ hw) (ty := .byte) (by decide) rfl rfl (g := (mkF m 48 #[rv qa1, rv qa2, iv 0, iv 1, .val .null, rv b6] [.int 1, .ref qa1])) rfl rfl (hb hby d2_48)
 have N15 := Fr.snoc X15 N11 g_qa1
 have K16 := K10.wr W15 (Or.inl (mI 0 rfl))
 have F17_ : Fld Z h15 qa1 "java/lang/String" "coder" "B" (.int 1) := F13_.same W15
 have F18_ := F_qa1_value.keep K3q nin0
 have F19_ := F18_.other W15 (Or.inr (slot_ne (Or.inr (w22_ hw)) (Or.inr (w23_ hw)) (by decide) (t := (.array .byte)) (t' := .byte) (by decide) (by decide)))
 have E20_ := E14_.wr W15
 obtain ⟨T21, h21, X21, e21, W21, st21⟩ := putF X15 hx hZ hown (host := "") (Or.inl (w26_ hw)) Via.refl e15 F19_ E20_ (Or.inr ⟨(w22_ hw), rfl, hnm⟩) (w7_ hw) (ty := (.array .byte)) (by decide) rfl rfl (g := (mkF m 54 #[rv qa1, rv qa2, iv 0, iv 1, .val .null, rv b6] [.ref b6, .ref qa1])) rfl rfl (hb hby d2_54)
 have N21 := Fr.snoc X21 N15 g_qa1
 have K22 := K16.wr W21 (Or.inl (mI 0 rfl))
 have F23_ : Fld Z h21 qa1 "java/lang/String" "value" "[B" (.ref b6) := F19_.same W21
 have sz_b6 : h0.size ≤ b6 := w8
 have E24_ := E20_.wr W21
 have F25_ := F17_.other W21 (Or.inr (slot_ne (Or.inr (w23_ hw)) (Or.inr (w22_ hw)) (by decide) (t := .byte) (t' := (.array .byte)) (by decide) (by decide)))
 have A26_ := w9.other W15 (Ne.symm (Nat.ne_of_lt (Nat.lt_of_lt_of_le E_qa1.lt w8)))
 have A27_ := A26_.other W21 (Ne.symm (Nat.ne_of_lt (Nat.lt_of_lt_of_le E_qa1.lt w8)))
 refine own_lvN X21 Bd e21 ⟨b6, c7_, rfl, N21, K22, sz_b6, E24_, F25_, F23_, A27_⟩ rfl (fun fs hr => pre0 _ (by
  show Sx p e below s₁ m 0 #[rv qa1, rv qa2, iv 0, iv 1, .val .null, .unset] [] _
  refine zb X0 Bd d2_0 rfl rfl ?_
  refine st1 _ ?_
  refine zj X1 Bd d2_4 rfl ?_
  refine zp (pc' := 27) X1 Bd d2_5 (XT.i0_ne_t ((by decide) : ¬ ((1 : Int32) = (0 : Int32)))) rfl ?_
  refine st2 _ ?_
  refine zo X2 Bd d2_30 (XT.i0_eq_f (P5 : ¬ (G1 = (0 : Int32)))) ?_
  refine zb X2 Bd d2_33 rfl rfl ?_
  refine zj X2 Bd d2_34 rfl ?_
  refine zj X2 Bd d2_35 rfl ?_
  refine st3 _ ?_
  refine XS.astore X3.here hx rfl (hb hby d2_39) rfl rfl (l' := #[rv qa1, rv qa2, iv 0, iv 1, .val .null, rv b6]) rfl ?_
  refine zb X3 Bd d2_41 rfl rfl ?_
  refine za X3 Bd d2_42 rfl rfl ?_
  refine zj X3 Bd d2_44 rfl ?_
  refine st11 _ ?_
  refine st15 _ ?_
  refine zb X15 Bd d2_51 rfl rfl ?_
  refine za X15 Bd d2_52 rfl rfl ?_
  refine st21 _ ?_
  exact X21.returnOut hx Bd.returns (hb hby d2_57) hr))
-- java/lang/String.<init>([C)V
def Q21 (Z : State) (qa1 : Addr) (qi4 : Int32) (h0 : Heap) (n0 : Nat) (v : Option Value) (h : Heap) (L : List Loc) : Prop := ∃ b5 : Addr, ∃ c6_ : ClassId, v = none ∧ Fr n0 L ∧ Keep h0 h [qa1] ∧ h0.size ≤ b5 ∧ Exa Z h qa1 "java/lang/String" ∧ Fld Z h qa1 "java/lang/String" "coder" "B" (.int 1) ∧ Fld Z h qa1 "java/lang/String" "value" "[B" (.ref b5) ∧ Arv Z h b5 c6_ .byte (2 : Int32) [(.int ((((qi4 >>> ((0 : Int32) &&& 31)))).toInt8.toInt32)), (.int ((((qi4 >>> ((8 : Int32) &&& 31)))).toInt8.toInt32))] (.int 0)
theorem rm21 (l : Launch) (Z : State) (a0 : Array Value) (hw : HW a0 Z) (G1 : Int32) (qa1 : Addr) (qa2 : Addr) (qk3 : ClassId) (qi4 : Int32) (h0 : Heap) (n0 : Nat) (X00 : Old Z n0 h0) (O2 : Sta Z Z.heap "java/lang/String" "COMPACT_STRINGS" "Z" (.int G1)) (P5 : ¬ (G1 = (0 : Int32))) (uS12 : Sta Z Z.heap "java/lang/StringUTF16" "$assertionsDisabled" "Z" (.int 1)) (uS15 : Sta Z Z.heap "java/lang/StringUTF16" "HI_BYTE_SHIFT" "I" (.int 0)) (uS18 : Sta Z Z.heap "java/lang/StringUTF16" "LO_BYTE_SHIFT" "I" (.int 8)) (A_qa2 : Arv Z h0 qa2 qk3 .char (1 : Int32) [.int qi4] (.int 0)) (hc3 : (255 : Int32) < (own_max ([qi4] : List Int32))) (hr4 : nar .char qi4 = qi4) (E_qa1 : Exa Z h0 qa1 "java/lang/String") (F_qa1_coder : Fld Z h0 qa1 "java/lang/String" "coder" "B" (.int 0)) (g_qa1 : n0 ≤ qa1) (F_qa1_value : Fld Z h0 qa1 "java/lang/String" "value" "[B" .null) :
    MF l Z Y2_ jdk_42_method_3_code 2 none (Rm 5 2 3 74) #[.ref qa1, .ref qa2] h0 (Q21 Z qa1 qi4 h0 n0) := by
 refine own_sF pn1 rfl (fun m => ef2 m qa1 qa2) ?_
 intro p e s m below meth c s₁ Bd hZ hh hx hby hml hown hnm X0 e0 pre0
 have N0 := Fr.nil n0
 have av1 := A_qa2
 obtain ⟨cl1, Ar1, q1, S1, N1, H1, Gf1⟩ := av1
 obtain ⟨_, T2, L2, X2, hQ2, st2⟩ := own_cI 2 3 [] 6 #[rv qa1, rv qa2] X0 hx hZ hown (w13_ hw) (w14_ hw) (w8_ hw) (w16_ hw) (rm20 l Z a0 hw G1 qa1 qa2 qk3 qi4 h0 n0 X00 O2 P5 uS12 uS15 uS18 A_qa2 hc3 hr4 E_qa1 F_qa1_coder g_qa1 F_qa1_value) pd1 hml.symm (hb hby d1_6) e0 rfl rfl rfl rfl rfl (by decide)
 obtain ⟨b5, c6_, rfl, N2q, K2q, w7, w8, w9, w10, w11⟩ := hQ2
 have N2 := Fr.app N0 N2q
 have K12 := (Keep.refl h0 [qa1]).trans K2q (allS (Or.inl (mI 0 rfl)) all0)
 have sz_b5 : h0.size ≤ b5 := w7
 have E13_ := E_qa1.keep K2q
 refine own_lvN X2 Bd rfl ⟨b5, c6_, rfl, N2, K12, sz_b5, E13_, w9, w10, w11⟩ rfl (fun fs hr => pre0 _ (by
  show Sx p e below s₁ m 0 #[rv qa1, rv qa2] [] _
  refine zb X0 Bd d1_0 rfl rfl ?_
  refine zb X0 Bd d1_1 rfl rfl ?_
  refine zc X0 Bd d1_2 ?_
  refine zb X0 Bd d1_3 rfl rfl ?_
  refine X0.arraylength hx (by rw [e0]; exact Ar1.1) (State.isArrayOf_alike hZ.alike Ar1.2.1) (g := (mkF m 4 #[rv qa1, rv qa2] [.ref qa2, .int 0, .ref qa2, .ref qa1])) rfl rfl (hb hby d1_4) _ ?_
  rw [len_of S1 N1]
  refine XS.aconstNull X0.here hx rfl (hb hby d1_5) ?_
  refine st2 _ ?_
  exact X2.returnOut hx Bd.returns (hb hby d1_9) hr))
theorem d6_17 : decode jdk_42_method_154_code 17 = .ok (.iconst 0, 1) := by decide +kernel
-- java/lang/String.isLatin1()Z
def Q22 (Z : State)  (h0 : Heap) (n0 : Nat) (v : Option Value) (h : Heap) (L : List Loc) : Prop := v = some (.int 0) ∧ Fr n0 L ∧ h = h0
theorem rm22 (l : Launch) (Z : State) (a0 : Array Value) (hw : HW a0 Z) (G1 : Int32) (qa1 : Addr) (h0 : Heap) (n0 : Nat) (X00 : Old Z n0 h0) (O2 : Sta Z Z.heap "java/lang/String" "COMPACT_STRINGS" "Z" (.int G1)) (P5 : ¬ (G1 = (0 : Int32))) (F_qa1_coder : Fld Z h0 qa1 "java/lang/String" "coder" "B" (.int 1)) :
    MF l Z Y3_ jdk_42_method_154_code 1 (some .boolean) (Rm 0 0 0 0) #[.ref qa1] h0 (Q22 Z  h0 n0) := by
 refine own_sF pn1 rfl (fun m => ef4 m qa1) ?_
 intro p e s m below meth c s₁ Bd hZ hh hx hby hml hown hnm X0 e0 pre0
 have N0 := Fr.nil n0
 obtain ⟨T1, X1, e1, st1⟩ := getS2 X0 hx hZ hown (host := "") (Or.inl (w47_ hw)) Via.refl e0 (O2.ext X00.2) (g := (mkF m 0 #[rv qa1] [])) rfl (hb hby d6_0)
 obtain ⟨T2, X2, e2, st2⟩ := getF X1 hx hZ hown (host := "") (Or.inl (w27_ hw)) Via.refl e1 F_qa1_coder (g := (mkF m 7 #[rv qa1] [.ref qa1])) rfl rfl (hb hby d6_7)
 refine own_lvF X2 Bd (.int 0) e2 ⟨rfl, N0, rfl⟩ rfl (fun fs hr => pre0 _ (by
  show Sx p e below s₁ m 0 #[rv qa1] [] _
  refine st1 _ ?_
  refine zo X1 Bd d6_3 (XT.i0_eq_f (P5 : ¬ (G1 = (0 : Int32)))) ?_
  refine zb X1 Bd d6_6 rfl rfl ?_
  refine st2 _ ?_
  refine zp (pc' := 17) X2 Bd d6_10 (XT.i0_ne_t ((by decide) : ¬ ((1 : Int32) = (0 : Int32)))) rfl ?_
  refine zc X2 Bd d6_17 ?_
  exact retN X2 hx (t := .boolean) Bd.returns (by simp) (hb hby d6_18) hr))
theorem d5_23 : decode jdk_42_method_80_code 23 = .ok (.aload_n 0, 1) := by decide +kernel
theorem d5_24 : decode jdk_42_method_80_code 24 = .ok (.getfield 9, 3) := by decide +kernel
theorem d5_27 : decode jdk_42_method_80_code 27 = .ok (.iload_n 1, 1) := by decide +kernel
theorem d5_28 : decode jdk_42_method_80_code 28 = .ok (.iload_n 2, 1) := by decide +kernel
theorem d5_29 : decode jdk_42_method_80_code 29 = .ok (.aload_n 0, 1) := by decide +kernel
theorem d5_30 : decode jdk_42_method_80_code 30 = .ok (.invokevirtual 505, 3) := by decide +kernel
theorem d19_0 : decode jdk_42_method_54_code 0 = .ok (.aload_n 0, 1) := by decide +kernel
theorem d19_1 : decode jdk_42_method_54_code 1 = .ok (.getfield 9, 3) := by decide +kernel
theorem d19_4 : decode jdk_42_method_54_code 4 = .ok (.arraylength, 1) := by decide +kernel
theorem d19_5 : decode jdk_42_method_54_code 5 = .ok (.aload_n 0, 1) := by decide +kernel
theorem d19_6 : decode jdk_42_method_54_code 6 = .ok (.invokevirtual 335, 3) := by decide +kernel
theorem d20_0 : decode jdk_42_method_152_code 0 = .ok (.getstatic 38, 3) := by decide +kernel
theorem d20_3 : decode jdk_42_method_152_code 3 = .ok (.ifCond .eq 10, 3) := by decide +kernel
theorem d20_6 : decode jdk_42_method_152_code 6 = .ok (.aload_n 0, 1) := by decide +kernel
theorem d20_7 : decode jdk_42_method_152_code 7 = .ok (.getfield 15, 3) := by decide +kernel
theorem d20_10 : decode jdk_42_method_152_code 10 = .ok (.goto 4, 3) := by decide +kernel
theorem d20_14 : decode jdk_42_method_152_code 14 = .ok (.ireturn, 1) := by decide +kernel
-- java/lang/String.coder()B
def Q23 (Z : State)  (h0 : Heap) (n0 : Nat) (v : Option Value) (h : Heap) (L : List Loc) : Prop := v = some (.int 1) ∧ Fr n0 L ∧ h = h0
theorem rm23 (l : Launch) (Z : State) (a0 : Array Value) (hw : HW a0 Z) (G1 : Int32) (qa1 : Addr) (h0 : Heap) (n0 : Nat) (X00 : Old Z n0 h0) (O2 : Sta Z Z.heap "java/lang/String" "COMPACT_STRINGS" "Z" (.int G1)) (P5 : ¬ (G1 = (0 : Int32))) (F_qa1_coder : Fld Z h0 qa1 "java/lang/String" "coder" "B" (.int 1)) :
    MF l Z Y20_ jdk_42_method_152_code 1 (some .byte) (Rm 0 0 0 0) #[.ref qa1] h0 (Q23 Z  h0 n0) := by
 refine own_sF pn1 rfl (fun m => ef4 m qa1) ?_
 intro p e s m below meth c s₁ Bd hZ hh hx hby hml hown hnm X0 e0 pre0
 have N0 := Fr.nil n0
 obtain ⟨T1, X1, e1, st1⟩ := getS2 X0 hx hZ hown (host := "") (Or.inl (w47_ hw)) Via.refl e0 (O2.ext X00.2) (g := (mkF m 0 #[rv qa1] [])) rfl (hb hby d20_0)
 obtain ⟨T2, X2, e2, st2⟩ := getF X1 hx hZ hown (host := "") (Or.inl (w27_ hw)) Via.refl e1 F_qa1_coder (g := (mkF m 7 #[rv qa1] [.ref qa1])) rfl rfl (hb hby d20_7)
 refine own_lvF X2 Bd (.int 1) e2 ⟨rfl, N0, rfl⟩ rfl (fun fs hr => pre0 _ (by
  show Sx p e below s₁ m 0 #[rv qa1] [] _
  refine st1 _ ?_
  refine zo X1 Bd d20_3 (XT.i0_eq_f (P5 : ¬ (G1 = (0 : Int32)))) ?_
  refine zb X1 Bd d20_6 rfl rfl ?_
  refine st2 _ ?_
  refine zg (pc' := 14) X2 Bd d20_10 rfl ?_
  exact retN X2 hx (t := .byte) Bd.returns (by simp) (hb hby d20_14) hr))
theorem pd16 : parseMethodDescriptor "()B" = some ⟨[], some .byte⟩ := by decide +kernel
theorem d19_9 : decode jdk_42_method_54_code 9 = .ok (.ishr, 1) := by decide +kernel
theorem d19_10 : decode jdk_42_method_54_code 10 = .ok (.ireturn, 1) := by decide +kernel
-- java/lang/String.length()I
def Q24 (Z : State)  (h0 : Heap) (n0 : Nat) (v : Option Value) (h : Heap) (L : List Loc) : Prop := v = some (.int 1) ∧ Fr n0 L ∧ h = h0
theorem rm24 (l : Launch) (Z : State) (a0 : Array Value) (hw : HW a0 Z) (G1 : Int32) (qa1 : Addr) (qa2 : Addr) (qk3 : ClassId) (qi4 : Int32) (qi5 : Int32) (h0 : Heap) (n0 : Nat) (X00 : Old Z n0 h0) (O2 : Sta Z Z.heap "java/lang/String" "COMPACT_STRINGS" "Z" (.int G1)) (P5 : ¬ (G1 = (0 : Int32))) (F_qa1_value : Fld Z h0 qa1 "java/lang/String" "value" "[B" (.ref qa2)) (A_qa2 : Arv Z h0 qa2 qk3 .byte (2 : Int32) [.int qi4, .int qi5] (.int 0)) (E_qa1 : Exa Z h0 qa1 "java/lang/String") (F_qa1_coder : Fld Z h0 qa1 "java/lang/String" "coder" "B" (.int 1)) :
    MF l Z Y9_ jdk_42_method_54_code 1 (some .int) (Rm 1 0 0 13) #[.ref qa1] h0 (Q24 Z  h0 n0) := by
 refine own_sF pn1 rfl (fun m => ef4 m qa1) ?_
 intro p e s m below meth c s₁ Bd hZ hh hx hby hml hown hnm X0 e0 pre0
 have N0 := Fr.nil n0
 obtain ⟨T1, X1, e1, st1⟩ := getF X0 hx hZ hown (host := "") (Or.inl (w26_ hw)) Via.refl e0 F_qa1_value (g := (mkF m 1 #[rv qa1] [.ref qa1])) rfl rfl (hb hby d19_1)
 have av2 := A_qa2
 obtain ⟨cl2, Ar2, q2, S2, N2, H2, Gf2⟩ := av2
 obtain ⟨_, T3, L3, X3, hQ3, st3⟩ := own_cV 0 0 [.int 2] 6 #[rv qa1] X1 hx hZ hown E_qa1 (w53_ hw) (w54_ hw) (notFace_of_selects (args := #[]) (mvT hZ (w56_ hw))) (w56_ hw) (w55_ hw) (w8_ hw) (w57_ hw) (rm23 l Z a0 hw G1 qa1 h0 n0 X00 O2 P5 F_qa1_coder) pd16 hml.symm (hb hby d19_6) e1 rfl rfl rfl rfl (by decide)
 obtain ⟨rfl, N3q, e3q⟩ := hQ3
 have N3 := Fr.app N0 N3q
 refine own_lvF X3 Bd (.int 1) e3q ⟨rfl, N3, rfl⟩ rfl (fun fs hr => pre0 _ (by
  show Sx p e below s₁ m 0 #[rv qa1] [] _
  refine zb X0 Bd d19_0 rfl rfl ?_
  refine st1 _ ?_
  refine X1.arraylength hx (by rw [e1]; exact Ar2.1) (State.isArrayOf_alike hZ.alike Ar2.2.1) (g := (mkF m 4 #[rv qa1] [.ref qa2])) rfl rfl (hb hby d19_4) _ ?_
  rw [len_of S2 N2]
  refine zb X1 Bd d19_5 rfl rfl ?_
  refine st3 _ ?_
  refine XS.ishr X3.here hx rfl (hb hby d19_9) rfl ?_
  exact retI X3 hx Bd.returns (hb hby d19_10) hr))
theorem d5_33 : decode jdk_42_method_80_code 33 = .ok (.invokestatic 640, 3) := by decide +kernel
theorem d21_0 : decode jdk_52_method_40_code 0 = .ok (.iload_n 2, 1) := by decide +kernel
theorem d21_1 : decode jdk_52_method_40_code 1 = .ok (.iconst 0, 1) := by decide +kernel
theorem d21_2 : decode jdk_52_method_40_code 2 = .ok (.invokestatic 224, 3) := by decide +kernel
theorem d21_5 : decode jdk_52_method_40_code 5 = .ok (.istore_n 2, 1) := by decide +kernel
theorem d21_6 : decode jdk_52_method_40_code 6 = .ok (.iload_n 3, 1) := by decide +kernel
theorem d21_7 : decode jdk_52_method_40_code 7 = .ok (.aload_n 0, 1) := by decide +kernel
theorem d21_8 : decode jdk_52_method_40_code 8 = .ok (.arraylength, 1) := by decide +kernel
theorem d21_9 : decode jdk_52_method_40_code 9 = .ok (.iconst 1, 1) := by decide +kernel
theorem d21_10 : decode jdk_52_method_40_code 10 = .ok (.ishr, 1) := by decide +kernel
theorem d21_11 : decode jdk_52_method_40_code 11 = .ok (.invokestatic 183, 3) := by decide +kernel
-- java/lang/Math.min(II)I
def Q25 (Z : State)  (h0 : Heap) (n0 : Nat) (v : Option Value) (h : Heap) (L : List Loc) : Prop := v = some (.int 1) ∧ Fr n0 L ∧ h = h0
theorem rm25 (l : Launch) (Z : State) (a0 : Array Value) (hw : HW a0 Z)  (h0 : Heap) (n0 : Nat) (X00 : Old Z n0 h0)  :
    MF l Z Y6_ jdk_29_method_69_code 2 (some .int) (Rm 0 0 0 0) #[.int 1, .int 1] h0 (Q25 Z  h0 n0) := by
 refine own_sFm (K := "java/lang/Math") (by decide +kernel) rfl (fun m => ef9 m (1 : Int32) (1 : Int32)) ?_
 intro p e s m below meth c s₁ Bd hZ hh hx hby hml hown hnm X0 e0 pre0
 have N0 := Fr.nil n0
 refine own_lvF X0 Bd (.int 1) e0 ⟨rfl, N0, rfl⟩ rfl (fun fs hr => pre0 _ (by
  show Sx p e below s₁ m 0 #[iv 1, iv 1] [] _
  refine zj X0 Bd d10_0 rfl ?_
  refine zj X0 Bd d10_1 rfl ?_
  refine zn X0 Bd d10_2 (XT.ii_gt_f ((by decide) : ¬ ((1 : Int32) < (1 : Int32)))) ?_
  refine zj X0 Bd d10_5 rfl ?_
  refine zg (pc' := 10) X0 Bd d10_6 rfl ?_
  exact retI X0 hx Bd.returns (hb hby d10_10) hr))
theorem d21_14 : decode jdk_52_method_40_code 14 = .ok (.istore_n 3, 1) := by decide +kernel
theorem d21_15 : decode jdk_52_method_40_code 15 = .ok (.iload_n 2, 1) := by decide +kernel
theorem d21_16 : decode jdk_52_method_40_code 16 = .ok (.iload_n 3, 1) := by decide +kernel
theorem d21_17 : decode jdk_52_method_40_code 17 = .ok (.if_icmp .lt 5, 3) := by decide +kernel
theorem d21_22 : decode jdk_52_method_40_code 22 = .ok (.iload_n 1, 1) := by decide +kernel
theorem d21_23 : decode jdk_52_method_40_code 23 = .ok (.ldc 227, 2) := by decide +kernel
theorem d21_25 : decode jdk_52_method_40_code 25 = .ok (.if_icmp .ge 11, 3) := by decide +kernel
theorem d21_28 : decode jdk_52_method_40_code 28 = .ok (.aload_n 0, 1) := by decide +kernel
theorem d21_29 : decode jdk_52_method_40_code 29 = .ok (.iload_n 1, 1) := by decide +kernel
theorem d21_30 : decode jdk_52_method_40_code 30 = .ok (.iload_n 2, 1) := by decide +kernel
theorem d21_31 : decode jdk_52_method_40_code 31 = .ok (.iload_n 3, 1) := by decide +kernel
theorem d21_32 : decode jdk_52_method_40_code 32 = .ok (.invokestatic 228, 3) := by decide +kernel
theorem d22_0 : decode jdk_52_method_47_code 0 = .ok (.iload_n 2, 1) := by decide +kernel
theorem d22_1 : decode jdk_52_method_47_code 1 = .ok (.iload_n 3, 1) := by decide +kernel
theorem d22_2 : decode jdk_52_method_47_code 2 = .ok (.aload_n 0, 1) := by decide +kernel
theorem d22_3 : decode jdk_52_method_47_code 3 = .ok (.invokestatic 96, 3) := by decide +kernel
theorem ef13 (m : MethodId) (x0 : Int32) (x1 : Int32) (x2 : Addr) : entryFrame m #[.int x0, .int x1, .ref x2] 3 = mkF m 0 #[.val (.int x0), .val (.int x1), .val (.ref x2)] [] := by first | (simp [entryFrame, mkF, argsToLocals, Value.category]; done) | rfl
theorem d23_0 : decode jdk_52_method_93_code 0 = .ok (.iload_n 0, 1) := by decide +kernel
theorem d23_1 : decode jdk_52_method_93_code 1 = .ok (.iload_n 1, 1) := by decide +kernel
theorem d23_2 : decode jdk_52_method_93_code 2 = .ok (.aload_n 2, 1) := by decide +kernel
theorem d23_3 : decode jdk_52_method_93_code 3 = .ok (.invokestatic 48, 3) := by decide +kernel
theorem d24_0 : decode jdk_52_method_6_code 0 = .ok (.aload_n 0, 1) := by decide +kernel
theorem d24_1 : decode jdk_52_method_6_code 1 = .ok (.arraylength, 1) := by decide +kernel
theorem d24_2 : decode jdk_52_method_6_code 2 = .ok (.iconst 1, 1) := by decide +kernel
theorem d24_3 : decode jdk_52_method_6_code 3 = .ok (.ishr, 1) := by decide +kernel
theorem d24_4 : decode jdk_52_method_6_code 4 = .ok (.ireturn, 1) := by decide +kernel
-- java/lang/StringUTF16.length([B)I
def Q26 (Z : State)  (h0 : Heap) (n0 : Nat) (v : Option Value) (h : Heap) (L : List Loc) : Prop := v = some (.int 1) ∧ Fr n0 L ∧ h = h0
theorem rm26 (l : Launch) (Z : State) (a0 : Array Value) (hw : HW a0 Z) (qa1 : Addr) (qk2 : ClassId) (qi3 : Int32) (qi4 : Int32) (h0 : Heap) (n0 : Nat) (X00 : Old Z n0 h0) (A_qa1 : Arv Z h0 qa1 qk2 .byte (2 : Int32) [.int qi3, .int qi4] (.int 0)) :
    MF l Z Y21_ jdk_52_method_6_code 1 (some .int) (Rm 0 0 0 0) #[.ref qa1] h0 (Q26 Z  h0 n0) := by
 refine own_sF pn4 rfl (fun m => ef4 m qa1) ?_
 intro p e s m below meth c s₁ Bd hZ hh hx hby hml hown hnm X0 e0 pre0
 have N0 := Fr.nil n0
 have av1 := A_qa1
 obtain ⟨cl1, Ar1, q1, S1, N1, H1, Gf1⟩ := av1
 refine own_lvF X0 Bd (.int 1) e0 ⟨rfl, N0, rfl⟩ rfl (fun fs hr => pre0 _ (by
  show Sx p e below s₁ m 0 #[rv qa1] [] _
  refine zb X0 Bd d24_0 rfl rfl ?_
  refine X0.arraylength hx (by rw [e0]; exact Ar1.1) (State.isArrayOf_alike hZ.alike Ar1.2.1) (g := (mkF m 1 #[rv qa1] [.ref qa1])) rfl rfl (hb hby d24_1) _ ?_
  rw [len_of S1 N1]
  refine zc X0 Bd d24_2 ?_
  refine XS.ishr X0.here hx rfl (hb hby d24_3) rfl ?_
  exact retI X0 hx Bd.returns (hb hby d24_4) hr))
theorem pd17 : parseMethodDescriptor "([B)I" = some ⟨[(.array .byte)], some .int⟩ := by decide +kernel
theorem d23_6 : decode jdk_52_method_93_code 6 = .ok (.invokestatic 241, 3) := by decide +kernel
theorem ef14 (m : MethodId) (x0 : Int32) (x1 : Int32) (x2 : Int32) : entryFrame m #[.int x0, .int x1, .int x2] 3 = mkF m 0 #[.val (.int x0), .val (.int x1), .val (.int x2)] [] := by first | (simp [entryFrame, mkF, argsToLocals, Value.category]; done) | rfl
theorem d25_0 : decode jdk_42_method_158_code 0 = .ok (.iload_n 0, 1) := by decide +kernel
theorem d25_1 : decode jdk_42_method_158_code 1 = .ok (.iload_n 1, 1) := by decide +kernel
theorem d25_2 : decode jdk_42_method_158_code 2 = .ok (.iload_n 2, 1) := by decide +kernel
theorem d25_3 : decode jdk_42_method_158_code 3 = .ok (.getstatic 1053, 3) := by decide +kernel
theorem d25_6 : decode jdk_42_method_158_code 6 = .ok (.invokestatic 1062, 3) := by decide +kernel
theorem ef15 (m : MethodId) (x0 : Int32) (x1 : Int32) (x2 : Int32) (x3 : Value) (r3 : x3.isRef = true) : entryFrame m #[.int x0, .int x1, .int x2, x3] 4 = mkF m 0 #[.val (.int x0), .val (.int x1), .val (.int x2), .val x3] [] := by cases x3 <;> first | rfl | (exact absurd r3 (by simp [Value.isRef]))
theorem pn5 : plainName "jdk/internal/util/Preconditions" = true := by first | (simp [plainName, overriddenIn]; done) | decide +kernel
theorem d26_0 : decode jdk_41_method_12_code 0 = .ok (.iload_n 0, 1) := by decide +kernel
theorem d26_1 : decode jdk_41_method_12_code 1 = .ok (.ifCond .lt 13, 3) := by decide +kernel
theorem d26_4 : decode jdk_41_method_12_code 4 = .ok (.iload_n 0, 1) := by decide +kernel
theorem d26_5 : decode jdk_41_method_12_code 5 = .ok (.iload_n 1, 1) := by decide +kernel
theorem d26_6 : decode jdk_41_method_12_code 6 = .ok (.if_icmp .gt 8, 3) := by decide +kernel
theorem d26_9 : decode jdk_41_method_12_code 9 = .ok (.iload_n 1, 1) := by decide +kernel
theorem d26_10 : decode jdk_41_method_12_code 10 = .ok (.iload_n 2, 1) := by decide +kernel
theorem d26_11 : decode jdk_41_method_12_code 11 = .ok (.if_icmp .le 11, 3) := by decide +kernel
theorem d26_22 : decode jdk_41_method_12_code 22 = .ok (.iload_n 0, 1) := by decide +kernel
theorem d26_23 : decode jdk_41_method_12_code 23 = .ok (.ireturn, 1) := by decide +kernel
-- jdk/internal/util/Preconditions.checkFromToIndex(IIILjava/util/function/BiFunction;)I
def Q27 (Z : State)  (h0 : Heap) (n0 : Nat) (v : Option Value) (h : Heap) (L : List Loc) : Prop := v = some (.int 0) ∧ Fr n0 L ∧ h = h0
theorem rm27 (l : Launch) (Z : State) (a0 : Array Value) (hw : HW a0 Z) (G3 : Value) (h0 : Heap) (n0 : Nat) (X00 : Old Z n0 h0) (O4 : Sta Z Z.heap "jdk/internal/util/Preconditions" "SIOOBE_FORMATTER" "Ljava/util/function/BiFunction;" G3) (rG3 : G3.isRef = true) :
    MF l Z Y22_ jdk_41_method_12_code 4 (some .int) (Rm 0 0 0 0) #[.int 0, .int 1, .int 1, G3] h0 (Q27 Z  h0 n0) := by
 refine own_sF pn5 rfl (fun m => ef15 m (0 : Int32) (1 : Int32) (1 : Int32) G3 rG3) ?_
 intro p e s m below meth c s₁ Bd hZ hh hx hby hml hown hnm X0 e0 pre0
 have N0 := Fr.nil n0
 refine own_lvF X0 Bd (.int 0) e0 ⟨rfl, N0, rfl⟩ rfl (fun fs hr => pre0 _ (by
  show Sx p e below s₁ m 0 #[iv 0, iv 1, iv 1, .val G3] [] _
  refine zj X0 Bd d26_0 rfl ?_
  refine zo X0 Bd d26_1 (XT.i0_lt_f ((by decide) : ¬ ((0 : Int32) < (0 : Int32)))) ?_
  refine zj X0 Bd d26_4 rfl ?_
  refine zj X0 Bd d26_5 rfl ?_
  refine zn X0 Bd d26_6 (XT.ii_gt_f ((by decide) : ¬ ((1 : Int32) < (0 : Int32)))) ?_
  refine zj X0 Bd d26_9 rfl ?_
  refine zj X0 Bd d26_10 rfl ?_
  refine zy (pc' := 22) X0 Bd d26_11 (XT.ii_le_t ((by decide) : ¬ ((1 : Int32) < (1 : Int32)))) rfl ?_
  refine zj X0 Bd d26_22 rfl ?_
  exact retI X0 hx Bd.returns (hb hby d26_23) hr))
theorem pd18 : parseMethodDescriptor "(IIILjava/util/function/BiFunction;)I" = some ⟨[.int, .int, .int, (.object "java/util/function/BiFunction")], some .int⟩ := by decide +kernel
theorem d25_9 : decode jdk_42_method_158_code 9 = .ok (.pop, 1) := by decide +kernel
theorem d25_10 : decode jdk_42_method_158_code 10 = .ok (.return_, 1) := by decide +kernel
-- java/lang/String.checkBoundsBeginEnd(III)V
def Q28 (Z : State)  (h0 : Heap) (n0 : Nat) (v : Option Value) (h : Heap) (L : List Loc) : Prop := v = none ∧ Fr n0 L ∧ h = h0
theorem rm28 (l : Launch) (Z : State) (a0 : Array Value) (hw : HW a0 Z) (G3 : Value) (h0 : Heap) (n0 : Nat) (X00 : Old Z n0 h0) (O4 : Sta Z Z.heap "jdk/internal/util/Preconditions" "SIOOBE_FORMATTER" "Ljava/util/function/BiFunction;" G3) (rG3 : G3.isRef = true) :
    MF l Z Y23_ jdk_42_method_158_code 3 none (Rm 1 0 0 15) #[.int 0, .int 1, .int 1] h0 (Q28 Z  h0 n0) := by
 refine own_sF pn1 rfl (fun m => ef14 m (0 : Int32) (1 : Int32) (1 : Int32)) ?_
 intro p e s m below meth c s₁ Bd hZ hh hx hby hml hown hnm X0 e0 pre0
 have N0 := Fr.nil n0
 obtain ⟨T1, X1, e1, st1⟩ := getS2 X0 hx hZ hown (host := "") (Or.inl (w122_ hw)) Via.refl e0 (O4.ext X00.2) (g := (mkF m 3 #[iv 0, iv 1, iv 1] [.int 1, .int 1, .int 0])) rfl (hb hby d25_3)
 obtain ⟨_, T2, L2, X2, hQ2, st2⟩ := own_cS 0 0 [] 6 #[iv 0, iv 1, iv 1] X1 hx hZ hown (w124_ hw) (w125_ hw) (w123_ hw) (w126_ hw) (rm27 l Z a0 hw G3  h0 n0 X00 O4 rG3) pd18 hml.symm (hb hby d25_6) e1 rfl rfl rfl rfl (by decide)
 obtain ⟨rfl, N2q, e2q⟩ := hQ2
 have N2 := Fr.app N0 N2q
 refine own_lvN X2 Bd e2q ⟨rfl, N2, rfl⟩ rfl (fun fs hr => pre0 _ (by
  show Sx p e below s₁ m 0 #[iv 0, iv 1, iv 1] [] _
  refine zj X0 Bd d25_0 rfl ?_
  refine zj X0 Bd d25_1 rfl ?_
  refine zj X0 Bd d25_2 rfl ?_
  refine st1 _ ?_
  refine st2 _ ?_
  refine XS.pop X2.here hx rfl (hb hby d25_9) rfl rfl ?_
  exact X2.returnOut hx Bd.returns (hb hby d25_10) hr))
theorem pd19 : parseMethodDescriptor "(III)V" = some ⟨[.int, .int, .int], none⟩ := by decide +kernel
theorem d23_9 : decode jdk_52_method_93_code 9 = .ok (.return_, 1) := by decide +kernel
-- java/lang/StringUTF16.checkBoundsBeginEnd(II[B)V
def Q29 (Z : State)  (h0 : Heap) (n0 : Nat) (v : Option Value) (h : Heap) (L : List Loc) : Prop := v = none ∧ Fr n0 L ∧ h = h0
theorem rm29 (l : Launch) (Z : State) (a0 : Array Value) (hw : HW a0 Z) (G3 : Value) (qa1 : Addr) (qk2 : ClassId) (qi3 : Int32) (qi4 : Int32) (h0 : Heap) (n0 : Nat) (X00 : Old Z n0 h0) (O4 : Sta Z Z.heap "jdk/internal/util/Preconditions" "SIOOBE_FORMATTER" "Ljava/util/function/BiFunction;" G3) (rG3 : G3.isRef = true) (A_qa1 : Arv Z h0 qa1 qk2 .byte (2 : Int32) [.int qi3, .int qi4] (.int 0)) :
    MF l Z Y24_ jdk_52_method_93_code 3 none (Rm 2 0 0 29) #[.int 0, .int 1, .ref qa1] h0 (Q29 Z  h0 n0) := by
 refine own_sF pn4 rfl (fun m => ef13 m (0 : Int32) (1 : Int32) qa1) ?_
 intro p e s m below meth c s₁ Bd hZ hh hx hby hml hown hnm X0 e0 pre0
 have N0 := Fr.nil n0
 obtain ⟨_, T1, L1, X1, hQ1, st1⟩ := own_cS 0 0 [.int 1, .int 0] 3 #[iv 0, iv 1, rv qa1] X0 hx hZ hown (w116_ hw) (w117_ hw) (w74_ hw) (w118_ hw) (rm26 l Z a0 hw  qa1 qk2 qi3 qi4 h0 n0 X00 A_qa1) pd17 hml.symm (hb hby d23_3) e0 rfl rfl rfl rfl (by decide)
 obtain ⟨rfl, N1q, e1q⟩ := hQ1
 have N1 := Fr.app N0 N1q
 obtain ⟨_, T2, L2, X2, hQ2, st2⟩ := own_cS 0 0 [] 6 #[iv 0, iv 1, rv qa1] X1 hx hZ hown (w119_ hw) (w120_ hw) (w8_ hw) (w121_ hw) (rm28 l Z a0 hw G3  h0 n0 X00 O4 rG3) pd19 hml.symm (hb hby d23_6) e1q rfl rfl rfl rfl (by decide)
 obtain ⟨rfl, N2q, e2q⟩ := hQ2
 have N2 := Fr.app N1 N2q
 refine own_lvN X2 Bd e2q ⟨rfl, N2, rfl⟩ rfl (fun fs hr => pre0 _ (by
  show Sx p e below s₁ m 0 #[iv 0, iv 1, rv qa1] [] _
  refine zj X0 Bd d23_0 rfl ?_
  refine zj X0 Bd d23_1 rfl ?_
  refine zb X0 Bd d23_2 rfl rfl ?_
  refine st1 _ ?_
  refine st2 _ ?_
  exact X2.returnOut hx Bd.returns (hb hby d23_9) hr))
theorem pd20 : parseMethodDescriptor "(II[B)V" = some ⟨[.int, .int, (.array .byte)], none⟩ := by decide +kernel
theorem d22_6 : decode jdk_52_method_47_code 6 = .ok (.aload_n 0, 1) := by decide +kernel
theorem d22_7 : decode jdk_52_method_47_code 7 = .ok (.iload_n 1, 1) := by decide +kernel
theorem d22_8 : decode jdk_52_method_47_code 8 = .ok (.iload_n 2, 1) := by decide +kernel
theorem d22_9 : decode jdk_52_method_47_code 9 = .ok (.iload_n 3, 1) := by decide +kernel
theorem d22_10 : decode jdk_52_method_47_code 10 = .ok (.invokestatic 244, 3) := by decide +kernel
theorem ef16 (m : MethodId) (x0 : Addr) (x1 : Int32) (x2 : Int32) (x3 : Int32) : entryFrame m #[.ref x0, .int x1, .int x2, .int x3] 5 = mkF m 0 #[.val (.ref x0), .val (.int x1), .val (.int x2), .val (.int x3), .unset] [] := by first | (simp [entryFrame, mkF, argsToLocals, Value.category]; done) | rfl
theorem d27_0 : decode jdk_52_method_48_code 0 = .ok (.iload_n 2, 1) := by decide +kernel
theorem d27_1 : decode jdk_52_method_48_code 1 = .ok (.istore 4, 2) := by decide +kernel
theorem d27_3 : decode jdk_52_method_48_code 3 = .ok (.iload 4, 2) := by decide +kernel
theorem d27_5 : decode jdk_52_method_48_code 5 = .ok (.iload_n 3, 1) := by decide +kernel
theorem d27_6 : decode jdk_52_method_48_code 6 = .ok (.if_icmp .ge 22, 3) := by decide +kernel
theorem d27_9 : decode jdk_52_method_48_code 9 = .ok (.aload_n 0, 1) := by decide +kernel
theorem d27_10 : decode jdk_52_method_48_code 10 = .ok (.iload 4, 2) := by decide +kernel
theorem d27_12 : decode jdk_52_method_48_code 12 = .ok (.invokestatic 71, 3) := by decide +kernel
theorem d27_15 : decode jdk_52_method_48_code 15 = .ok (.iload_n 1, 1) := by decide +kernel
theorem d27_16 : decode jdk_52_method_48_code 16 = .ok (.if_icmp .ne 6, 3) := by decide +kernel
theorem d27_19 : decode jdk_52_method_48_code 19 = .ok (.iload 4, 2) := by decide +kernel
theorem d27_21 : decode jdk_52_method_48_code 21 = .ok (.ireturn, 1) := by decide +kernel
theorem d27_22 : decode jdk_52_method_48_code 22 = .ok (.iinc 4 1, 3) := by decide +kernel
theorem d27_25 : decode jdk_52_method_48_code 25 = .ok (.goto (-22), 3) := by decide +kernel
theorem d27_28 : decode jdk_52_method_48_code 28 = .ok (.iconst (-1), 1) := by decide +kernel
theorem d27_29 : decode jdk_52_method_48_code 29 = .ok (.ireturn, 1) := by decide +kernel
-- java/lang/StringUTF16.indexOfCharUnsafe([BIII)I
def Q30 (Z : State) (qi2 : Int32) (qi4 : Int32) (qi5 : Int32) (h0 : Heap) (n0 : Nat) (v : Option Value) (h : Heap) (L : List Loc) : Prop := v = some (.int (own_ix qi2 (own_L1 qi4 qi5) (0 : Int32))) ∧ Fr n0 L ∧ h = h0
theorem rm30 (l : Launch) (Z : State) (a0 : Array Value) (hw : HW a0 Z) (qa1 : Addr) (qi2 : Int32) (qk3 : ClassId) (qi4 : Int32) (qi5 : Int32) (h0 : Heap) (n0 : Nat) (X00 : Old Z n0 h0) (uS12 : Sta Z Z.heap "java/lang/StringUTF16" "$assertionsDisabled" "Z" (.int 1)) (uS15 : Sta Z Z.heap "java/lang/StringUTF16" "HI_BYTE_SHIFT" "I" (.int 0)) (uS18 : Sta Z Z.heap "java/lang/StringUTF16" "LO_BYTE_SHIFT" "I" (.int 8)) (A_qa1 : Arv Z h0 qa1 qk3 .byte (2 : Int32) [.int qi4, .int qi5] (.int 0)) :
    MF l Z Y25_ jdk_52_method_48_code 5 (some .int) (Rm 1 0 0 13) #[.ref qa1, .int qi2, .int 0, .int 1] h0 (Q30 Z qi2 qi4 qi5 h0 n0) := by
 refine own_sF pn4 rfl (fun m => ef16 m qa1 qi2 (0 : Int32) (1 : Int32)) ?_
 intro p e s m below meth c s₁ Bd hZ hh hx hby hml hown hnm X0 e0 pre0
 have N0 := Fr.nil n0
 obtain ⟨_, T1, L1, X1, hQ1, st1⟩ := own_cS 0 0 [] 12 #[rv qa1, iv qi2, iv 0, iv 1, iv 0] X0 hx hZ hown (w101_ hw) (w102_ hw) (w74_ hw) (w103_ hw) (rm17 l Z a0 hw  qa1 (0 : Int32) qk3 qi4 qi5 h0 n0 X00 uS12 uS15 uS18 A_qa1 (by decide) (by decide)) pd14 hml.symm (hb hby d27_12) e0 rfl rfl rfl rfl (by decide)
 obtain ⟨rfl, N1q, e1q⟩ := hQ1
 have N1 := Fr.app N0 N1q
 have pr2 : Pr p e below T1 m 16 #[rv qa1, iv qi2, iv 0, iv 1, iv 0] [.int qi2, (.int ((((((qi4 &&& (255 : Int32)) <<< ((0 : Int32) &&& 31))) ||| (((qi5 &&& (255 : Int32)) <<< ((8 : Int32) &&& 31))))).toUInt32.toUInt16.toUInt32.toInt32))] s₁ (entryFrame m #[.ref qa1, .int qi2, .int 0, .int 1] 5) := fun t k => pre0 t (by
  show Sx p e below s₁ m 0 #[rv qa1, iv qi2, iv 0, iv 1, .unset] [] _
  refine zj X0 Bd d27_0 rfl ?_
  refine zs X0 Bd d27_1 (l' := #[rv qa1, iv qi2, iv 0, iv 1, iv 0]) rfl ?_
  refine zi X0 Bd d27_3 rfl ?_
  refine zj X0 Bd d27_5 rfl ?_
  refine zn X0 Bd d27_6 (XT.ii_ge_f ((by decide) : (0 : Int32) < (1 : Int32))) ?_
  refine zb X0 Bd d27_9 rfl rfl ?_
  refine zi X0 Bd d27_10 rfl ?_
  refine st1 _ ?_
  refine zj X1 Bd d27_15 rfl ?_
  exact k)
 by_cases hc3 : ((((((qi4 &&& (255 : Int32)) <<< ((0 : Int32) &&& 31))) ||| (((qi5 &&& (255 : Int32)) <<< ((8 : Int32) &&& 31))))).toUInt32.toUInt16.toUInt32.toInt32) = qi2
 ·
  skip
  refine own_lvF X1 Bd (.int 0) e1q ⟨(by rw [own_ix, if_pos hc3] <;> rfl), N1, rfl⟩ rfl (fun fs hr => pr2 _ (by
   show Sx p e below T1 m 16 #[rv qa1, iv qi2, iv 0, iv 1, iv 0] [.int qi2, (.int ((((((qi4 &&& (255 : Int32)) <<< ((0 : Int32) &&& 31))) ||| (((qi5 &&& (255 : Int32)) <<< ((8 : Int32) &&& 31))))).toUInt32.toUInt16.toUInt32.toInt32))] _
   refine zn X1 Bd d27_16 (XT.ii_ne_f (hc3 : ((((((qi4 &&& (255 : Int32)) <<< ((0 : Int32) &&& 31))) ||| (((qi5 &&& (255 : Int32)) <<< ((8 : Int32) &&& 31))))).toUInt32.toUInt16.toUInt32.toInt32) = qi2)) ?_
   refine zi X1 Bd d27_19 rfl ?_
   exact retI X1 hx Bd.returns (hb hby d27_21) hr))
 ·
  skip
  refine own_lvF X1 Bd (.int (-1 : Int32)) e1q ⟨(by rw [own_ix, if_neg hc3, own_ix] <;> rfl), N1, rfl⟩ rfl (fun fs hr => pr2 _ (by
   show Sx p e below T1 m 16 #[rv qa1, iv qi2, iv 0, iv 1, iv 0] [.int qi2, (.int ((((((qi4 &&& (255 : Int32)) <<< ((0 : Int32) &&& 31))) ||| (((qi5 &&& (255 : Int32)) <<< ((8 : Int32) &&& 31))))).toUInt32.toUInt16.toUInt32.toInt32))] _
   refine zy (pc' := 22) X1 Bd d27_16 (XT.ii_ne_t (hc3 : ¬ (((((((qi4 &&& (255 : Int32)) <<< ((0 : Int32) &&& 31))) ||| (((qi5 &&& (255 : Int32)) <<< ((8 : Int32) &&& 31))))).toUInt32.toUInt16.toUInt32.toInt32) = qi2))) rfl ?_
   refine XS.iinc X1.here hx rfl (hb hby d27_22) rfl (l' := #[rv qa1, iv qi2, iv 0, iv 1, iv 1]) rfl ?_
   refine zg (pc' := 3) X1 Bd d27_25 rfl ?_
   refine zi X1 Bd d27_3 rfl ?_
   refine zj X1 Bd d27_5 rfl ?_
   refine zy (pc' := 28) X1 Bd d27_6 (XT.ii_ge_t ((by decide) : ¬ ((1 : Int32) < (1 : Int32)))) rfl ?_
   refine zc X1 Bd d27_28 ?_
   exact retI X1 hx Bd.returns (hb hby d27_29) hr))
theorem d22_13 : decode jdk_52_method_47_code 13 = .ok (.ireturn, 1) := by decide +kernel
-- java/lang/StringUTF16.indexOfChar([BIII)I
def Q31 (Z : State) (qi2 : Int32) (qi4 : Int32) (qi5 : Int32) (h0 : Heap) (n0 : Nat) (v : Option Value) (h : Heap) (L : List Loc) : Prop := v = some (.int (own_ix qi2 (own_L1 qi4 qi5) (0 : Int32))) ∧ Fr n0 L ∧ h = h0
theorem rm31 (l : Launch) (Z : State) (a0 : Array Value) (hw : HW a0 Z) (G3 : Value) (qa1 : Addr) (qi2 : Int32) (qk3 : ClassId) (qi4 : Int32) (qi5 : Int32) (h0 : Heap) (n0 : Nat) (X00 : Old Z n0 h0) (O4 : Sta Z Z.heap "jdk/internal/util/Preconditions" "SIOOBE_FORMATTER" "Ljava/util/function/BiFunction;" G3) (rG3 : G3.isRef = true) (uS12 : Sta Z Z.heap "java/lang/StringUTF16" "$assertionsDisabled" "Z" (.int 1)) (uS15 : Sta Z Z.heap "java/lang/StringUTF16" "HI_BYTE_SHIFT" "I" (.int 0)) (uS18 : Sta Z Z.heap "java/lang/StringUTF16" "LO_BYTE_SHIFT" "I" (.int 8)) (A_qa1 : Arv Z h0 qa1 qk3 .byte (2 : Int32) [.int qi4, .int qi5] (.int 0)) :
    MF l Z Y26_ jdk_52_method_47_code 4 (some .int) (Rm 3 0 0 43) #[.ref qa1, .int qi2, .int 0, .int 1] h0 (Q31 Z qi2 qi4 qi5 h0 n0) := by
 refine own_sF pn4 rfl (fun m => ef7 m qa1 qi2 (0 : Int32) (1 : Int32)) ?_
 intro p e s m below meth c s₁ Bd hZ hh hx hby hml hown hnm X0 e0 pre0
 have N0 := Fr.nil n0
 obtain ⟨_, T1, L1, X1, hQ1, st1⟩ := own_cS 0 0 [] 3 #[rv qa1, iv qi2, iv 0, iv 1] X0 hx hZ hown (w113_ hw) (w114_ hw) (w74_ hw) (w115_ hw) (rm29 l Z a0 hw G3 qa1 qk3 qi4 qi5 h0 n0 X00 O4 rG3 A_qa1) pd20 hml.symm (hb hby d22_3) e0 rfl rfl rfl rfl (by decide)
 obtain ⟨rfl, N1q, e1q⟩ := hQ1
 have N1 := Fr.app N0 N1q
 obtain ⟨_, T2, L2, X2, hQ2, st2⟩ := own_cS 0 0 [] 10 #[rv qa1, iv qi2, iv 0, iv 1] X1 hx hZ hown (w127_ hw) (w128_ hw) (w74_ hw) (w129_ hw) (rm30 l Z a0 hw  qa1 qi2 qk3 qi4 qi5 h0 n0 X00 uS12 uS15 uS18 A_qa1) pd7 hml.symm (hb hby d22_10) e1q rfl rfl rfl rfl (by decide)
 obtain ⟨rfl, N2q, e2q⟩ := hQ2
 have N2 := Fr.app N1 N2q
 refine own_lvF X2 Bd (.int (own_ix qi2 (own_L1 qi4 qi5) (0 : Int32))) e2q ⟨rfl, N2, rfl⟩ rfl (fun fs hr => pre0 _ (by
  show Sx p e below s₁ m 0 #[rv qa1, iv qi2, iv 0, iv 1] [] _
  refine zj X0 Bd d22_0 rfl ?_
  refine zj X0 Bd d22_1 rfl ?_
  refine zb X0 Bd d22_2 rfl rfl ?_
  refine st1 _ ?_
  refine zb X1 Bd d22_6 rfl rfl ?_
  refine zj X1 Bd d22_7 rfl ?_
  refine zj X1 Bd d22_8 rfl ?_
  refine zj X1 Bd d22_9 rfl ?_
  refine st2 _ ?_
  exact retI X2 hx Bd.returns (hb hby d22_13) hr))
theorem d21_35 : decode jdk_52_method_40_code 35 = .ok (.ireturn, 1) := by decide +kernel
-- java/lang/StringUTF16.indexOf([BIII)I
def Q32 (Z : State) (qi2 : Int32) (qi4 : Int32) (qi5 : Int32) (h0 : Heap) (n0 : Nat) (v : Option Value) (h : Heap) (L : List Loc) : Prop := v = some (.int (own_ix qi2 (own_L1 qi4 qi5) (0 : Int32))) ∧ Fr n0 L ∧ h = h0
theorem rm32 (l : Launch) (Z : State) (a0 : Array Value) (hw : HW a0 Z) (G3 : Value) (qa1 : Addr) (qi2 : Int32) (qk3 : ClassId) (qi4 : Int32) (qi5 : Int32) (h0 : Heap) (n0 : Nat) (X00 : Old Z n0 h0) (O4 : Sta Z Z.heap "jdk/internal/util/Preconditions" "SIOOBE_FORMATTER" "Ljava/util/function/BiFunction;" G3) (rG3 : G3.isRef = true) (uS12 : Sta Z Z.heap "java/lang/StringUTF16" "$assertionsDisabled" "Z" (.int 1)) (uS15 : Sta Z Z.heap "java/lang/StringUTF16" "HI_BYTE_SHIFT" "I" (.int 0)) (uS18 : Sta Z Z.heap "java/lang/StringUTF16" "LO_BYTE_SHIFT" "I" (.int 8)) (A_qa1 : Arv Z h0 qa1 qk3 .byte (2 : Int32) [.int qi4, .int qi5] (.int 0)) (hc4 : qi2 < (65536 : Int32)) :
    MF l Z Y27_ jdk_52_method_40_code 4 (some .int) (Rm 4 0 0 58) #[.ref qa1, .int qi2, .int 0, .int 1] h0 (Q32 Z qi2 qi4 qi5 h0 n0) := by
 refine own_sF pn4 rfl (fun m => ef7 m qa1 qi2 (0 : Int32) (1 : Int32)) ?_
 intro p e s m below meth c s₁ Bd hZ hh hx hby hml hown hnm X0 e0 pre0
 have N0 := Fr.nil n0
 obtain ⟨_, T1, L1, X1, hQ1, st1⟩ := own_cS 0 0 [] 2 #[rv qa1, iv qi2, iv 0, iv 1] X0 hx hZ hown (w107_ hw) (w66_ hw) (w67_ hw) (w68_ hw) (rm6 l Z a0 hw   h0 n0 X00 ) pd6 hml.symm (hb hby d21_2) e0 rfl rfl rfl rfl (by decide)
 obtain ⟨rfl, N1q, e1q⟩ := hQ1
 have N1 := Fr.app N0 N1q
 have av2 := A_qa1
 obtain ⟨cl2, Ar2, q2, S2, N2, H2, Gf2⟩ := av2
 obtain ⟨_, T3, L3, X3, hQ3, st3⟩ := own_cS 0 0 [] 11 #[rv qa1, iv qi2, iv 0, iv 1] X1 hx hZ hown (w108_ hw) (w70_ hw) (w67_ hw) (w71_ hw) (rm25 l Z a0 hw   h0 n0 X00 ) pd6 hml.symm (hb hby d21_11) e1q rfl rfl rfl rfl (by decide)
 obtain ⟨rfl, N3q, e3q⟩ := hQ3
 have N3 := Fr.app N1 N3q
 obtain ⟨_, T5, L5, X5, hQ5, st5⟩ := own_cS 0 0 [] 32 #[rv qa1, iv qi2, iv 0, iv 1] X3 hx hZ hown (w110_ hw) (w111_ hw) (w74_ hw) (w112_ hw) (rm31 l Z a0 hw G3 qa1 qi2 qk3 qi4 qi5 h0 n0 X00 O4 rG3 uS12 uS15 uS18 A_qa1) pd7 hml.symm (hb hby d21_32) e3q rfl rfl rfl rfl (by decide)
 obtain ⟨rfl, N5q, e5q⟩ := hQ5
 have N5 := Fr.app N3 N5q
 refine own_lvF X5 Bd (.int (own_ix qi2 (own_L1 qi4 qi5) (0 : Int32))) e5q ⟨rfl, N5, rfl⟩ rfl (fun fs hr => pre0 _ (by
  show Sx p e below s₁ m 0 #[rv qa1, iv qi2, iv 0, iv 1] [] _
  refine zj X0 Bd d21_0 rfl ?_
  refine zc X0 Bd d21_1 ?_
  refine st1 _ ?_
  refine zt X1 Bd d21_5 (l' := #[rv qa1, iv qi2, iv 0, iv 1]) rfl ?_
  refine zj X1 Bd d21_6 rfl ?_
  refine zb X1 Bd d21_7 rfl rfl ?_
  refine X1.arraylength hx (by rw [e1q]; exact Ar2.1) (State.isArrayOf_alike hZ.alike Ar2.2.1) (g := (mkF m 8 #[rv qa1, iv qi2, iv 0, iv 1] [.ref qa1, .int 1])) rfl rfl (hb hby d21_8) _ ?_
  rw [len_of S2 N2]
  refine zc X1 Bd d21_9 ?_
  refine XS.ishr X1.here hx rfl (hb hby d21_10) rfl ?_
  refine st3 _ ?_
  refine zt X3 Bd d21_14 (l' := #[rv qa1, iv qi2, iv 0, iv 1]) rfl ?_
  refine zj X3 Bd d21_15 rfl ?_
  refine zj X3 Bd d21_16 rfl ?_
  refine zy (pc' := 22) X3 Bd d21_17 (XT.ii_lt_t ((by decide) : (0 : Int32) < (1 : Int32))) rfl ?_
  refine zj X3 Bd d21_22 rfl ?_
  refine X3.ldcInt hx hown (mvT hZ (w109_ hw)) (g := (mkF m 23 #[rv qa1, iv qi2, iv 0, iv 1] [.int qi2])) rfl (hb hby d21_23) _ ?_
  refine zn X3 Bd d21_25 (XT.ii_ge_f (hc4 : qi2 < (65536 : Int32))) ?_
  refine zb X3 Bd d21_28 rfl rfl ?_
  refine zj X3 Bd d21_29 rfl ?_
  refine zj X3 Bd d21_30 rfl ?_
  refine zj X3 Bd d21_31 rfl ?_
  refine st5 _ ?_
  exact retI X5 hx Bd.returns (hb hby d21_35) hr))
-- java/lang/String.indexOf(II)I
def Q33 (Z : State) (qi2 : Int32) (qi5 : Int32) (qi6 : Int32) (h0 : Heap) (n0 : Nat) (v : Option Value) (h : Heap) (L : List Loc) : Prop := v = some (.int (own_ix qi2 (own_L1 qi5 qi6) (0 : Int32))) ∧ Fr n0 L ∧ h = h0
theorem rm33 (l : Launch) (Z : State) (a0 : Array Value) (hw : HW a0 Z) (G1 : Int32) (G3 : Value) (qa1 : Addr) (qi2 : Int32) (qa3 : Addr) (qk4 : ClassId) (qi5 : Int32) (qi6 : Int32) (h0 : Heap) (n0 : Nat) (X00 : Old Z n0 h0) (O2 : Sta Z Z.heap "java/lang/String" "COMPACT_STRINGS" "Z" (.int G1)) (P5 : ¬ (G1 = (0 : Int32))) (O4 : Sta Z Z.heap "jdk/internal/util/Preconditions" "SIOOBE_FORMATTER" "Ljava/util/function/BiFunction;" G3) (rG3 : G3.isRef = true) (uS12 : Sta Z Z.heap "java/lang/StringUTF16" "$assertionsDisabled" "Z" (.int 1)) (uS15 : Sta Z Z.heap "java/lang/StringUTF16" "HI_BYTE_SHIFT" "I" (.int 0)) (uS18 : Sta Z Z.heap "java/lang/StringUTF16" "LO_BYTE_SHIFT" "I" (.int 8)) (E_qa1 : Exa Z h0 qa1 "java/lang/String") (F_qa1_coder : Fld Z h0 qa1 "java/lang/String" "coder" "B" (.int 1)) (F_qa1_value : Fld Z h0 qa1 "java/lang/String" "value" "[B" (.ref qa3)) (A_qa3 : Arv Z h0 qa3 qk4 .byte (2 : Int32) [.int qi5, .int qi6] (.int 0)) (hc5 : qi2 < (65536 : Int32)) :
    MF l Z Y8_ jdk_42_method_80_code 3 (some .int) (Rm 5 0 0 73) #[.ref qa1, .int qi2, .int 0] h0 (Q33 Z qi2 qi5 qi6 h0 n0) := by
 refine own_sF pn1 rfl (fun m => ef6 m qa1 qi2 (0 : Int32)) ?_
 intro p e s m below meth c s₁ Bd hZ hh hx hby hml hown hnm X0 e0 pre0
 have N0 := Fr.nil n0
 obtain ⟨_, T1, L1, X1, hQ1, st1⟩ := own_cV 0 0 [] 1 #[rv qa1, iv qi2, iv 0] X0 hx hZ hown E_qa1 (w42_ hw) (w43_ hw) (notFace_of_selects (args := #[]) (mvT hZ (w45_ hw))) (w45_ hw) (w44_ hw) (w8_ hw) (w46_ hw) (rm22 l Z a0 hw G1 qa1 h0 n0 X00 O2 P5 F_qa1_coder) pd3 hml.symm (hb hby d5_1) e0 rfl rfl rfl rfl (by decide)
 obtain ⟨rfl, N1q, e1q⟩ := hQ1
 have N1 := Fr.app N0 N1q
 obtain ⟨T2, X2, e2, st2⟩ := getF X1 hx hZ hown (host := "") (Or.inl (w26_ hw)) Via.refl e1q F_qa1_value (g := (mkF m 24 #[rv qa1, iv qi2, iv 0] [.ref qa1])) rfl rfl (hb hby d5_24)
 obtain ⟨_, T3, L3, X3, hQ3, st3⟩ := own_cV 0 0 [.int 0, .int qi2, .ref qa3] 30 #[rv qa1, iv qi2, iv 0] X2 hx hZ hown E_qa1 (w48_ hw) (w49_ hw) (notFace_of_selects (args := #[]) (mvT hZ (w51_ hw))) (w51_ hw) (w50_ hw) (w8_ hw) (w52_ hw) (rm24 l Z a0 hw G1 qa1 qa3 qk4 qi5 qi6 h0 n0 X00 O2 P5 F_qa1_value A_qa3 E_qa1 F_qa1_coder) pd4 hml.symm (hb hby d5_30) e2 rfl rfl rfl rfl (by decide)
 obtain ⟨rfl, N3q, e3q⟩ := hQ3
 have N3 := Fr.app N1 N3q
 obtain ⟨_, T4, L4, X4, hQ4, st4⟩ := own_cS 0 0 [] 33 #[rv qa1, iv qi2, iv 0] X3 hx hZ hown (w104_ hw) (w105_ hw) (w74_ hw) (w106_ hw) (rm32 l Z a0 hw G3 qa3 qi2 qk4 qi5 qi6 h0 n0 X00 O4 rG3 uS12 uS15 uS18 A_qa3 hc5) pd7 hml.symm (hb hby d5_33) e3q rfl rfl rfl rfl (by decide)
 obtain ⟨rfl, N4q, e4q⟩ := hQ4
 have N4 := Fr.app N3 N4q
 refine own_lvF X4 Bd (.int (own_ix qi2 (own_L1 qi5 qi6) (0 : Int32))) e4q ⟨rfl, N4, rfl⟩ rfl (fun fs hr => pre0 _ (by
  show Sx p e below s₁ m 0 #[rv qa1, iv qi2, iv 0] [] _
  refine zb X0 Bd d5_0 rfl rfl ?_
  refine st1 _ ?_
  refine zp (pc' := 23) X1 Bd d5_4 (XT.i0_eq_t ((by decide) : (0 : Int32) = (0 : Int32))) rfl ?_
  refine zb X1 Bd d5_23 rfl rfl ?_
  refine st2 _ ?_
  refine zj X2 Bd d5_27 rfl ?_
  refine zj X2 Bd d5_28 rfl ?_
  refine zb X2 Bd d5_29 rfl rfl ?_
  refine st3 _ ?_
  refine st4 _ ?_
  exact retI X4 hx Bd.returns (hb hby d5_36) hr))
-- java/lang/String.indexOf(I)I
def Q34 (Z : State) (qi2 : Int32) (qi5 : Int32) (qi6 : Int32) (h0 : Heap) (n0 : Nat) (v : Option Value) (h : Heap) (L : List Loc) : Prop := v = some (.int (own_ix qi2 (own_L1 qi5 qi6) (0 : Int32))) ∧ Fr n0 L ∧ h = h0
theorem rm34 (l : Launch) (Z : State) (a0 : Array Value) (hw : HW a0 Z) (G1 : Int32) (G3 : Value) (qa1 : Addr) (qi2 : Int32) (qa3 : Addr) (qk4 : ClassId) (qi5 : Int32) (qi6 : Int32) (h0 : Heap) (n0 : Nat) (X00 : Old Z n0 h0) (O2 : Sta Z Z.heap "java/lang/String" "COMPACT_STRINGS" "Z" (.int G1)) (P5 : ¬ (G1 = (0 : Int32))) (O4 : Sta Z Z.heap "jdk/internal/util/Preconditions" "SIOOBE_FORMATTER" "Ljava/util/function/BiFunction;" G3) (rG3 : G3.isRef = true) (uS12 : Sta Z Z.heap "java/lang/StringUTF16" "$assertionsDisabled" "Z" (.int 1)) (uS15 : Sta Z Z.heap "java/lang/StringUTF16" "HI_BYTE_SHIFT" "I" (.int 0)) (uS18 : Sta Z Z.heap "java/lang/StringUTF16" "LO_BYTE_SHIFT" "I" (.int 8)) (E_qa1 : Exa Z h0 qa1 "java/lang/String") (F_qa1_coder : Fld Z h0 qa1 "java/lang/String" "coder" "B" (.int 1)) (F_qa1_value : Fld Z h0 qa1 "java/lang/String" "value" "[B" (.ref qa3)) (A_qa3 : Arv Z h0 qa3 qk4 .byte (2 : Int32) [.int qi5, .int qi6] (.int 0)) (hc2 : qi2 < (65536 : Int32)) :
    MF l Z Y10_ jdk_42_method_79_code 2 (some .int) (Rm 6 0 0 87) #[.ref qa1, .int qi2] h0 (Q34 Z qi2 qi5 qi6 h0 n0) := by
 refine own_sF pn1 rfl (fun m => ef5 m qa1 qi2) ?_
 intro p e s m below meth c s₁ Bd hZ hh hx hby hml hown hnm X0 e0 pre0
 have N0 := Fr.nil n0
 obtain ⟨_, T1, L1, X1, hQ1, st1⟩ := own_cV 0 0 [] 3 #[rv qa1, iv qi2] X0 hx hZ hown E_qa1 (w37_ hw) (w38_ hw) (notFace_of_selects (args := #[]) (mvT hZ (w40_ hw))) (w40_ hw) (w39_ hw) (w8_ hw) (w41_ hw) (rm33 l Z a0 hw G1 G3 qa1 qi2 qa3 qk4 qi5 qi6 h0 n0 X00 O2 P5 O4 rG3 uS12 uS15 uS18 E_qa1 F_qa1_coder F_qa1_value A_qa3 hc2) pd6 hml.symm (hb hby d4_3) e0 rfl rfl rfl rfl (by decide)
 obtain ⟨rfl, N1q, e1q⟩ := hQ1
 have N1 := Fr.app N0 N1q
 refine own_lvF X1 Bd (.int (own_ix qi2 (own_L1 qi5 qi6) (0 : Int32))) e1q ⟨rfl, N1, rfl⟩ rfl (fun fs hr => pre0 _ (by
  show Sx p e below s₁ m 0 #[rv qa1, iv qi2] [] _
  refine zb X0 Bd d4_0 rfl rfl ?_
  refine zj X0 Bd d4_1 rfl ?_
  refine zc X0 Bd d4_2 ?_
  refine st1 _ ?_
  exact retI X1 hx Bd.returns (hb hby d4_6) hr))
theorem d3_9 : decode prog_2_method_30_code 9 = .ok (.aload_n 0, 1) := by decide +kernel
theorem d3_10 : decode prog_2_method_30_code 10 = .ok (.bipush 38, 2) := by decide +kernel
theorem d3_12 : decode prog_2_method_30_code 12 = .ok (.invokevirtual 271, 3) := by decide +kernel
theorem d3_15 : decode prog_2_method_30_code 15 = .ok (.ifCond .ge 8, 3) := by decide +kernel
theorem d3_18 : decode prog_2_method_30_code 18 = .ok (.bipush 59, 2) := by decide +kernel
theorem d3_20 : decode prog_2_method_30_code 20 = .ok (.goto 5, 3) := by decide +kernel
-- com/example/echoes_to_canon/echoestocanon/HttpUrl.separator(Ljava/lang/String;)C
def Q35 (Z : State) (qi4 : Int32) (qi5 : Int32) (h0 : Heap) (n0 : Nat) (v : Option Value) (h : Heap) (L : List Loc) : Prop := v = some (.int (own_sep (own_L1 qi4 qi5))) ∧ Fr n0 L ∧ h = h0
theorem rm35 (l : Launch) (Z : State) (a0 : Array Value) (hw : HW a0 Z) (G1 : Int32) (G3 : Value) (qa1 : Addr) (qa2 : Addr) (qk3 : ClassId) (qi4 : Int32) (qi5 : Int32) (h0 : Heap) (n0 : Nat) (X00 : Old Z n0 h0) (O2 : Sta Z Z.heap "java/lang/String" "COMPACT_STRINGS" "Z" (.int G1)) (P5 : ¬ (G1 = (0 : Int32))) (O4 : Sta Z Z.heap "jdk/internal/util/Preconditions" "SIOOBE_FORMATTER" "Ljava/util/function/BiFunction;" G3) (rG3 : G3.isRef = true) (uS12 : Sta Z Z.heap "java/lang/StringUTF16" "$assertionsDisabled" "Z" (.int 1)) (uS15 : Sta Z Z.heap "java/lang/StringUTF16" "HI_BYTE_SHIFT" "I" (.int 0)) (uS18 : Sta Z Z.heap "java/lang/StringUTF16" "LO_BYTE_SHIFT" "I" (.int 8)) (E_qa1 : Exa Z h0 qa1 "java/lang/String") (F_qa1_coder : Fld Z h0 qa1 "java/lang/String" "coder" "B" (.int 1)) (F_qa1_value : Fld Z h0 qa1 "java/lang/String" "value" "[B" (.ref qa2)) (A_qa2 : Arv Z h0 qa2 qk3 .byte (2 : Int32) [.int qi4, .int qi5] (.int 0)) :
    MF l Z Y11_ prog_2_method_30_code 1 (some .char) (Rm 7 0 0 100) #[.ref qa1] h0 (Q35 Z qi4 qi5 h0 n0) := by
 refine own_sF pn2 rfl (fun m => ef4 m qa1) ?_
 intro p e s m below meth c s₁ Bd hZ hh hx hby hml hown hnm X0 e0 pre0
 have N0 := Fr.nil n0
 obtain ⟨_, T1, L1, X1, hQ1, st1⟩ := own_cV 0 0 [] 3 #[rv qa1] X0 hx hZ hown E_qa1 (w32_ hw) (w33_ hw) (notFace_of_selects (args := #[]) (mvT hZ (w35_ hw))) (w35_ hw) (w34_ hw) (w8_ hw) (w36_ hw) (rm34 l Z a0 hw G1 G3 qa1 (59 : Int32) qa2 qk3 qi4 qi5 h0 n0 X00 O2 P5 O4 rG3 uS12 uS15 uS18 E_qa1 F_qa1_coder F_qa1_value A_qa2 (by decide)) pd8 hml.symm (hb hby d3_3) e0 rfl rfl rfl rfl (by decide)
 obtain ⟨rfl, N1q, e1q⟩ := hQ1
 have N1 := Fr.app N0 N1q
 have pr2 : Pr p e below T1 m 6 #[rv qa1] [(.int (own_ix (59 : Int32) (own_L1 qi4 qi5) (0 : Int32)))] s₁ (entryFrame m #[.ref qa1] 1) := fun t k => pre0 t (by
  show Sx p e below s₁ m 0 #[rv qa1] [] _
  refine zb X0 Bd d3_0 rfl rfl ?_
  refine zd X0 Bd d3_1 ?_
  refine st1 _ ?_
  exact k)
 by_cases hc3 : (own_ix (59 : Int32) (own_L1 qi4 qi5) (0 : Int32)) < (0 : Int32)
 ·
  skip
  refine own_lvF X1 Bd (.int 38) e1q ⟨(by rw [own_sep, if_pos (show own_ix (59 : Int32) (own_L1 qi4 qi5) (0 : Int32) < (0 : Int32) from hc3)] <;> rfl), N1, rfl⟩ rfl (fun fs hr => pr2 _ (by
   show Sx p e below T1 m 6 #[rv qa1] [(.int (own_ix (59 : Int32) (own_L1 qi4 qi5) (0 : Int32)))] _
   refine zp (pc' := 23) X1 Bd d3_6 (XT.i0_lt_t (hc3 : (own_ix (59 : Int32) (own_L1 qi4 qi5) (0 : Int32)) < (0 : Int32))) rfl ?_
   refine zd X1 Bd d3_23 ?_
   exact retN X1 hx (t := .char) Bd.returns (by simp) (hb hby d3_25) hr))
 ·
  skip
  obtain ⟨_, T4, L4, X4, hQ4, st4⟩ := own_cV 0 0 [] 12 #[rv qa1] X1 hx hZ hown E_qa1 (w32_ hw) (w33_ hw) (notFace_of_selects (args := #[]) (mvT hZ (w35_ hw))) (w35_ hw) (w34_ hw) (w8_ hw) (w36_ hw) (rm34 l Z a0 hw G1 G3 qa1 (38 : Int32) qa2 qk3 qi4 qi5 h0 n0 X00 O2 P5 O4 rG3 uS12 uS15 uS18 E_qa1 F_qa1_coder F_qa1_value A_qa2 (by decide)) pd8 hml.symm (hb hby d3_12) e1q rfl rfl rfl rfl (by decide)
  obtain ⟨rfl, N4q, e4q⟩ := hQ4
  have N4 := Fr.app N1 N4q
  have pr5 : Pr p e below T4 m 15 #[rv qa1] [(.int (own_ix (38 : Int32) (own_L1 qi4 qi5) (0 : Int32)))] s₁ (entryFrame m #[.ref qa1] 1) := fun t k => pr2 t (by
   show Sx p e below T1 m 6 #[rv qa1] [(.int (own_ix (59 : Int32) (own_L1 qi4 qi5) (0 : Int32)))] _
   refine zo X1 Bd d3_6 (XT.i0_lt_f (hc3 : ¬ ((own_ix (59 : Int32) (own_L1 qi4 qi5) (0 : Int32)) < (0 : Int32)))) ?_
   refine zb X1 Bd d3_9 rfl rfl ?_
   refine zd X1 Bd d3_10 ?_
   refine st4 _ ?_
   exact k)
  by_cases hc6 : (own_ix (38 : Int32) (own_L1 qi4 qi5) (0 : Int32)) < (0 : Int32)
  ·
   skip
   refine own_lvF X4 Bd (.int 59) e4q ⟨(by rw [own_sep, if_neg (show ¬ own_ix (59 : Int32) (own_L1 qi4 qi5) (0 : Int32) < (0 : Int32) from hc3), if_pos (show own_ix (38 : Int32) (own_L1 qi4 qi5) (0 : Int32) < (0 : Int32) from hc6)] <;> rfl), N4, rfl⟩ rfl (fun fs hr => pr5 _ (by
    show Sx p e below T4 m 15 #[rv qa1] [(.int (own_ix (38 : Int32) (own_L1 qi4 qi5) (0 : Int32)))] _
    refine zo X4 Bd d3_15 (XT.i0_ge_f (hc6 : (own_ix (38 : Int32) (own_L1 qi4 qi5) (0 : Int32)) < (0 : Int32))) ?_
    refine zd X4 Bd d3_18 ?_
    refine zg (pc' := 25) X4 Bd d3_20 rfl ?_
    exact retN X4 hx (t := .char) Bd.returns (by simp) (hb hby d3_25) hr))
  ·
   skip
   refine own_lvF X4 Bd (.int 38) e4q ⟨(by rw [own_sep, if_neg (show ¬ own_ix (59 : Int32) (own_L1 qi4 qi5) (0 : Int32) < (0 : Int32) from hc3), if_neg (show ¬ own_ix (38 : Int32) (own_L1 qi4 qi5) (0 : Int32) < (0 : Int32) from hc6)] <;> rfl), N4, rfl⟩ rfl (fun fs hr => pr5 _ (by
    show Sx p e below T4 m 15 #[rv qa1] [(.int (own_ix (38 : Int32) (own_L1 qi4 qi5) (0 : Int32)))] _
    refine zp (pc' := 23) X4 Bd d3_15 (XT.i0_ge_t (hc6 : ¬ ((own_ix (38 : Int32) (own_L1 qi4 qi5) (0 : Int32)) < (0 : Int32)))) rfl ?_
    refine zd X4 Bd d3_23 ?_
    exact retN X4 hx (t := .char) Bd.returns (by simp) (hb hby d3_25) hr))
theorem d7_29 : decode jdk_43_method_22_code 29 = .ok (.aload_n 0, 1) := by decide +kernel
theorem d7_30 : decode jdk_43_method_22_code 30 = .ok (.iload_n 1, 1) := by decide +kernel
theorem d7_31 : decode jdk_43_method_22_code 31 = .ok (.iload_n 2, 1) := by decide +kernel
theorem d7_32 : decode jdk_43_method_22_code 32 = .ok (.iload_n 3, 1) := by decide +kernel
theorem d7_33 : decode jdk_43_method_22_code 33 = .ok (.invokestatic 95, 3) := by decide +kernel
theorem ef17 (m : MethodId) (x0 : Addr) (x1 : Int32) (x2 : Int32) (x3 : Int32) : entryFrame m #[.ref x0, .int x1, .int x2, .int x3] 6 = mkF m 0 #[.val (.ref x0), .val (.int x1), .val (.int x2), .val (.int x3), .unset, .unset] [] := by first | (simp [entryFrame, mkF, argsToLocals, Value.category]; done) | rfl
theorem d28_0 : decode jdk_43_method_23_code 0 = .ok (.iload_n 1, 1) := by decide +kernel
theorem d28_1 : decode jdk_43_method_23_code 1 = .ok (.i2b, 1) := by decide +kernel
theorem d28_2 : decode jdk_43_method_23_code 2 = .ok (.istore 4, 2) := by decide +kernel
theorem d28_4 : decode jdk_43_method_23_code 4 = .ok (.iload_n 2, 1) := by decide +kernel
theorem d28_5 : decode jdk_43_method_23_code 5 = .ok (.istore 5, 2) := by decide +kernel
theorem d28_7 : decode jdk_43_method_23_code 7 = .ok (.iload 5, 2) := by decide +kernel
theorem d28_9 : decode jdk_43_method_23_code 9 = .ok (.iload_n 3, 1) := by decide +kernel
theorem d28_10 : decode jdk_43_method_23_code 10 = .ok (.if_icmp .ge 21, 3) := by decide +kernel
theorem d28_13 : decode jdk_43_method_23_code 13 = .ok (.aload_n 0, 1) := by decide +kernel
theorem d28_14 : decode jdk_43_method_23_code 14 = .ok (.iload 5, 2) := by decide +kernel
theorem d28_16 : decode jdk_43_method_23_code 16 = .ok (.baload, 1) := by decide +kernel
theorem d28_17 : decode jdk_43_method_23_code 17 = .ok (.iload 4, 2) := by decide +kernel
theorem d28_19 : decode jdk_43_method_23_code 19 = .ok (.if_icmp .ne 6, 3) := by decide +kernel
theorem d28_22 : decode jdk_43_method_23_code 22 = .ok (.iload 5, 2) := by decide +kernel
theorem d28_24 : decode jdk_43_method_23_code 24 = .ok (.ireturn, 1) := by decide +kernel
theorem d28_25 : decode jdk_43_method_23_code 25 = .ok (.iinc 5 1, 3) := by decide +kernel
theorem d28_28 : decode jdk_43_method_23_code 28 = .ok (.goto (-21), 3) := by decide +kernel
theorem d28_31 : decode jdk_43_method_23_code 31 = .ok (.iconst (-1), 1) := by decide +kernel
theorem d28_32 : decode jdk_43_method_23_code 32 = .ok (.ireturn, 1) := by decide +kernel
-- java/lang/StringLatin1.indexOfChar([BIII)I
def Q36 (Z : State) (qi2 : Int32) (qi4 : Int32) (h0 : Heap) (n0 : Nat) (v : Option Value) (h : Heap) (L : List Loc) : Prop := v = some (.int (own_ix ((qi2).toInt8.toInt32) ([((qi4).toInt8.toInt32)] : List Int32) (0 : Int32))) ∧ Fr n0 L ∧ h = h0
theorem rm36 (l : Launch) (Z : State) (a0 : Array Value) (hw : HW a0 Z) (qa1 : Addr) (qi2 : Int32) (qk3 : ClassId) (qi4 : Int32) (h0 : Heap) (n0 : Nat) (X00 : Old Z n0 h0) (A_qa1 : Arv Z h0 qa1 qk3 .byte (1 : Int32) ((([qi4] : List Int32).map (fun c => c.toInt8.toInt32)).map Value.int) (.int 0)) :
    MF l Z Y28_ jdk_43_method_23_code 6 (some .int) (Rm 0 0 0 0) #[.ref qa1, .int qi2, .int 0, .int 1] h0 (Q36 Z qi2 qi4 h0 n0) := by
 refine own_sF pn3 rfl (fun m => ef17 m qa1 qi2 (0 : Int32) (1 : Int32)) ?_
 intro p e s m below meth c s₁ Bd hZ hh hx hby hml hown hnm X0 e0 pre0
 have N0 := Fr.nil n0
 have av1 := A_qa1
 obtain ⟨cl1, Ar1, q1, S1, N1, H1, Gf1⟩ := av1
 have hin2 : ¬ ((0 : Int32) < 0 ∨ cl1.slots.size ≤ ((0 : Int32) : Int32).toNatClampNeg) := inb_of S1 (by decide)
 have hat2 : cl1.slots[((0 : Int32) : Int32).toNatClampNeg]? = some (.int ((qi4).toInt8.toInt32)) := Has.at H1 hin2 rfl
 have pr3 : Pr p e below s₁ m 19 #[rv qa1, iv qi2, iv 0, iv 1, iv ((qi2).toInt8.toInt32), iv 0] [(.int ((qi2).toInt8.toInt32)), (.int ((qi4).toInt8.toInt32))] s₁ (entryFrame m #[.ref qa1, .int qi2, .int 0, .int 1] 6) := fun t k => pre0 t (by
  show Sx p e below s₁ m 0 #[rv qa1, iv qi2, iv 0, iv 1, .unset, .unset] [] _
  refine zj X0 Bd d28_0 rfl ?_
  refine XS.i2b X0.here hx rfl (hb hby d28_1) rfl ?_
  refine zs X0 Bd d28_2 (l' := #[rv qa1, iv qi2, iv 0, iv 1, iv ((qi2).toInt8.toInt32), .unset]) rfl ?_
  refine zj X0 Bd d28_4 rfl ?_
  refine zs X0 Bd d28_5 (l' := #[rv qa1, iv qi2, iv 0, iv 1, iv ((qi2).toInt8.toInt32), iv 0]) rfl ?_
  refine zi X0 Bd d28_7 rfl ?_
  refine zj X0 Bd d28_9 rfl ?_
  refine zn X0 Bd d28_10 (XT.ii_ge_f ((by decide) : (0 : Int32) < (1 : Int32))) ?_
  refine zb X0 Bd d28_13 rfl rfl ?_
  refine zi X0 Bd d28_14 rfl ?_
  refine X0.baloadBytes hx (j := (0 : Int32)) (v := (.int ((qi4).toInt8.toInt32))) (by rw [e0]; exact Ar1.1) (State.isArrayOf_alike hZ.alike Ar1.2.1) Ar1.2.2 hin2 hat2 (g := (mkF m 16 #[rv qa1, iv qi2, iv 0, iv 1, iv ((qi2).toInt8.toInt32), iv 0] [.int 0, .ref qa1])) rfl rfl (hb hby d28_16) _ ?_
  refine zi X0 Bd d28_17 rfl ?_
  exact k)
 by_cases hc4 : ((qi4).toInt8.toInt32) = ((qi2).toInt8.toInt32)
 ·
  skip
  refine own_lvF X0 Bd (.int 0) e0 ⟨(by rw [own_ix, if_pos hc4] <;> rfl), N0, rfl⟩ rfl (fun fs hr => pr3 _ (by
   show Sx p e below s₁ m 19 #[rv qa1, iv qi2, iv 0, iv 1, iv ((qi2).toInt8.toInt32), iv 0] [(.int ((qi2).toInt8.toInt32)), (.int ((qi4).toInt8.toInt32))] _
   refine zn X0 Bd d28_19 (XT.ii_ne_f (hc4 : ((qi4).toInt8.toInt32) = ((qi2).toInt8.toInt32))) ?_
   refine zi X0 Bd d28_22 rfl ?_
   exact retI X0 hx Bd.returns (hb hby d28_24) hr))
 ·
  skip
  refine own_lvF X0 Bd (.int (-1 : Int32)) e0 ⟨(by rw [own_ix, if_neg hc4, own_ix] <;> rfl), N0, rfl⟩ rfl (fun fs hr => pr3 _ (by
   show Sx p e below s₁ m 19 #[rv qa1, iv qi2, iv 0, iv 1, iv ((qi2).toInt8.toInt32), iv 0] [(.int ((qi2).toInt8.toInt32)), (.int ((qi4).toInt8.toInt32))] _
   refine zy (pc' := 25) X0 Bd d28_19 (XT.ii_ne_t (hc4 : ¬ (((qi4).toInt8.toInt32) = ((qi2).toInt8.toInt32)))) rfl ?_
   refine XS.iinc X0.here hx rfl (hb hby d28_25) rfl (l' := #[rv qa1, iv qi2, iv 0, iv 1, iv ((qi2).toInt8.toInt32), iv 1]) rfl ?_
   refine zg (pc' := 7) X0 Bd d28_28 rfl ?_
   refine zi X0 Bd d28_7 rfl ?_
   refine zj X0 Bd d28_9 rfl ?_
   refine zy (pc' := 31) X0 Bd d28_10 (XT.ii_ge_t ((by decide) : ¬ ((1 : Int32) < (1 : Int32)))) rfl ?_
   refine zc X0 Bd d28_31 ?_
   exact retI X0 hx Bd.returns (hb hby d28_32) hr))
theorem d7_36 : decode jdk_43_method_22_code 36 = .ok (.ireturn, 1) := by decide +kernel
-- java/lang/StringLatin1.indexOf([BIII)I
def Q37 (Z : State) (qi2 : Int32) (qi4 : Int32) (h0 : Heap) (n0 : Nat) (v : Option Value) (h : Heap) (L : List Loc) : Prop := v = some (.int (own_ix ((qi2).toInt8.toInt32) ([((qi4).toInt8.toInt32)] : List Int32) (0 : Int32))) ∧ Fr n0 L ∧ h = h0
theorem rm37 (l : Launch) (Z : State) (a0 : Array Value) (hw : HW a0 Z) (qa1 : Addr) (qi2 : Int32) (qk3 : ClassId) (qi4 : Int32) (h0 : Heap) (n0 : Nat) (X00 : Old Z n0 h0) (hc2 : ¬ (qi2 < (0 : Int32))) (hc3 : ¬ ((255 : Int32) < qi2)) (A_qa1 : Arv Z h0 qa1 qk3 .byte (1 : Int32) ((([qi4] : List Int32).map (fun c => c.toInt8.toInt32)).map Value.int) (.int 0)) :
    MF l Z Y7_ jdk_43_method_22_code 4 (some .int) (Rm 1 0 0 17) #[.ref qa1, .int qi2, .int 0, .int 1] h0 (Q37 Z qi2 qi4 h0 n0) := by
 refine own_sF pn3 rfl (fun m => ef7 m qa1 qi2 (0 : Int32) (1 : Int32)) ?_
 intro p e s m below meth c s₁ Bd hZ hh hx hby hml hown hnm X0 e0 pre0
 have N0 := Fr.nil n0
 obtain ⟨_, T1, L1, X1, hQ1, st1⟩ := own_cS 0 0 [] 1 #[rv qa1, iv qi2, iv 0, iv 1] X0 hx hZ hown (w62_ hw) (w63_ hw) (w60_ hw) (w64_ hw) (rm5 l Z a0 hw  qi2 h0 n0 X00 hc2 hc3) pd5 hml.symm (hb hby d7_1) e0 rfl rfl rfl rfl (by decide)
 obtain ⟨rfl, N1q, e1q⟩ := hQ1
 have N1 := Fr.app N0 N1q
 obtain ⟨_, T4, L4, X4, hQ4, st4⟩ := own_cS 0 0 [] 11 #[rv qa1, iv qi2, iv 0, iv 1] X1 hx hZ hown (w65_ hw) (w66_ hw) (w67_ hw) (w68_ hw) (rm6 l Z a0 hw   h0 n0 X00 ) pd6 hml.symm (hb hby d7_11) e1q rfl rfl rfl rfl (by decide)
 obtain ⟨rfl, N4q, e4q⟩ := hQ4
 have N4 := Fr.app N1 N4q
 have av5 := A_qa1
 obtain ⟨cl5, Ar5, q5, S5, N5, H5, Gf5⟩ := av5
 obtain ⟨_, T6, L6, X6, hQ6, st6⟩ := own_cS 0 0 [] 18 #[rv qa1, iv qi2, iv 0, iv 1] X4 hx hZ hown (w69_ hw) (w70_ hw) (w67_ hw) (w71_ hw) (rm25 l Z a0 hw   h0 n0 X00 ) pd6 hml.symm (hb hby d7_18) e4q rfl rfl rfl rfl (by decide)
 obtain ⟨rfl, N6q, e6q⟩ := hQ6
 have N6 := Fr.app N4 N6q
 obtain ⟨_, T7, L7, X7, hQ7, st7⟩ := own_cS 0 0 [] 33 #[rv qa1, iv qi2, iv 0, iv 1] X6 hx hZ hown (w82_ hw) (w83_ hw) (w60_ hw) (w84_ hw) (rm36 l Z a0 hw  qa1 qi2 qk3 qi4 h0 n0 X00 A_qa1) pd7 hml.symm (hb hby d7_33) e6q rfl rfl rfl rfl (by decide)
 obtain ⟨rfl, N7q, e7q⟩ := hQ7
 have N7 := Fr.app N6 N7q
 refine own_lvF X7 Bd (.int (own_ix ((qi2).toInt8.toInt32) ([((qi4).toInt8.toInt32)] : List Int32) (0 : Int32))) e7q ⟨rfl, N7, rfl⟩ rfl (fun fs hr => pre0 _ (by
  show Sx p e below s₁ m 0 #[rv qa1, iv qi2, iv 0, iv 1] [] _
  refine zj X0 Bd d7_0 rfl ?_
  refine st1 _ ?_
  refine zp (pc' := 9) X1 Bd d7_4 (XT.i0_ne_t ((by decide) : ¬ ((1 : Int32) = (0 : Int32)))) rfl ?_
  refine zj X1 Bd d7_9 rfl ?_
  refine zc X1 Bd d7_10 ?_
  refine st4 _ ?_
  refine zt X4 Bd d7_14 (l' := #[rv qa1, iv qi2, iv 0, iv 1]) rfl ?_
  refine zj X4 Bd d7_15 rfl ?_
  refine zb X4 Bd d7_16 rfl rfl ?_
  refine X4.arraylength hx (by rw [e4q]; exact Ar5.1) (State.isArrayOf_alike hZ.alike Ar5.2.1) (g := (mkF m 17 #[rv qa1, iv qi2, iv 0, iv 1] [.ref qa1, .int 1])) rfl rfl (hb hby d7_17) _ ?_
  rw [len_of S5 N5]
  refine st6 _ ?_
  refine zt X6 Bd d7_21 (l' := #[rv qa1, iv qi2, iv 0, iv 1]) rfl ?_
  refine zj X6 Bd d7_22 rfl ?_
  refine zj X6 Bd d7_23 rfl ?_
  refine zy (pc' := 29) X6 Bd d7_24 (XT.ii_lt_t ((by decide) : (0 : Int32) < (1 : Int32))) rfl ?_
  refine zb X6 Bd d7_29 rfl rfl ?_
  refine zj X6 Bd d7_30 rfl ?_
  refine zj X6 Bd d7_31 rfl ?_
  refine zj X6 Bd d7_32 rfl ?_
  refine st7 _ ?_
  exact retI X7 hx Bd.returns (hb hby d7_36) hr))
-- java/lang/String.indexOf(II)I
def Q38 (Z : State) (qi2 : Int32) (qi4 : Int32) (h0 : Heap) (n0 : Nat) (v : Option Value) (h : Heap) (L : List Loc) : Prop := v = some (.int (own_ix ((qi2).toInt8.toInt32) ([((qi4).toInt8.toInt32)] : List Int32) (0 : Int32))) ∧ Fr n0 L ∧ h = h0
theorem rm38 (l : Launch) (Z : State) (a0 : Array Value) (hw : HW a0 Z) (G1 : Int32) (qa1 : Addr) (qi2 : Int32) (qa3 : Addr) (qi4 : Int32) (qk5 : ClassId) (h0 : Heap) (n0 : Nat) (X00 : Old Z n0 h0) (O2 : Sta Z Z.heap "java/lang/String" "COMPACT_STRINGS" "Z" (.int G1)) (P5 : ¬ (G1 = (0 : Int32))) (E_qa1 : Exa Z h0 qa1 "java/lang/String") (F_qa1_coder : Fld Z h0 qa1 "java/lang/String" "coder" "B" (.int 0)) (F_qa1_value : Fld Z h0 qa1 "java/lang/String" "value" "[B" (.ref qa3)) (hp_qa1 : ∀ c ∈ ([qi4] : List Int32), ¬ c < 0 ∧ ¬ (255 : Int32) < c) (A_qa3 : Arv Z h0 qa3 qk5 .byte (1 : Int32) ((([qi4] : List Int32).map (fun c => c.toInt8.toInt32)).map Value.int) (.int 0)) (hc6 : ¬ (qi2 < (0 : Int32))) (hc7 : ¬ ((255 : Int32) < qi2)) :
    MF l Z Y8_ jdk_42_method_80_code 3 (some .int) (Rm 2 0 0 32) #[.ref qa1, .int qi2, .int 0] h0 (Q38 Z qi2 qi4 h0 n0) := by
 refine own_sF pn1 rfl (fun m => ef6 m qa1 qi2 (0 : Int32)) ?_
 intro p e s m below meth c s₁ Bd hZ hh hx hby hml hown hnm X0 e0 pre0
 have N0 := Fr.nil n0
 obtain ⟨_, T1, L1, X1, hQ1, st1⟩ := own_cV 0 0 [] 1 #[rv qa1, iv qi2, iv 0] X0 hx hZ hown E_qa1 (w42_ hw) (w43_ hw) (notFace_of_selects (args := #[]) (mvT hZ (w45_ hw))) (w45_ hw) (w44_ hw) (w8_ hw) (w46_ hw) (rm4 l Z a0 hw G1 qa1 h0 n0 X00 O2 P5 F_qa1_coder) pd3 hml.symm (hb hby d5_1) e0 rfl rfl rfl rfl (by decide)
 obtain ⟨rfl, N1q, e1q⟩ := hQ1
 have N1 := Fr.app N0 N1q
 obtain ⟨T2, X2, e2, st2⟩ := getF X1 hx hZ hown (host := "") (Or.inl (w26_ hw)) Via.refl e1q F_qa1_value (g := (mkF m 8 #[rv qa1, iv qi2, iv 0] [.ref qa1])) rfl rfl (hb hby d5_8)
 have hcd4 : StrChars.Road.CodA ([qi4] : List Int32) 0 (1 : Int32) ((([qi4] : List Int32).map (fun c => c.toInt8.toInt32)).map Value.int) := StrChars.Road.codOf (n := 1) rfl (fun x hx => (hp_qa1 x hx).2)
 have hbd4 : ∀ x ∈ ([qi4] : List Int32), ¬ x < 0 ∧ ¬ (65535 : Int32) < x := own_up _ hp_qa1
 obtain ⟨cq3, kq3, q3a, q3b, q3c⟩ := isOf hZ e2 E_qa1
 obtain ⟨_, T3, L3, X3, hQ3, st3⟩ := own_cb0 0 0 0 0 0 0 (X2.virtualBack hx (y := Y9_) (z := Y9_) hown (mvT hZ (w48_ hw)) (mvT hZ (w49_ hw)) (notFace_of_selects (args := #[]) (mvT hZ (w51_ hw))) (mvT hZ (w51_ hw)) (mvT hZ (w50_ hw)) (by decide) (StrChars.Road.lenW (W := 3) hZ (own_wl hw) (kI := 4) (w7_ hw) E_qa1 F_qa1_value F_qa1_coder A_qa3 hcd4 hbd4 (O2.ext X00.2) P5 (lE rfl) (lE rfl) (lE rfl)) q3a q3c (g := (mkF m 14 #[rv qa1, iv qi2, iv 0] [.ref qa1, .int 0, .int qi2, .ref qa3])) rfl hml.symm (Steps.refl _) (argsL := []) (rest := [.int 0, .int qi2, .ref qa3]) (lenOf pd4 rfl) rfl (own_hw rfl) (hb hby d5_14) (fun _ _ => ⟨rfl, e2, (lE rfl : 0 + 0 ≤ _), (lE rfl : 0 + 0 ≤ _)⟩)) rfl rfl
 dsimp only [Pt.U, Pt.locs, Pt.cells, Pt.slots] at hQ3
 obtain ⟨rfl, rfl, e3q⟩ := hQ3
 have N3 := Fr.app N1 (Fr.nil n0)
 obtain ⟨_, T5, L5, X5, hQ5, st5⟩ := own_cS 0 0 [] 17 #[rv qa1, iv qi2, iv 0] X3 hx hZ hown (w58_ hw) (w59_ hw) (w60_ hw) (w61_ hw) (rm37 l Z a0 hw  qa3 qi2 qk5 qi4 h0 n0 X00 hc6 hc7 A_qa3) pd7 hml.symm (hb hby d5_17) e3q rfl rfl rfl rfl (by decide)
 obtain ⟨rfl, N5q, e5q⟩ := hQ5
 have N5 := Fr.app N3 N5q
 refine own_lvF X5 Bd (.int (own_ix ((qi2).toInt8.toInt32) ([((qi4).toInt8.toInt32)] : List Int32) (0 : Int32))) e5q ⟨rfl, N5, rfl⟩ rfl (fun fs hr => pre0 _ (by
  show Sx p e below s₁ m 0 #[rv qa1, iv qi2, iv 0] [] _
  refine zb X0 Bd d5_0 rfl rfl ?_
  refine st1 _ ?_
  refine zo X1 Bd d5_4 (XT.i0_eq_f ((by decide) : ¬ ((1 : Int32) = (0 : Int32)))) ?_
  refine zb X1 Bd d5_7 rfl rfl ?_
  refine st2 _ ?_
  refine zj X2 Bd d5_11 rfl ?_
  refine zj X2 Bd d5_12 rfl ?_
  refine zb X2 Bd d5_13 rfl rfl ?_
  refine st3.trans ?_
  refine st5 _ ?_
  refine zg (pc' := 36) X5 Bd d5_20 rfl ?_
  exact retI X5 hx Bd.returns (hb hby d5_36) hr))
-- java/lang/String.indexOf(I)I
def Q39 (Z : State) (qi2 : Int32) (qi4 : Int32) (h0 : Heap) (n0 : Nat) (v : Option Value) (h : Heap) (L : List Loc) : Prop := v = some (.int (own_ix ((qi2).toInt8.toInt32) ([((qi4).toInt8.toInt32)] : List Int32) (0 : Int32))) ∧ Fr n0 L ∧ h = h0
theorem rm39 (l : Launch) (Z : State) (a0 : Array Value) (hw : HW a0 Z) (G1 : Int32) (qa1 : Addr) (qi2 : Int32) (qa3 : Addr) (qi4 : Int32) (qk5 : ClassId) (h0 : Heap) (n0 : Nat) (X00 : Old Z n0 h0) (O2 : Sta Z Z.heap "java/lang/String" "COMPACT_STRINGS" "Z" (.int G1)) (P5 : ¬ (G1 = (0 : Int32))) (E_qa1 : Exa Z h0 qa1 "java/lang/String") (F_qa1_coder : Fld Z h0 qa1 "java/lang/String" "coder" "B" (.int 0)) (F_qa1_value : Fld Z h0 qa1 "java/lang/String" "value" "[B" (.ref qa3)) (hp_qa1 : ∀ c ∈ ([qi4] : List Int32), ¬ c < 0 ∧ ¬ (255 : Int32) < c) (A_qa3 : Arv Z h0 qa3 qk5 .byte (1 : Int32) ((([qi4] : List Int32).map (fun c => c.toInt8.toInt32)).map Value.int) (.int 0)) (hc2 : ¬ (qi2 < (0 : Int32))) (hc3 : ¬ ((255 : Int32) < qi2)) :
    MF l Z Y10_ jdk_42_method_79_code 2 (some .int) (Rm 3 0 0 46) #[.ref qa1, .int qi2] h0 (Q39 Z qi2 qi4 h0 n0) := by
 refine own_sF pn1 rfl (fun m => ef5 m qa1 qi2) ?_
 intro p e s m below meth c s₁ Bd hZ hh hx hby hml hown hnm X0 e0 pre0
 have N0 := Fr.nil n0
 obtain ⟨_, T1, L1, X1, hQ1, st1⟩ := own_cV 0 0 [] 3 #[rv qa1, iv qi2] X0 hx hZ hown E_qa1 (w37_ hw) (w38_ hw) (notFace_of_selects (args := #[]) (mvT hZ (w40_ hw))) (w40_ hw) (w39_ hw) (w8_ hw) (w41_ hw) (rm38 l Z a0 hw G1 qa1 qi2 qa3 qi4 qk5 h0 n0 X00 O2 P5 E_qa1 F_qa1_coder F_qa1_value hp_qa1 A_qa3 hc2 hc3) pd6 hml.symm (hb hby d4_3) e0 rfl rfl rfl rfl (by decide)
 obtain ⟨rfl, N1q, e1q⟩ := hQ1
 have N1 := Fr.app N0 N1q
 refine own_lvF X1 Bd (.int (own_ix ((qi2).toInt8.toInt32) ([((qi4).toInt8.toInt32)] : List Int32) (0 : Int32))) e1q ⟨rfl, N1, rfl⟩ rfl (fun fs hr => pre0 _ (by
  show Sx p e below s₁ m 0 #[rv qa1, iv qi2] [] _
  refine zb X0 Bd d4_0 rfl rfl ?_
  refine zj X0 Bd d4_1 rfl ?_
  refine zc X0 Bd d4_2 ?_
  refine st1 _ ?_
  exact retI X1 hx Bd.returns (hb hby d4_6) hr))
-- com/example/echoes_to_canon/echoestocanon/HttpUrl.separator(Ljava/lang/String;)C
def Q40 (Z : State) (qi3 : Int32) (h0 : Heap) (n0 : Nat) (v : Option Value) (h : Heap) (L : List Loc) : Prop := v = some (.int (own_sep ([((qi3).toInt8.toInt32)] : List Int32))) ∧ Fr n0 L ∧ h = h0
theorem rm40 (l : Launch) (Z : State) (a0 : Array Value) (hw : HW a0 Z) (G1 : Int32) (qa1 : Addr) (qa2 : Addr) (qi3 : Int32) (qk4 : ClassId) (h0 : Heap) (n0 : Nat) (X00 : Old Z n0 h0) (O2 : Sta Z Z.heap "java/lang/String" "COMPACT_STRINGS" "Z" (.int G1)) (P5 : ¬ (G1 = (0 : Int32))) (E_qa1 : Exa Z h0 qa1 "java/lang/String") (F_qa1_coder : Fld Z h0 qa1 "java/lang/String" "coder" "B" (.int 0)) (F_qa1_value : Fld Z h0 qa1 "java/lang/String" "value" "[B" (.ref qa2)) (hp_qa1 : ∀ c ∈ ([qi3] : List Int32), ¬ c < 0 ∧ ¬ (255 : Int32) < c) (A_qa2 : Arv Z h0 qa2 qk4 .byte (1 : Int32) ((([qi3] : List Int32).map (fun c => c.toInt8.toInt32)).map Value.int) (.int 0)) :
    MF l Z Y11_ prog_2_method_30_code 1 (some .char) (Rm 4 0 0 59) #[.ref qa1] h0 (Q40 Z qi3 h0 n0) := by
 refine own_sF pn2 rfl (fun m => ef4 m qa1) ?_
 intro p e s m below meth c s₁ Bd hZ hh hx hby hml hown hnm X0 e0 pre0
 have N0 := Fr.nil n0
 obtain ⟨_, T1, L1, X1, hQ1, st1⟩ := own_cV 0 0 [] 3 #[rv qa1] X0 hx hZ hown E_qa1 (w32_ hw) (w33_ hw) (notFace_of_selects (args := #[]) (mvT hZ (w35_ hw))) (w35_ hw) (w34_ hw) (w8_ hw) (w36_ hw) (rm39 l Z a0 hw G1 qa1 (59 : Int32) qa2 qi3 qk4 h0 n0 X00 O2 P5 E_qa1 F_qa1_coder F_qa1_value hp_qa1 A_qa2 (by decide) (by decide)) pd8 hml.symm (hb hby d3_3) e0 rfl rfl rfl rfl (by decide)
 obtain ⟨rfl, N1q, e1q⟩ := hQ1
 have N1 := Fr.app N0 N1q
 have pr2 : Pr p e below T1 m 6 #[rv qa1] [(.int (own_ix (((59 : Int32)).toInt8.toInt32) ([((qi3).toInt8.toInt32)] : List Int32) (0 : Int32)))] s₁ (entryFrame m #[.ref qa1] 1) := fun t k => pre0 t (by
  show Sx p e below s₁ m 0 #[rv qa1] [] _
  refine zb X0 Bd d3_0 rfl rfl ?_
  refine zd X0 Bd d3_1 ?_
  refine st1 _ ?_
  exact k)
 by_cases hc3 : (own_ix (((59 : Int32)).toInt8.toInt32) ([((qi3).toInt8.toInt32)] : List Int32) (0 : Int32)) < (0 : Int32)
 ·
  skip
  refine own_lvF X1 Bd (.int 38) e1q ⟨(by rw [own_sep, if_pos (show own_ix (59 : Int32) ([((qi3).toInt8.toInt32)] : List Int32) (0 : Int32) < (0 : Int32) from hc3)] <;> rfl), N1, rfl⟩ rfl (fun fs hr => pr2 _ (by
   show Sx p e below T1 m 6 #[rv qa1] [(.int (own_ix (((59 : Int32)).toInt8.toInt32) ([((qi3).toInt8.toInt32)] : List Int32) (0 : Int32)))] _
   refine zp (pc' := 23) X1 Bd d3_6 (XT.i0_lt_t (hc3 : (own_ix (((59 : Int32)).toInt8.toInt32) ([((qi3).toInt8.toInt32)] : List Int32) (0 : Int32)) < (0 : Int32))) rfl ?_
   refine zd X1 Bd d3_23 ?_
   exact retN X1 hx (t := .char) Bd.returns (by simp) (hb hby d3_25) hr))
 ·
  skip
  obtain ⟨_, T4, L4, X4, hQ4, st4⟩ := own_cV 0 0 [] 12 #[rv qa1] X1 hx hZ hown E_qa1 (w32_ hw) (w33_ hw) (notFace_of_selects (args := #[]) (mvT hZ (w35_ hw))) (w35_ hw) (w34_ hw) (w8_ hw) (w36_ hw) (rm39 l Z a0 hw G1 qa1 (38 : Int32) qa2 qi3 qk4 h0 n0 X00 O2 P5 E_qa1 F_qa1_coder F_qa1_value hp_qa1 A_qa2 (by decide) (by decide)) pd8 hml.symm (hb hby d3_12) e1q rfl rfl rfl rfl (by decide)
  obtain ⟨rfl, N4q, e4q⟩ := hQ4
  have N4 := Fr.app N1 N4q
  have pr5 : Pr p e below T4 m 15 #[rv qa1] [(.int (own_ix (((38 : Int32)).toInt8.toInt32) ([((qi3).toInt8.toInt32)] : List Int32) (0 : Int32)))] s₁ (entryFrame m #[.ref qa1] 1) := fun t k => pr2 t (by
   show Sx p e below T1 m 6 #[rv qa1] [(.int (own_ix (((59 : Int32)).toInt8.toInt32) ([((qi3).toInt8.toInt32)] : List Int32) (0 : Int32)))] _
   refine zo X1 Bd d3_6 (XT.i0_lt_f (hc3 : ¬ ((own_ix (((59 : Int32)).toInt8.toInt32) ([((qi3).toInt8.toInt32)] : List Int32) (0 : Int32)) < (0 : Int32)))) ?_
   refine zb X1 Bd d3_9 rfl rfl ?_
   refine zd X1 Bd d3_10 ?_
   refine st4 _ ?_
   exact k)
  by_cases hc6 : (own_ix (((38 : Int32)).toInt8.toInt32) ([((qi3).toInt8.toInt32)] : List Int32) (0 : Int32)) < (0 : Int32)
  ·
   skip
   refine own_lvF X4 Bd (.int 59) e4q ⟨(by rw [own_sep, if_neg (show ¬ own_ix (59 : Int32) ([((qi3).toInt8.toInt32)] : List Int32) (0 : Int32) < (0 : Int32) from hc3), if_pos (show own_ix (38 : Int32) ([((qi3).toInt8.toInt32)] : List Int32) (0 : Int32) < (0 : Int32) from hc6)] <;> rfl), N4, rfl⟩ rfl (fun fs hr => pr5 _ (by
    show Sx p e below T4 m 15 #[rv qa1] [(.int (own_ix (((38 : Int32)).toInt8.toInt32) ([((qi3).toInt8.toInt32)] : List Int32) (0 : Int32)))] _
    refine zo X4 Bd d3_15 (XT.i0_ge_f (hc6 : (own_ix (((38 : Int32)).toInt8.toInt32) ([((qi3).toInt8.toInt32)] : List Int32) (0 : Int32)) < (0 : Int32))) ?_
    refine zd X4 Bd d3_18 ?_
    refine zg (pc' := 25) X4 Bd d3_20 rfl ?_
    exact retN X4 hx (t := .char) Bd.returns (by simp) (hb hby d3_25) hr))
  ·
   skip
   refine own_lvF X4 Bd (.int 38) e4q ⟨(by rw [own_sep, if_neg (show ¬ own_ix (59 : Int32) ([((qi3).toInt8.toInt32)] : List Int32) (0 : Int32) < (0 : Int32) from hc3), if_neg (show ¬ own_ix (38 : Int32) ([((qi3).toInt8.toInt32)] : List Int32) (0 : Int32) < (0 : Int32) from hc6)] <;> rfl), N4, rfl⟩ rfl (fun fs hr => pr5 _ (by
    show Sx p e below T4 m 15 #[rv qa1] [(.int (own_ix (((38 : Int32)).toInt8.toInt32) ([((qi3).toInt8.toInt32)] : List Int32) (0 : Int32)))] _
    refine zp (pc' := 23) X4 Bd d3_15 (XT.i0_ge_t (hc6 : ¬ ((own_ix (((38 : Int32)).toInt8.toInt32) ([((qi3).toInt8.toInt32)] : List Int32) (0 : Int32)) < (0 : Int32)))) rfl ?_
    refine zd X4 Bd d3_23 ?_
    exact retN X4 hx (t := .char) Bd.returns (by simp) (hb hby d3_25) hr))
-- java/lang/StringUTF16.compress([CI[BII)I
def Q41 (Z : State)  (h0 : Heap) (n0 : Nat) (v : Option Value) (h : Heap) (L : List Loc) : Prop := v = some (.int 0) ∧ Fr n0 L ∧ h = h0
theorem rm41 (l : Launch) (Z : State) (a0 : Array Value) (hw : HW a0 Z) (qa1 : Addr) (qa2 : Addr) (qk3 : ClassId) (qi4 : Int32) (qi5 : Int32) (h0 : Heap) (n0 : Nat) (X00 : Old Z n0 h0) (A_qa1 : Arv Z h0 qa1 qk3 .char (2 : Int32) [.int qi4, .int qi5] (.int 0)) (hc3 : (255 : Int32) < qi4) :
    MF l Z Y12_ jdk_52_method_21_code 7 (some .int) (Rm 0 0 0 0) #[.ref qa1, .int 0, .ref qa2, .int 0, .int 2] h0 (Q41 Z  h0 n0) := by
 refine own_sF pn4 rfl (fun m => ef11 m qa1 (0 : Int32) qa2 (0 : Int32) (2 : Int32)) ?_
 intro p e s m below meth c s₁ Bd hZ hh hx hby hml hown hnm X0 e0 pre0
 have N0 := Fr.nil n0
 have av1 := A_qa1
 obtain ⟨cl1, Ar1, q1, S1, N1, H1, Gf1⟩ := av1
 have hin2 : ¬ ((0 : Int32) < 0 ∨ cl1.slots.size ≤ ((0 : Int32) : Int32).toNatClampNeg) := inb_of S1 (by decide)
 have hat2 : cl1.slots[((0 : Int32) : Int32).toNatClampNeg]? = some (.int qi4) := Has.at H1 hin2 rfl
 refine own_lvF X0 Bd (.int 0) e0 ⟨rfl, N0, rfl⟩ rfl (fun fs hr => pre0 _ (by
  show Sx p e below s₁ m 0 #[rv qa1, iv 0, rv qa2, iv 0, iv 2, .unset, .unset] [] _
  refine zc X0 Bd d12_0 ?_
  refine zs X0 Bd d12_1 (l' := #[rv qa1, iv 0, rv qa2, iv 0, iv 2, iv 0, .unset]) rfl ?_
  refine zi X0 Bd d12_3 rfl ?_
  refine zi X0 Bd d12_5 rfl ?_
  refine zn X0 Bd d12_7 (XT.ii_ge_f ((by decide) : (0 : Int32) < (2 : Int32))) ?_
  refine zb X0 Bd d12_10 rfl rfl ?_
  refine zj X0 Bd d12_11 rfl ?_
  refine X0.caload hx (j := (0 : Int32)) (v := (.int qi4)) (by rw [e0]; exact Ar1.1) (State.isArrayOf_alike hZ.alike Ar1.2.1) Ar1.2.2 hin2 hat2 (g := (mkF m 12 #[rv qa1, iv 0, rv qa2, iv 0, iv 2, iv 0, .unset] [.int 0, .ref qa1])) rfl rfl (hb hby d12_12) _ ?_
  refine zs X0 Bd d12_13 (l' := #[rv qa1, iv 0, rv qa2, iv 0, iv 2, iv 0, iv qi4]) rfl ?_
  refine zi X0 Bd d12_15 rfl ?_
  refine XS.sipush X0.here hx rfl (hb hby d12_17) ?_
  refine zn X0 Bd d12_20 (XT.ii_le_f (hc3 : (255 : Int32) < qi4)) ?_
  refine zi X0 Bd d12_23 rfl ?_
  exact retI X0 hx Bd.returns (hb hby d12_25) hr))
-- java/lang/StringUTF16.newBytesLength(I)I
def Q42 (Z : State)  (h0 : Heap) (n0 : Nat) (v : Option Value) (h : Heap) (L : List Loc) : Prop := v = some (.int 4) ∧ Fr n0 L ∧ h = h0
theorem rm42 (l : Launch) (Z : State) (a0 : Array Value) (hw : HW a0 Z)  (h0 : Heap) (n0 : Nat) (X00 : Old Z n0 h0)  :
    MF l Z Y13_ jdk_52_method_3_code 1 (some .int) (Rm 0 0 0 0) #[.int 2] h0 (Q42 Z  h0 n0) := by
 refine own_sF pn4 rfl (fun m => ef8 m (2 : Int32)) ?_
 intro p e s m below meth c s₁ Bd hZ hh hx hby hml hown hnm X0 e0 pre0
 have N0 := Fr.nil n0
 refine own_lvF X0 Bd (.int 4) e0 ⟨rfl, N0, rfl⟩ rfl (fun fs hr => pre0 _ (by
  show Sx p e below s₁ m 0 #[iv 2] [] _
  refine zj X0 Bd d15_0 rfl ?_
  refine zp (pc' := 12) X0 Bd d15_1 (XT.i0_ge_t ((by decide) : ¬ ((2 : Int32) < (0 : Int32)))) rfl ?_
  refine zj X0 Bd d15_12 rfl ?_
  refine X0.ldcInt hx hown (mvT hZ (w94_ hw)) (g := (mkF m 13 #[iv 2] [.int 2])) rfl (hb hby d15_13) _ ?_
  refine zy (pc' := 55) X0 Bd d15_15 (XT.ii_lt_t ((by decide) : (2 : Int32) < (1073741823 : Int32))) rfl ?_
  refine zj X0 Bd d15_55 rfl ?_
  refine zc X0 Bd d15_56 ?_
  refine XS.ishl X0.here hx rfl (hb hby d15_57) rfl ?_
  exact retI X0 hx Bd.returns (hb hby d15_58) hr))
-- java/lang/StringUTF16.newBytesFor(I)[B
def Q43 (Z : State)  (h0 : Heap) (n0 : Nat) (v : Option Value) (h : Heap) (L : List Loc) : Prop := ∃ b2 : Addr, ∃ c2 : ClassId, v = some (.ref b2) ∧ Fr n0 L ∧ Keep h0 h [] ∧ h0.size ≤ b2 ∧ Arv Z h b2 c2 .byte (4 : Int32) [.int 0, .int 0, .int 0, .int 0] (.int 0)
theorem rm43 (l : Launch) (Z : State) (a0 : Array Value) (hw : HW a0 Z)  (h0 : Heap) (n0 : Nat) (X00 : Old Z n0 h0)  :
    MF l Z Y14_ jdk_52_method_2_code 1 (some (.array .byte)) (Rm 1 1 4 12) #[.int 2] h0 (Q43 Z  h0 n0) := by
 refine own_sF pn4 rfl (fun m => ef8 m (2 : Int32)) ?_
 intro p e s m below meth c s₁ Bd hZ hh hx hby hml hown hnm X0 e0 pre0
 have N0 := Fr.nil n0
 obtain ⟨_, T1, L1, X1, hQ1, st1⟩ := own_cS 0 0 [] 1 #[iv 2] X0 hx hZ hown (w91_ hw) (w92_ hw) (w74_ hw) (w93_ hw) (rm42 l Z a0 hw   h0 n0 X00 ) pd8 hml.symm (hb hby d14_1) e0 rfl rfl rfl rfl (by decide)
 obtain ⟨rfl, N1q, e1q⟩ := hQ1
 have N1 := Fr.app N0 N1q
 obtain ⟨T2, h2, c2, X2, e2, E2, A2, st2⟩ := newP (aty := .byte) X1 hx hZ (w21_ hw) e1q (g := (mkF m 4 #[iv 2] [.int 4])) rfl (hb hby d14_4) rfl (by decide) (cap := 4) (by decide) (lE rfl) (lE rfl) (lE rfl)
 obtain ⟨b2, g2⟩ : ∃ z, z = h0.size := ⟨_, rfl⟩
 rw [← g2] at A2 st2
 replace X2 : Stand p l e (Rm 1 1 4 12) s m #[.int 2] below meth c T2 _ 1 4 := X2
 have K3 := (Keep.refl h0 []).ext E2
 have A4_ : Arv Z h2 b2 c2 .byte (4 : Int32) [.int 0, .int 0, .int 0, .int 0] (.int 0) := (Arv.new A2 (by decide)).pad (pad_rep [] (.int 0) 4)
 have sz_b2 : h0.size ≤ b2 := (Nat.le_of_eq g2.symm)
 refine own_lvF X2 Bd (.ref b2) e2 ⟨b2, c2, rfl, N1, K3, sz_b2, A4_⟩ rfl (fun fs hr => pre0 _ (by
  show Sx p e below s₁ m 0 #[iv 2] [] _
  refine zj X0 Bd d14_0 rfl ?_
  refine st1 _ ?_
  refine st2 _ ?_
  exact retOut X2 hx Bd.returns rfl (Or.inr (Or.inr (Or.inr (Or.inr ⟨rfl, rfl, rfl⟩)))) (hb hby d14_6) hr))
-- java/lang/StringUTF16.putChar([BII)V
def Q44 (Z : State) (qa1 : Addr) (qi2 : Int32) (qi3 : Int32) (qk4 : ClassId) (qi5 : Int32) (qi6 : Int32) (qi7 : Int32) (qi8 : Int32) (h0 : Heap) (n0 : Nat) (v : Option Value) (h : Heap) (L : List Loc) : Prop := v = none ∧ Fr n0 L ∧ Keep h0 h [qa1] ∧ Arv Z h qa1 qk4 .byte (4 : Int32) (((([qi5, qi6, qi7, qi8] : List Int32).set (((qi2 <<< ((1 : Int32) &&& 31)))).toNatClampNeg ((((qi3 >>> ((0 : Int32) &&& 31)))).toInt8.toInt32)).set ((((qi2 <<< ((1 : Int32) &&& 31))) + (1 : Int32))).toNatClampNeg ((((qi3 >>> ((8 : Int32) &&& 31)))).toInt8.toInt32)).map Value.int) (.int 0)
theorem rm44 (l : Launch) (Z : State) (a0 : Array Value) (hw : HW a0 Z) (qa1 : Addr) (qi2 : Int32) (qi3 : Int32) (qk4 : ClassId) (qi5 : Int32) (qi6 : Int32) (qi7 : Int32) (qi8 : Int32) (h0 : Heap) (n0 : Nat) (X00 : Old Z n0 h0) (uS12 : Sta Z Z.heap "java/lang/StringUTF16" "$assertionsDisabled" "Z" (.int 1)) (uS15 : Sta Z Z.heap "java/lang/StringUTF16" "HI_BYTE_SHIFT" "I" (.int 0)) (uS18 : Sta Z Z.heap "java/lang/StringUTF16" "LO_BYTE_SHIFT" "I" (.int 8)) (A_qa1 : Arv Z h0 qa1 qk4 .byte (4 : Int32) [.int qi5, .int qi6, .int qi7, .int qi8] (.int 0)) (hc4 : ¬ (qi2 < (0 : Int32))) (hc5 : qi2 < (2 : Int32)) (g_qa1 : n0 ≤ qa1) :
    MF l Z Y15_ jdk_52_method_4_code 3 none (Rm 0 0 0 0) #[.ref qa1, .int qi2, .int qi3] h0 (Q44 Z qa1 qi2 qi3 qk4 qi5 qi6 qi7 qi8 h0 n0) := by
 refine own_sF pn4 rfl (fun m => ef6 m qa1 qi2 qi3) ?_
 intro p e s m below meth c s₁ Bd hZ hh hx hby hml hown hnm X0 e0 pre0
 have N0 := Fr.nil n0
 obtain ⟨T1, X1, e1, st1⟩ := getS2 X0 hx hZ hown (host := "") (Or.inl (w98_ hw)) Via.refl e0 (uS12.ext X00.2) (g := (mkF m 0 #[rv qa1, iv qi2, iv qi3] [])) rfl (hb hby d16_0)
 obtain ⟨T2, X2, e2, st2⟩ := getS2 X1 hx hZ hown (host := "") (Or.inl (w99_ hw)) Via.refl e1 (uS15.ext X00.2) (g := (mkF m 38 #[rv qa1, iv (((qi2 <<< ((1 : Int32) &&& 31))) + (1 : Int32)), iv qi3] [.int qi3, (.int ((qi2 <<< ((1 : Int32) &&& 31)))), .ref qa1])) rfl (hb hby d16_38)
 have A3_ : Arv Z h0 qa1 qk4 .byte (4 : Int32) (([qi5, qi6, qi7, qi8] : List Int32).map Value.int) (.int 0) := A_qa1
 have av6 := A3_
 obtain ⟨cl6, Ar6, q6, S6, N6, H6, Gf6⟩ := av6
 have hin7 : ¬ (((qi2 <<< ((1 : Int32) &&& 31))) < 0 ∨ cl6.slots.size ≤ (((qi2 <<< ((1 : Int32) &&& 31))) : Int32).toNatClampNeg) := inb_of S6 (own_shla2 hc4 hc5)
 obtain ⟨T7, h7, X7, e7, W7, st7⟩ := stB X2 hx hZ e2 Ar6 (j := ((qi2 <<< ((1 : Int32) &&& 31)))) hin7 (g := (mkF m 43 #[rv qa1, iv (((qi2 <<< ((1 : Int32) &&& 31))) + (1 : Int32)), iv qi3] [(.int ((((qi3 >>> ((0 : Int32) &&& 31)))).toInt8.toInt32)), (.int ((qi2 <<< ((1 : Int32) &&& 31)))), .ref qa1])) rfl rfl (hb hby d16_43)
 have N7_ := Fr.snoc X7 N0 g_qa1
 have K8 := (Keep.refl h0 [qa1]).wr W7 (Or.inl (mI 0 rfl))
 have A9_ : Arv Z h7 qa1 qk4 .byte (4 : Int32) ((([qi5, qi6, qi7, qi8] : List Int32).set (((qi2 <<< ((1 : Int32) &&& 31)))).toNatClampNeg ((((qi3 >>> ((0 : Int32) &&& 31)))).toInt8.toInt32)).map Value.int) (.int 0) := by rw [List.map_set]; have q := Arv.set (v := .int (nar .byte ((((qi3 >>> ((0 : Int32) &&& 31)))).toInt8.toInt32))) Ar6 q6 S6 N6 H6 Gf6 (fits_nar_byte _) W7 _ rfl (by rw [List.length_map]; exact own_ltn (k := 4) (by decide) (own_shla2 hc4 hc5)); rw [((own_nar_i2b _) : nar .byte ((((qi3 >>> ((0 : Int32) &&& 31)))).toInt8.toInt32) = ((((qi3 >>> ((0 : Int32) &&& 31)))).toInt8.toInt32))] at q; exact q
 have O11 := X00.wr W7 g_qa1
 obtain ⟨T10, X10, e10, st10⟩ := getS2 X7 hx hZ hown (host := "") (Or.inl (w100_ hw)) Via.refl e7 (uS18.ext O11.2) (g := (mkF m 47 #[rv qa1, iv (((qi2 <<< ((1 : Int32) &&& 31))) + (1 : Int32)), iv qi3] [.int qi3, (.int (((qi2 <<< ((1 : Int32) &&& 31))) + (1 : Int32))), .ref qa1])) rfl (hb hby d16_47)
 have av12 := A9_
 obtain ⟨cl12, Ar12, q12, S12, N12, H12, Gf12⟩ := av12
 have hin13 : ¬ ((((qi2 <<< ((1 : Int32) &&& 31))) + (1 : Int32)) < 0 ∨ cl12.slots.size ≤ ((((qi2 <<< ((1 : Int32) &&& 31))) + (1 : Int32)) : Int32).toNatClampNeg) := inb_of S12 (own_shlb2 hc4 hc5)
 obtain ⟨T13, h13, X13, e13, W13, st13⟩ := stB X10 hx hZ e10 Ar12 (j := (((qi2 <<< ((1 : Int32) &&& 31))) + (1 : Int32))) hin13 (g := (mkF m 52 #[rv qa1, iv (((qi2 <<< ((1 : Int32) &&& 31))) + (1 : Int32)), iv qi3] [(.int ((((qi3 >>> ((8 : Int32) &&& 31)))).toInt8.toInt32)), (.int (((qi2 <<< ((1 : Int32) &&& 31))) + (1 : Int32))), .ref qa1])) rfl rfl (hb hby d16_52)
 have N13_ := Fr.snoc X13 N7_ g_qa1
 have K14 := K8.wr W13 (Or.inl (mI 0 rfl))
 have A15_ : Arv Z h13 qa1 qk4 .byte (4 : Int32) (((([qi5, qi6, qi7, qi8] : List Int32).set (((qi2 <<< ((1 : Int32) &&& 31)))).toNatClampNeg ((((qi3 >>> ((0 : Int32) &&& 31)))).toInt8.toInt32)).set ((((qi2 <<< ((1 : Int32) &&& 31))) + (1 : Int32))).toNatClampNeg ((((qi3 >>> ((8 : Int32) &&& 31)))).toInt8.toInt32)).map Value.int) (.int 0) := by rw [List.map_set]; have q := Arv.set (v := .int (nar .byte ((((qi3 >>> ((8 : Int32) &&& 31)))).toInt8.toInt32))) Ar12 q12 S12 N12 H12 Gf12 (fits_nar_byte _) W13 _ rfl (by rw [List.length_map, List.length_set]; exact own_ltn (k := 4) (by decide) (own_shlb2 hc4 hc5)); rw [((own_nar_i2b _) : nar .byte ((((qi3 >>> ((8 : Int32) &&& 31)))).toInt8.toInt32) = ((((qi3 >>> ((8 : Int32) &&& 31)))).toInt8.toInt32))] at q; exact q
 refine own_lvN X13 Bd e13 ⟨rfl, N13_, K14, A15_⟩ rfl (fun fs hr => pre0 _ (by
  show Sx p e below s₁ m 0 #[rv qa1, iv qi2, iv qi3] [] _
  refine st1 _ ?_
  refine zp (pc' := 28) X1 Bd d16_3 (XT.i0_ne_t ((by decide) : ¬ ((1 : Int32) = (0 : Int32)))) rfl ?_
  refine zj X1 Bd d16_28 rfl ?_
  refine zc X1 Bd d16_29 ?_
  refine XS.ishl X1.here hx rfl (hb hby d16_30) rfl ?_
  refine zt X1 Bd d16_31 (l' := #[rv qa1, iv ((qi2 <<< ((1 : Int32) &&& 31))), iv qi3]) rfl ?_
  refine zb X1 Bd d16_32 rfl rfl ?_
  refine zj X1 Bd d16_33 rfl ?_
  refine XS.iinc X1.here hx rfl (hb hby d16_34) rfl (l' := #[rv qa1, iv (((qi2 <<< ((1 : Int32) &&& 31))) + (1 : Int32)), iv qi3]) rfl ?_
  refine zj X1 Bd d16_37 rfl ?_
  refine st2 _ ?_
  refine XS.ishr X2.here hx rfl (hb hby d16_41) rfl ?_
  refine XS.i2b X2.here hx rfl (hb hby d16_42) rfl ?_
  refine st7 _ ?_
  refine zb X7 Bd d16_44 rfl rfl ?_
  refine zj X7 Bd d16_45 rfl ?_
  refine zj X7 Bd d16_46 rfl ?_
  refine st10 _ ?_
  refine XS.ishr X10.here hx rfl (hb hby d16_50) rfl ?_
  refine XS.i2b X10.here hx rfl (hb hby d16_51) rfl ?_
  refine st13 _ ?_
  exact X13.returnOut hx Bd.returns (hb hby d16_53) hr))
-- java/lang/StringUTF16.toBytes([CII)[B
def Q45 (Z : State) (qi3 : Int32) (qi4 : Int32) (h0 : Heap) (n0 : Nat) (v : Option Value) (h : Heap) (L : List Loc) : Prop := ∃ b2 : Addr, ∃ c3_ : ClassId, v = some (.ref b2) ∧ Fr n0 L ∧ Keep h0 h [] ∧ h0.size ≤ b2 ∧ Arv Z h b2 c3_ .byte (4 : Int32) [(.int ((((qi3 >>> ((0 : Int32) &&& 31)))).toInt8.toInt32)), (.int ((((qi3 >>> ((8 : Int32) &&& 31)))).toInt8.toInt32)), (.int ((((qi4 >>> ((0 : Int32) &&& 31)))).toInt8.toInt32)), (.int ((((qi4 >>> ((8 : Int32) &&& 31)))).toInt8.toInt32))] (.int 0)
theorem rm45 (l : Launch) (Z : State) (a0 : Array Value) (hw : HW a0 Z) (qa1 : Addr) (qk2 : ClassId) (qi3 : Int32) (qi4 : Int32) (h0 : Heap) (n0 : Nat) (X00 : Old Z n0 h0) (uS12 : Sta Z Z.heap "java/lang/StringUTF16" "$assertionsDisabled" "Z" (.int 1)) (uS15 : Sta Z Z.heap "java/lang/StringUTF16" "HI_BYTE_SHIFT" "I" (.int 0)) (uS18 : Sta Z Z.heap "java/lang/StringUTF16" "LO_BYTE_SHIFT" "I" (.int 8)) (A_qa1 : Arv Z h0 qa1 qk2 .char (2 : Int32) [.int qi3, .int qi4] (.int 0)) :
    MF l Z Y16_ jdk_52_method_14_code 5 (some (.array .byte)) (Rm 2 1 4 24) #[.ref qa1, .int 0, .int 2] h0 (Q45 Z qi3 qi4 h0 n0) := by
 refine own_sF pn4 rfl (fun m => ef12 m qa1 (0 : Int32) (2 : Int32)) ?_
 intro p e s m below meth c s₁ Bd hZ hh hx hby hml hown hnm X0 e0 pre0
 have N0 := Fr.nil n0
 obtain ⟨_, T1, L1, X1, hQ1, st1⟩ := own_cS 1 4 [] 1 #[rv qa1, iv 0, iv 2, .unset, .unset] X0 hx hZ hown (w88_ hw) (w89_ hw) (w74_ hw) (w90_ hw) (rm43 l Z a0 hw   h0 n0 X00 ) pd11 hml.symm (hb hby d13_1) e0 rfl rfl rfl rfl (by decide)
 obtain ⟨b2, c3_, rfl, N1q, K1q, w4, w5⟩ := hQ1
 have N1 := Fr.app N0 N1q
 have K6 := (Keep.refl h0 []).trans K1q (fun x q => nomatch q)
 have A8_ := A_qa1.keep K1q nin0
 have av7 := A8_
 obtain ⟨cl7, Ar7, q7, S7, N7, H7, Gf7⟩ := av7
 have hin9 : ¬ ((0 : Int32) < 0 ∨ cl7.slots.size ≤ ((0 : Int32) : Int32).toNatClampNeg) := inb_of S7 (by decide)
 have hat9 : cl7.slots[((0 : Int32) : Int32).toNatClampNeg]? = some (.int qi3) := Has.at H7 hin9 rfl
 have g_b2 : n0 ≤ b2 := Nat.le_trans (Nat.le_trans (Nat.le_of_eq X00.1.symm) X00.2.1) w4
 have O11 := X00.keep K1q all0
 obtain ⟨_, T10, L10, X10, hQ10, st10⟩ := own_cS 1 4 [] 20 #[rv qa1, iv 0, iv 2, rv b2, iv 0] X1 hx hZ hown (w95_ hw) (w96_ hw) (w74_ hw) (w97_ hw) (rm44 l Z a0 hw  b2 (0 : Int32) qi3 c3_ (0 : Int32) (0 : Int32) (0 : Int32) (0 : Int32) T1.heap n0 O11 uS12 uS15 uS18 w5 (by decide) (by decide) g_b2) pd12 hml.symm (hb hby d13_20) rfl rfl rfl rfl rfl (by decide)
 obtain ⟨rfl, N10q, K10q, w12⟩ := hQ10
 have N10 := Fr.app N1 N10q
 have sz_b2 : h0.size ≤ b2 := w4
 have K13 := K6.trans K10q (allS (Or.inr sz_b2) all0)
 have A14_ : Arv Z T10.heap b2 c3_ .byte (4 : Int32) [(.int ((((qi3 >>> ((0 : Int32) &&& 31)))).toInt8.toInt32)), (.int ((((qi3 >>> ((8 : Int32) &&& 31)))).toInt8.toInt32)), .int 0, .int 0] (.int 0) := w12
 have A16_ := A8_.keep K10q (ninS (Nat.ne_of_lt (Nat.lt_of_lt_of_le A_qa1.lt w4)) nin0)
 have av15 := A16_
 obtain ⟨cl15, Ar15, q15, S15, N15, H15, Gf15⟩ := av15
 have hin17 : ¬ ((1 : Int32) < 0 ∨ cl15.slots.size ≤ ((1 : Int32) : Int32).toNatClampNeg) := inb_of S15 (by decide)
 have hat17 : cl15.slots[((1 : Int32) : Int32).toNatClampNeg]? = some (.int qi4) := Has.at H15 hin17 rfl
 have O19 := O11.keep K10q (allS g_b2 all0)
 obtain ⟨_, T18, L18, X18, hQ18, st18⟩ := own_cS 1 4 [] 20 #[rv qa1, iv 1, iv 2, rv b2, iv 1] X10 hx hZ hown (w95_ hw) (w96_ hw) (w74_ hw) (w97_ hw) (rm44 l Z a0 hw  b2 (1 : Int32) qi4 c3_ ((((qi3 >>> ((0 : Int32) &&& 31)))).toInt8.toInt32) ((((qi3 >>> ((8 : Int32) &&& 31)))).toInt8.toInt32) (0 : Int32) (0 : Int32) T10.heap n0 O19 uS12 uS15 uS18 A14_ (by decide) (by decide) g_b2) pd12 hml.symm (hb hby d13_20) rfl rfl rfl rfl rfl (by decide)
 obtain ⟨rfl, N18q, K18q, w20⟩ := hQ18
 have N18 := Fr.app N10 N18q
 have K21 := K13.trans K18q (allS (Or.inr sz_b2) all0)
 have A22_ : Arv Z T18.heap b2 c3_ .byte (4 : Int32) [(.int ((((qi3 >>> ((0 : Int32) &&& 31)))).toInt8.toInt32)), (.int ((((qi3 >>> ((8 : Int32) &&& 31)))).toInt8.toInt32)), (.int ((((qi4 >>> ((0 : Int32) &&& 31)))).toInt8.toInt32)), (.int ((((qi4 >>> ((8 : Int32) &&& 31)))).toInt8.toInt32))] (.int 0) := w20
 refine own_lvF X18 Bd (.ref b2) rfl ⟨b2, c3_, rfl, N18, K21, sz_b2, A22_⟩ rfl (fun fs hr => pre0 _ (by
  show Sx p e below s₁ m 0 #[rv qa1, iv 0, iv 2, .unset, .unset] [] _
  refine zj X0 Bd d13_0 rfl ?_
  refine st1 _ ?_
  refine XS.astoreN X1.here hx rfl (hb hby d13_4) rfl rfl (l' := #[rv qa1, iv 0, iv 2, rv b2, .unset]) rfl ?_
  refine zc X1 Bd d13_5 ?_
  refine zs X1 Bd d13_6 (l' := #[rv qa1, iv 0, iv 2, rv b2, iv 0]) rfl ?_
  refine zi X1 Bd d13_8 rfl ?_
  refine zj X1 Bd d13_10 rfl ?_
  refine zn X1 Bd d13_11 (XT.ii_ge_f ((by decide) : (0 : Int32) < (2 : Int32))) ?_
  refine zb X1 Bd d13_14 rfl rfl ?_
  refine zi X1 Bd d13_15 rfl ?_
  refine zb X1 Bd d13_17 rfl rfl ?_
  refine zj X1 Bd d13_18 rfl ?_
  refine X1.caload hx (j := (0 : Int32)) (v := (.int qi3)) Ar7.1 (State.isArrayOf_alike hZ.alike Ar7.2.1) Ar7.2.2 hin9 hat9 (g := (mkF m 19 #[rv qa1, iv 0, iv 2, rv b2, iv 0] [.int 0, .ref qa1, .int 0, .ref b2])) rfl rfl (hb hby d13_19) _ ?_
  refine st10 _ ?_
  refine XS.iinc X10.here hx rfl (hb hby d13_23) rfl (l' := #[rv qa1, iv 1, iv 2, rv b2, iv 0]) rfl ?_
  refine XS.iinc X10.here hx rfl (hb hby d13_26) rfl (l' := #[rv qa1, iv 1, iv 2, rv b2, iv 1]) rfl ?_
  refine zg (pc' := 8) X10 Bd d13_29 rfl ?_
  refine zi X10 Bd d13_8 rfl ?_
  refine zj X10 Bd d13_10 rfl ?_
  refine zn X10 Bd d13_11 (XT.ii_ge_f ((by decide) : (1 : Int32) < (2 : Int32))) ?_
  refine zb X10 Bd d13_14 rfl rfl ?_
  refine zi X10 Bd d13_15 rfl ?_
  refine zb X10 Bd d13_17 rfl rfl ?_
  refine zj X10 Bd d13_18 rfl ?_
  refine X10.caload hx (j := (1 : Int32)) (v := (.int qi4)) Ar15.1 (State.isArrayOf_alike hZ.alike Ar15.2.1) Ar15.2.2 hin17 hat17 (g := (mkF m 19 #[rv qa1, iv 1, iv 2, rv b2, iv 1] [.int 1, .ref qa1, .int 1, .ref b2])) rfl rfl (hb hby d13_19) _ ?_
  show Sx p e below T10 m 20 #[rv qa1, iv 1, iv 2, rv b2, iv 1] [.int qi4, .int 1, .ref b2] _
  refine st18 _ ?_
  refine XS.iinc X18.here hx rfl (hb hby d13_23) rfl (l' := #[rv qa1, iv 2, iv 2, rv b2, iv 1]) rfl ?_
  refine XS.iinc X18.here hx rfl (hb hby d13_26) rfl (l' := #[rv qa1, iv 2, iv 2, rv b2, iv 2]) rfl ?_
  refine zg (pc' := 8) X18 Bd d13_29 rfl ?_
  refine zi X18 Bd d13_8 rfl ?_
  refine zj X18 Bd d13_10 rfl ?_
  refine zy (pc' := 32) X18 Bd d13_11 (XT.ii_ge_t ((by decide) : ¬ ((2 : Int32) < (2 : Int32)))) rfl ?_
  refine zb X18 Bd d13_32 rfl rfl ?_
  exact retOut X18 hx Bd.returns rfl (Or.inr (Or.inr (Or.inr (Or.inr ⟨rfl, rfl, rfl⟩)))) (hb hby d13_33) hr))
-- java/lang/StringUTF16.getChar([BI)C
def Q46 (Z : State) (qi2 : Int32) (qi4 : Int32) (qi5 : Int32) (qi6 : Int32) (qi7 : Int32) (h0 : Heap) (n0 : Nat) (v : Option Value) (h : Heap) (L : List Loc) : Prop := v = some (.int (((((((own_at ([qi4, qi5, qi6, qi7] : List Int32) ((qi2 <<< ((1 : Int32) &&& 31)))) &&& (255 : Int32)) <<< ((0 : Int32) &&& 31))) ||| ((((own_at ([qi4, qi5, qi6, qi7] : List Int32) (((qi2 <<< ((1 : Int32) &&& 31))) + (1 : Int32))) &&& (255 : Int32)) <<< ((8 : Int32) &&& 31))))).toUInt32.toUInt16.toUInt32.toInt32)) ∧ Fr n0 L ∧ h = h0
theorem rm46 (l : Launch) (Z : State) (a0 : Array Value) (hw : HW a0 Z) (qa1 : Addr) (qi2 : Int32) (qk3 : ClassId) (qi4 : Int32) (qi5 : Int32) (qi6 : Int32) (qi7 : Int32) (h0 : Heap) (n0 : Nat) (X00 : Old Z n0 h0) (uS12 : Sta Z Z.heap "java/lang/StringUTF16" "$assertionsDisabled" "Z" (.int 1)) (uS15 : Sta Z Z.heap "java/lang/StringUTF16" "HI_BYTE_SHIFT" "I" (.int 0)) (uS18 : Sta Z Z.heap "java/lang/StringUTF16" "LO_BYTE_SHIFT" "I" (.int 8)) (A_qa1 : Arv Z h0 qa1 qk3 .byte (4 : Int32) [.int qi4, .int qi5, .int qi6, .int qi7] (.int 0)) (hc3 : ¬ (qi2 < (0 : Int32))) (hc4 : qi2 < (2 : Int32)) :
    MF l Z Y17_ jdk_52_method_5_code 2 (some .char) (Rm 0 0 0 0) #[.ref qa1, .int qi2] h0 (Q46 Z qi2 qi4 qi5 qi6 qi7 h0 n0) := by
 refine own_sF pn4 rfl (fun m => ef5 m qa1 qi2) ?_
 intro p e s m below meth c s₁ Bd hZ hh hx hby hml hown hnm X0 e0 pre0
 have N0 := Fr.nil n0
 obtain ⟨T1, X1, e1, st1⟩ := getS2 X0 hx hZ hown (host := "") (Or.inl (w98_ hw)) Via.refl e0 (uS12.ext X00.2) (g := (mkF m 0 #[rv qa1, iv qi2] [])) rfl (hb hby d17_0)
 have A2_ : Arv Z h0 qa1 qk3 .byte (4 : Int32) (([qi4, qi5, qi6, qi7] : List Int32).map Value.int) (.int 0) := A_qa1
 have av5 := A2_
 obtain ⟨cl5, Ar5, q5, S5, N5, H5, Gf5⟩ := av5
 have hin6 : ¬ (((qi2 <<< ((1 : Int32) &&& 31))) < 0 ∨ cl5.slots.size ≤ (((qi2 <<< ((1 : Int32) &&& 31))) : Int32).toNatClampNeg) := inb_of S5 (own_shla2 hc3 hc4)
 have hat6 : cl5.slots[(((qi2 <<< ((1 : Int32) &&& 31))) : Int32).toNatClampNeg]? = some (.int (own_at ([qi4, qi5, qi6, qi7] : List Int32) ((qi2 <<< ((1 : Int32) &&& 31))))) := Has.at H5 hin6 (own_atV _ _)
 obtain ⟨T7, X7, e7, st7⟩ := getS2 X1 hx hZ hown (host := "") (Or.inl (w99_ hw)) Via.refl e1 (uS15.ext X00.2) (g := (mkF m 42 #[rv qa1, iv (((qi2 <<< ((1 : Int32) &&& 31))) + (1 : Int32))] [(.int ((own_at ([qi4, qi5, qi6, qi7] : List Int32) ((qi2 <<< ((1 : Int32) &&& 31)))) &&& (255 : Int32)))])) rfl (hb hby d17_42)
 have av8 := A2_
 obtain ⟨cl8, Ar8, q8, S8, N8, H8, Gf8⟩ := av8
 have hin9 : ¬ ((((qi2 <<< ((1 : Int32) &&& 31))) + (1 : Int32)) < 0 ∨ cl8.slots.size ≤ ((((qi2 <<< ((1 : Int32) &&& 31))) + (1 : Int32)) : Int32).toNatClampNeg) := inb_of S8 (own_shlb2 hc3 hc4)
 have hat9 : cl8.slots[((((qi2 <<< ((1 : Int32) &&& 31))) + (1 : Int32)) : Int32).toNatClampNeg]? = some (.int (own_at ([qi4, qi5, qi6, qi7] : List Int32) (((qi2 <<< ((1 : Int32) &&& 31))) + (1 : Int32)))) := Has.at H8 hin9 (own_atV _ _)
 obtain ⟨T10, X10, e10, st10⟩ := getS2 X7 hx hZ hown (host := "") (Or.inl (w100_ hw)) Via.refl e7 (uS18.ext X00.2) (g := (mkF m 53 #[rv qa1, iv (((qi2 <<< ((1 : Int32) &&& 31))) + (1 : Int32))] [(.int ((own_at ([qi4, qi5, qi6, qi7] : List Int32) (((qi2 <<< ((1 : Int32) &&& 31))) + (1 : Int32))) &&& (255 : Int32))), (.int ((((own_at ([qi4, qi5, qi6, qi7] : List Int32) ((qi2 <<< ((1 : Int32) &&& 31)))) &&& (255 : Int32)) <<< ((0 : Int32) &&& 31))))])) rfl (hb hby d17_53)
 refine own_lvF X10 Bd (.int (nar .char (((((((own_at ([qi4, qi5, qi6, qi7] : List Int32) ((qi2 <<< ((1 : Int32) &&& 31)))) &&& (255 : Int32)) <<< ((0 : Int32) &&& 31))) ||| ((((own_at ([qi4, qi5, qi6, qi7] : List Int32) (((qi2 <<< ((1 : Int32) &&& 31))) + (1 : Int32))) &&& (255 : Int32)) <<< ((8 : Int32) &&& 31))))).toUInt32.toUInt16.toUInt32.toInt32))) e10 ⟨(congrArg (fun z => some (Value.int z)) (own_nar_i2c _)), N0, rfl⟩ rfl (fun fs hr => pre0 _ (by
  show Sx p e below s₁ m 0 #[rv qa1, iv qi2] [] _
  refine st1 _ ?_
  refine zp (pc' := 28) X1 Bd d17_3 (XT.i0_ne_t ((by decide) : ¬ ((1 : Int32) = (0 : Int32)))) rfl ?_
  refine zj X1 Bd d17_28 rfl ?_
  refine zc X1 Bd d17_29 ?_
  refine XS.ishl X1.here hx rfl (hb hby d17_30) rfl ?_
  refine zt X1 Bd d17_31 (l' := #[rv qa1, iv ((qi2 <<< ((1 : Int32) &&& 31)))]) rfl ?_
  refine zb X1 Bd d17_32 rfl rfl ?_
  refine zj X1 Bd d17_33 rfl ?_
  refine XS.iinc X1.here hx rfl (hb hby d17_34) rfl (l' := #[rv qa1, iv (((qi2 <<< ((1 : Int32) &&& 31))) + (1 : Int32))]) rfl ?_
  refine X1.baloadBytes hx (j := ((qi2 <<< ((1 : Int32) &&& 31)))) (v := (.int (own_at ([qi4, qi5, qi6, qi7] : List Int32) ((qi2 <<< ((1 : Int32) &&& 31)))))) (by rw [e1]; exact Ar5.1) (State.isArrayOf_alike hZ.alike Ar5.2.1) Ar5.2.2 hin6 hat6 (g := (mkF m 37 #[rv qa1, iv (((qi2 <<< ((1 : Int32) &&& 31))) + (1 : Int32))] [(.int ((qi2 <<< ((1 : Int32) &&& 31)))), .ref qa1])) rfl rfl (hb hby d17_37) _ ?_
  refine XS.sipush X1.here hx rfl (hb hby d17_38) ?_
  refine XS.iand X1.here hx rfl (hb hby d17_41) rfl ?_
  refine st7 _ ?_
  refine XS.ishl X7.here hx rfl (hb hby d17_45) rfl ?_
  refine zb X7 Bd d17_46 rfl rfl ?_
  refine zj X7 Bd d17_47 rfl ?_
  refine X7.baloadBytes hx (j := (((qi2 <<< ((1 : Int32) &&& 31))) + (1 : Int32))) (v := (.int (own_at ([qi4, qi5, qi6, qi7] : List Int32) (((qi2 <<< ((1 : Int32) &&& 31))) + (1 : Int32))))) (by rw [e7]; exact Ar8.1) (State.isArrayOf_alike hZ.alike Ar8.2.1) Ar8.2.2 hin9 hat9 (g := (mkF m 48 #[rv qa1, iv (((qi2 <<< ((1 : Int32) &&& 31))) + (1 : Int32))] [(.int (((qi2 <<< ((1 : Int32) &&& 31))) + (1 : Int32))), .ref qa1, (.int ((((own_at ([qi4, qi5, qi6, qi7] : List Int32) ((qi2 <<< ((1 : Int32) &&& 31)))) &&& (255 : Int32)) <<< ((0 : Int32) &&& 31))))])) rfl rfl (hb hby d17_48) _ ?_
  refine XS.sipush X7.here hx rfl (hb hby d17_49) ?_
  refine XS.iand X7.here hx rfl (hb hby d17_52) rfl ?_
  refine st10 _ ?_
  refine XS.ishl X10.here hx rfl (hb hby d17_56) rfl ?_
  refine XS.ior X10.here hx rfl (hb hby d17_57) rfl ?_
  refine XS.i2c X10.here hx rfl (hb hby d17_58) rfl ?_
  exact retN X10 hx (t := .char) Bd.returns (by simp) (hb hby d17_59) hr))
theorem d12_26 : decode jdk_52_method_21_code 26 = .ok (.aload_n 2, 1) := by decide +kernel
theorem d12_27 : decode jdk_52_method_21_code 27 = .ok (.iload_n 3, 1) := by decide +kernel
theorem d12_28 : decode jdk_52_method_21_code 28 = .ok (.iload 6, 2) := by decide +kernel
theorem d12_30 : decode jdk_52_method_21_code 30 = .ok (.i2b, 1) := by decide +kernel
theorem d12_31 : decode jdk_52_method_21_code 31 = .ok (.bastore, 1) := by decide +kernel
theorem d12_32 : decode jdk_52_method_21_code 32 = .ok (.iinc 1 1, 3) := by decide +kernel
theorem d12_35 : decode jdk_52_method_21_code 35 = .ok (.iinc 3 1, 3) := by decide +kernel
theorem d12_38 : decode jdk_52_method_21_code 38 = .ok (.iinc 5 1, 3) := by decide +kernel
theorem d12_41 : decode jdk_52_method_21_code 41 = .ok (.goto (-38), 3) := by decide +kernel
-- java/lang/StringUTF16.compress([CI[BII)I
def Q47 (Z : State) (qa2 : Addr) (qi4 : Int32) (qk6 : ClassId) (h0 : Heap) (n0 : Nat) (v : Option Value) (h : Heap) (L : List Loc) : Prop := v = some (.int 1) ∧ Fr n0 L ∧ Keep h0 h [qa2] ∧ Arv Z h qa2 qk6 .byte (2 : Int32) [(.int ((qi4).toInt8.toInt32)), .int 0] (.int 0)
theorem rm47 (l : Launch) (Z : State) (a0 : Array Value) (hw : HW a0 Z) (qa1 : Addr) (qa2 : Addr) (qk3 : ClassId) (qi4 : Int32) (qi5 : Int32) (qk6 : ClassId) (h0 : Heap) (n0 : Nat) (X00 : Old Z n0 h0) (A_qa1 : Arv Z h0 qa1 qk3 .char (2 : Int32) [.int qi4, .int qi5] (.int 0)) (hc3 : ¬ ((255 : Int32) < qi4)) (A_qa2 : Arv Z h0 qa2 qk6 .byte (2 : Int32) [.int 0, .int 0] (.int 0)) (g_qa2 : n0 ≤ qa2) (ne_qa1_qa2 : qa1 ≠ qa2) (hc11 : (255 : Int32) < qi5) :
    MF l Z Y12_ jdk_52_method_21_code 7 (some .int) (Rm 0 0 0 0) #[.ref qa1, .int 0, .ref qa2, .int 0, .int 2] h0 (Q47 Z qa2 qi4 qk6 h0 n0) := by
 refine own_sF pn4 rfl (fun m => ef11 m qa1 (0 : Int32) qa2 (0 : Int32) (2 : Int32)) ?_
 intro p e s m below meth c s₁ Bd hZ hh hx hby hml hown hnm X0 e0 pre0
 have N0 := Fr.nil n0
 have av1 := A_qa1
 obtain ⟨cl1, Ar1, q1, S1, N1, H1, Gf1⟩ := av1
 have hin2 : ¬ ((0 : Int32) < 0 ∨ cl1.slots.size ≤ ((0 : Int32) : Int32).toNatClampNeg) := inb_of S1 (by decide)
 have hat2 : cl1.slots[((0 : Int32) : Int32).toNatClampNeg]? = some (.int qi4) := Has.at H1 hin2 rfl
 have av4 := A_qa2
 obtain ⟨cl4, Ar4, q4, S4, N4, H4, Gf4⟩ := av4
 have hin5 : ¬ ((0 : Int32) < 0 ∨ cl4.slots.size ≤ ((0 : Int32) : Int32).toNatClampNeg) := inb_of S4 (by decide)
 obtain ⟨T5, h5, X5, e5, W5, st5⟩ := stB X0 hx hZ e0 Ar4 (j := (0 : Int32)) hin5 (g := (mkF m 31 #[rv qa1, iv 0, rv qa2, iv 0, iv 2, iv 0, iv qi4] [(.int ((qi4).toInt8.toInt32)), .int 0, .ref qa2])) rfl rfl (hb hby d12_31)
 have N5_ := Fr.snoc X5 N0 g_qa2
 have K6 := (Keep.refl h0 [qa2]).wr W5 (Or.inl (mI 0 rfl))
 have A7_ : Arv Z h5 qa2 qk6 .byte (2 : Int32) [(.int ((qi4).toInt8.toInt32)), .int 0] (.int 0) := by have q := Arv.set (v := .int (nar .byte ((qi4).toInt8.toInt32))) Ar4 q4 S4 N4 H4 Gf4 (fits_nar_byte _) W5 0 (by decide) (lE rfl); rw [((own_nar_i2b _) : nar .byte ((qi4).toInt8.toInt32) = ((qi4).toInt8.toInt32))] at q; exact q
 have A9_ := A_qa1.other W5 ne_qa1_qa2
 have av8 := A9_
 obtain ⟨cl8, Ar8, q8, S8, N8, H8, Gf8⟩ := av8
 have hin10 : ¬ ((1 : Int32) < 0 ∨ cl8.slots.size ≤ ((1 : Int32) : Int32).toNatClampNeg) := inb_of S8 (by decide)
 have hat10 : cl8.slots[((1 : Int32) : Int32).toNatClampNeg]? = some (.int qi5) := Has.at H8 hin10 rfl
 refine own_lvF X5 Bd (.int 1) e5 ⟨rfl, N5_, K6, A7_⟩ rfl (fun fs hr => pre0 _ (by
  show Sx p e below s₁ m 0 #[rv qa1, iv 0, rv qa2, iv 0, iv 2, .unset, .unset] [] _
  refine zc X0 Bd d12_0 ?_
  refine zs X0 Bd d12_1 (l' := #[rv qa1, iv 0, rv qa2, iv 0, iv 2, iv 0, .unset]) rfl ?_
  refine zi X0 Bd d12_3 rfl ?_
  refine zi X0 Bd d12_5 rfl ?_
  refine zn X0 Bd d12_7 (XT.ii_ge_f ((by decide) : (0 : Int32) < (2 : Int32))) ?_
  refine zb X0 Bd d12_10 rfl rfl ?_
  refine zj X0 Bd d12_11 rfl ?_
  refine X0.caload hx (j := (0 : Int32)) (v := (.int qi4)) (by rw [e0]; exact Ar1.1) (State.isArrayOf_alike hZ.alike Ar1.2.1) Ar1.2.2 hin2 hat2 (g := (mkF m 12 #[rv qa1, iv 0, rv qa2, iv 0, iv 2, iv 0, .unset] [.int 0, .ref qa1])) rfl rfl (hb hby d12_12) _ ?_
  refine zs X0 Bd d12_13 (l' := #[rv qa1, iv 0, rv qa2, iv 0, iv 2, iv 0, iv qi4]) rfl ?_
  refine zi X0 Bd d12_15 rfl ?_
  refine XS.sipush X0.here hx rfl (hb hby d12_17) ?_
  refine zy (pc' := 26) X0 Bd d12_20 (XT.ii_le_t (hc3 : ¬ ((255 : Int32) < qi4))) rfl ?_
  refine zb X0 Bd d12_26 rfl rfl ?_
  refine zj X0 Bd d12_27 rfl ?_
  refine zi X0 Bd d12_28 rfl ?_
  refine XS.i2b X0.here hx rfl (hb hby d12_30) rfl ?_
  refine st5 _ ?_
  refine XS.iinc X5.here hx rfl (hb hby d12_32) rfl (l' := #[rv qa1, iv 1, rv qa2, iv 0, iv 2, iv 0, iv qi4]) rfl ?_
  refine XS.iinc X5.here hx rfl (hb hby d12_35) rfl (l' := #[rv qa1, iv 1, rv qa2, iv 1, iv 2, iv 0, iv qi4]) rfl ?_
  refine XS.iinc X5.here hx rfl (hb hby d12_38) rfl (l' := #[rv qa1, iv 1, rv qa2, iv 1, iv 2, iv 1, iv qi4]) rfl ?_
  refine zg (pc' := 3) X5 Bd d12_41 rfl ?_
  refine zi X5 Bd d12_3 rfl ?_
  refine zi X5 Bd d12_5 rfl ?_
  refine zn X5 Bd d12_7 (XT.ii_ge_f ((by decide) : (1 : Int32) < (2 : Int32))) ?_
  refine zb X5 Bd d12_10 rfl rfl ?_
  show Sx p e below T5 m 11 #[rv qa1, iv 1, rv qa2, iv 1, iv 2, iv 1, iv qi4] [.ref qa1] _
  refine zj X5 Bd d12_11 rfl ?_
  refine X5.caload hx (j := (1 : Int32)) (v := (.int qi5)) (by rw [e5]; exact Ar8.1) (State.isArrayOf_alike hZ.alike Ar8.2.1) Ar8.2.2 hin10 hat10 (g := (mkF m 12 #[rv qa1, iv 1, rv qa2, iv 1, iv 2, iv 1, iv qi4] [.int 1, .ref qa1])) rfl rfl (hb hby d12_12) _ ?_
  refine zs X5 Bd d12_13 (l' := #[rv qa1, iv 1, rv qa2, iv 1, iv 2, iv 1, iv qi5]) rfl ?_
  refine zi X5 Bd d12_15 rfl ?_
  refine XS.sipush X5.here hx rfl (hb hby d12_17) ?_
  refine zn X5 Bd d12_20 (XT.ii_le_f (hc11 : (255 : Int32) < qi5)) ?_
  refine zi X5 Bd d12_23 rfl ?_
  exact retI X5 hx Bd.returns (hb hby d12_25) hr))
-- java/lang/StringUTF16.compress([CII)[B
def Q48 (Z : State) (qi3 : Int32) (qi4 : Int32) (h0 : Heap) (n0 : Nat) (v : Option Value) (h : Heap) (L : List Loc) : Prop := ∃ bm : Addr, ∃ cm : ClassId, v = some (.ref bm) ∧ Fr n0 L ∧ Keep h0 h [] ∧ h0.size ≤ bm ∧ Arv Z h bm cm .byte (4 : Int32) [(.int ((((qi3 >>> ((0 : Int32) &&& 31)))).toInt8.toInt32)), (.int ((((qi3 >>> ((8 : Int32) &&& 31)))).toInt8.toInt32)), (.int ((((qi4 >>> ((0 : Int32) &&& 31)))).toInt8.toInt32)), (.int ((((qi4 >>> ((8 : Int32) &&& 31)))).toInt8.toInt32))] (.int 0)
theorem rm48 (l : Launch) (Z : State) (a0 : Array Value) (hw : HW a0 Z) (qa1 : Addr) (qk2 : ClassId) (qi3 : Int32) (qi4 : Int32) (h0 : Heap) (n0 : Nat) (X00 : Old Z n0 h0) (uS12 : Sta Z Z.heap "java/lang/StringUTF16" "$assertionsDisabled" "Z" (.int 1)) (uS15 : Sta Z Z.heap "java/lang/StringUTF16" "HI_BYTE_SHIFT" "I" (.int 0)) (uS18 : Sta Z Z.heap "java/lang/StringUTF16" "LO_BYTE_SHIFT" "I" (.int 8)) (A_qa1 : Arv Z h0 qa1 qk2 .char (2 : Int32) [.int qi3, .int qi4] (.int 0)) (hc1 : (255 : Int32) < (own_max ([qi3, qi4] : List Int32))) (hr20 : nar .char qi3 = qi3) (hr39 : nar .char qi4 = qi4) :
    MF l Z Y18_ jdk_52_method_16_code 6 (some (.array .byte)) (Rm 3 2 6 40) #[.ref qa1, .int 0, .int 2] h0 (Q48 Z qi3 qi4 h0 n0) := by
 refine own_sF pn4 rfl (fun m => ef10 m qa1 (0 : Int32) (2 : Int32)) ?_
 intro p e s m below meth c s₁ Bd hZ hh hx hby hml hown hnm X0 e0 pre0
 have N0 := Fr.nil n0
 obtain ⟨T2, h2, c2, X2, e2, E2, A2, st2⟩ := newP (aty := .byte) X0 hx hZ (w21_ hw) e0 (g := (mkF m 1 #[rv qa1, iv 0, iv 2, .unset, .unset, .unset] [.int 2])) rfl (hb hby d11_1) rfl (by decide) (cap := 2) (by decide) (lE rfl) (lE rfl) (lE rfl)
 obtain ⟨b2, g2⟩ : ∃ z, z = h0.size := ⟨_, rfl⟩
 rw [← g2] at A2 st2
 replace X2 : Stand p l e (Rm 3 2 6 40) s m #[.ref qa1, .int 0, .int 2] below meth c T2 _ 1 2 := X2
 have K3 := (Keep.refl h0 []).ext E2
 have A4_ : Arv Z h2 b2 c2 .byte (2 : Int32) [.int 0, .int 0] (.int 0) := (Arv.new A2 (by decide)).pad (pad_rep [] (.int 0) 2)
 have A6_ := A_qa1.ext E2
 have pr7 : Pr p e below T2 m 9 #[rv qa1, iv 0, iv 2, rv b2, .unset, .unset] [.int 2, .int 0, .ref b2, .int 0, .ref qa1] s₁ (entryFrame m #[.ref qa1, .int 0, .int 2] 6) := fun t k => pre0 t (by
  show Sx p e below s₁ m 0 #[rv qa1, iv 0, iv 2, .unset, .unset, .unset] [] _
  refine zj X0 Bd d11_0 rfl ?_
  refine st2 _ ?_
  refine XS.astoreN X2.here hx rfl (hb hby d11_3) rfl rfl (l' := #[rv qa1, iv 0, iv 2, rv b2, .unset, .unset]) rfl ?_
  refine zb X2 Bd d11_4 rfl rfl ?_
  refine zj X2 Bd d11_5 rfl ?_
  refine zb X2 Bd d11_6 rfl rfl ?_
  refine zc X2 Bd d11_7 ?_
  refine zj X2 Bd d11_8 rfl ?_
  exact k)
 by_cases hc8 : (255 : Int32) < qi3
 ·
  skip
  have A10_ := A_qa1.ext E2
  have O11 := X00.ext E2
  obtain ⟨_, T9, L9, X9, hQ9, st9⟩ := own_cS 1 2 [] 9 #[rv qa1, iv 0, iv 2, rv b2, .unset, .unset] X2 hx hZ hown (w76_ hw) (w77_ hw) (w74_ hw) (w78_ hw) (rm41 l Z a0 hw  qa1 b2 qk2 qi3 qi4 h2 n0 O11 A10_ hc8) pd10 hml.symm (hb hby d11_9) e2 rfl rfl rfl rfl (by decide)
  obtain ⟨rfl, N9q, e9q⟩ := hQ9
  have N9 := Fr.app N0 N9q
  obtain ⟨_, T12, L12, X12, hQ12, st12⟩ := own_cS 2 6 [] 23 #[rv qa1, iv 0, iv 2, rv b2, iv 0, .unset] X9 hx hZ hown (w85_ hw) (w86_ hw) (w74_ hw) (w87_ hw) (rm45 l Z a0 hw  qa1 qk2 qi3 qi4 h2 n0 O11 uS12 uS15 uS18 A10_) pd13 hml.symm (hb hby d11_23) e9q rfl rfl rfl rfl (by decide)
  obtain ⟨b13, c14_, rfl, N12q, K12q, w15, w16⟩ := hQ12
  have N12 := Fr.app N9 N12q
  have K17 := K3.trans K12q (fun x q => nomatch q)
  have O19 := O11.keep K12q all0
  obtain ⟨_, T18, L18, X18, hQ18, st18⟩ := own_cS 2 6 [] 32 #[rv qa1, iv 0, iv 2, rv b2, iv 0, rv b13] X12 hx hZ hown (w101_ hw) (w102_ hw) (w74_ hw) (w103_ hw) (rm46 l Z a0 hw  b13 (0 : Int32) c14_ ((((qi3 >>> ((0 : Int32) &&& 31)))).toInt8.toInt32) ((((qi3 >>> ((8 : Int32) &&& 31)))).toInt8.toInt32) ((((qi4 >>> ((0 : Int32) &&& 31)))).toInt8.toInt32) ((((qi4 >>> ((8 : Int32) &&& 31)))).toInt8.toInt32) T12.heap n0 O19 uS12 uS15 uS18 w16 (by decide) (by decide)) pd14 hml.symm (hb hby d11_32) rfl rfl rfl rfl rfl (by decide)
  obtain ⟨rfl, N18q, e18q⟩ := hQ18
  have N18 := Fr.app N12 N18q
  have sz_b13 : h0.size ≤ b13 := Nat.le_trans K3.1 w15
  refine own_lvF X18 Bd (.ref b13) e18q ⟨b13, c14_, rfl, N18, K17, sz_b13, w16⟩ rfl (fun fs hr => pr7 _ (by
   show Sx p e below T2 m 9 #[rv qa1, iv 0, iv 2, rv b2, .unset, .unset] [.int 2, .int 0, .ref b2, .int 0, .ref qa1] _
   refine st9 _ ?_
   refine zs X9 Bd d11_12 (l' := #[rv qa1, iv 0, iv 2, rv b2, iv 0, .unset]) rfl ?_
   refine zi X9 Bd d11_14 rfl ?_
   refine zj X9 Bd d11_16 rfl ?_
   refine zn X9 Bd d11_17 (XT.ii_eq_f ((by decide) : ¬ ((0 : Int32) = (2 : Int32)))) ?_
   refine zb X9 Bd d11_20 rfl rfl ?_
   refine zj X9 Bd d11_21 rfl ?_
   refine zj X9 Bd d11_22 rfl ?_
   refine st12 _ ?_
   refine XS.astore X12.here hx rfl (hb hby d11_26) rfl rfl (l' := #[rv qa1, iv 0, iv 2, rv b2, iv 0, rv b13]) rfl ?_
   refine za X12 Bd d11_28 rfl rfl ?_
   refine zi X12 Bd d11_30 rfl ?_
   refine st18 _ ?_
   refine XS.sipush X18.here hx rfl (hb hby d11_35) ?_
   refine zy (pc' := 54) X18 Bd d11_38 (XT.ii_gt_t ((own_get16l hr20 hc8) : (255 : Int32) < ((((((((((qi3 >>> ((0 : Int32) &&& 31)))).toInt8.toInt32) &&& (255 : Int32)) <<< ((0 : Int32) &&& 31))) ||| (((((((qi3 >>> ((8 : Int32) &&& 31)))).toInt8.toInt32) &&& (255 : Int32)) <<< ((8 : Int32) &&& 31))))).toUInt32.toUInt16.toUInt32.toInt32))) rfl ?_
   refine za X18 Bd d11_54 rfl rfl ?_
   exact retOut X18 hx Bd.returns rfl (Or.inr (Or.inr (Or.inr (Or.inr ⟨rfl, rfl, rfl⟩)))) (hb hby d11_56) hr))
 ·
  skip
  have A22_ := A_qa1.ext E2
  have g_b2 : n0 ≤ b2 := Nat.le_trans (Nat.le_trans (Nat.le_of_eq X00.1.symm) X00.2.1) (Nat.le_of_eq g2.symm)
  by_cases hc23 : (255 : Int32) < qi4
  ·
   skip
   have A25_ := A_qa1.ext E2
   have g_b2 : n0 ≤ b2 := Nat.le_trans (Nat.le_trans (Nat.le_of_eq X00.1.symm) X00.2.1) (Nat.le_of_eq g2.symm)
   have O26 := X00.ext E2
   obtain ⟨_, T24, L24, X24, hQ24, st24⟩ := own_cS 1 2 [] 9 #[rv qa1, iv 0, iv 2, rv b2, .unset, .unset] X2 hx hZ hown (w76_ hw) (w77_ hw) (w74_ hw) (w78_ hw) (rm47 l Z a0 hw  qa1 b2 qk2 qi3 qi4 c2 h2 n0 O26 A25_ hc8 A4_ g_b2 (Nat.ne_of_lt (Nat.lt_of_lt_of_le A_qa1.lt (Nat.le_of_eq g2.symm))) hc23) pd10 hml.symm (hb hby d11_9) e2 rfl rfl rfl rfl (by decide)
   obtain ⟨rfl, N24q, K24q, w27⟩ := hQ24
   have N24 := Fr.app N0 N24q
   have sz_b2 : h0.size ≤ b2 := (Nat.le_of_eq g2.symm)
   have K28 := K3.trans K24q (allS (Or.inr sz_b2) all0)
   have A30_ := A25_.keep K24q (ninS (Nat.ne_of_lt (Nat.lt_of_lt_of_le A_qa1.lt (Nat.le_of_eq g2.symm))) nin0)
   have O31 := O26.keep K24q (allS g_b2 all0)
   obtain ⟨_, T29, L29, X29, hQ29, st29⟩ := own_cS 2 6 [] 23 #[rv qa1, iv 0, iv 2, rv b2, iv 1, .unset] X24 hx hZ hown (w85_ hw) (w86_ hw) (w74_ hw) (w87_ hw) (rm45 l Z a0 hw  qa1 qk2 qi3 qi4 T24.heap n0 O31 uS12 uS15 uS18 A30_) pd13 hml.symm (hb hby d11_23) rfl rfl rfl rfl rfl (by decide)
   obtain ⟨b32, c33_, rfl, N29q, K29q, w34, w35⟩ := hQ29
   have N29 := Fr.app N24 N29q
   have K36 := K28.trans K29q (fun x q => nomatch q)
   have O38 := O31.keep K29q all0
   obtain ⟨_, T37, L37, X37, hQ37, st37⟩ := own_cS 2 6 [] 32 #[rv qa1, iv 0, iv 2, rv b2, iv 1, rv b32] X29 hx hZ hown (w101_ hw) (w102_ hw) (w74_ hw) (w103_ hw) (rm46 l Z a0 hw  b32 (1 : Int32) c33_ ((((qi3 >>> ((0 : Int32) &&& 31)))).toInt8.toInt32) ((((qi3 >>> ((8 : Int32) &&& 31)))).toInt8.toInt32) ((((qi4 >>> ((0 : Int32) &&& 31)))).toInt8.toInt32) ((((qi4 >>> ((8 : Int32) &&& 31)))).toInt8.toInt32) T29.heap n0 O38 uS12 uS15 uS18 w35 (by decide) (by decide)) pd14 hml.symm (hb hby d11_32) rfl rfl rfl rfl rfl (by decide)
   obtain ⟨rfl, N37q, e37q⟩ := hQ37
   have N37 := Fr.app N29 N37q
   have sz_b32 : h0.size ≤ b32 := Nat.le_trans K28.1 w34
   refine own_lvF X37 Bd (.ref b32) e37q ⟨b32, c33_, rfl, N37, K36, sz_b32, w35⟩ rfl (fun fs hr => pr7 _ (by
    show Sx p e below T2 m 9 #[rv qa1, iv 0, iv 2, rv b2, .unset, .unset] [.int 2, .int 0, .ref b2, .int 0, .ref qa1] _
    refine st24 _ ?_
    refine zs X24 Bd d11_12 (l' := #[rv qa1, iv 0, iv 2, rv b2, iv 1, .unset]) rfl ?_
    refine zi X24 Bd d11_14 rfl ?_
    refine zj X24 Bd d11_16 rfl ?_
    refine zn X24 Bd d11_17 (XT.ii_eq_f ((by decide) : ¬ ((1 : Int32) = (2 : Int32)))) ?_
    refine zb X24 Bd d11_20 rfl rfl ?_
    refine zj X24 Bd d11_21 rfl ?_
    refine zj X24 Bd d11_22 rfl ?_
    refine st29 _ ?_
    refine XS.astore X29.here hx rfl (hb hby d11_26) rfl rfl (l' := #[rv qa1, iv 0, iv 2, rv b2, iv 1, rv b32]) rfl ?_
    refine za X29 Bd d11_28 rfl rfl ?_
    refine zi X29 Bd d11_30 rfl ?_
    refine st37 _ ?_
    refine XS.sipush X37.here hx rfl (hb hby d11_35) ?_
    refine zy (pc' := 54) X37 Bd d11_38 (XT.ii_gt_t ((own_get16l hr39 hc23) : (255 : Int32) < ((((((((((qi4 >>> ((0 : Int32) &&& 31)))).toInt8.toInt32) &&& (255 : Int32)) <<< ((0 : Int32) &&& 31))) ||| (((((((qi4 >>> ((8 : Int32) &&& 31)))).toInt8.toInt32) &&& (255 : Int32)) <<< ((8 : Int32) &&& 31))))).toUInt32.toUInt16.toUInt32.toInt32))) rfl ?_
    refine za X37 Bd d11_54 rfl rfl ?_
    exact retOut X37 hx Bd.returns rfl (Or.inr (Or.inr (Or.inr (Or.inr ⟨rfl, rfl, rfl⟩)))) (hb hby d11_56) hr))
  ·
   skip
   exact absurd hc1 (own_maxno _ (List.forall_mem_cons.mpr ⟨hc8, (List.forall_mem_cons.mpr ⟨hc23, (fun _ q => nomatch q)⟩)⟩))
-- java/lang/StringUTF16.coderFromArrayLen([BI)B
def Q49 (Z : State)  (h0 : Heap) (n0 : Nat) (v : Option Value) (h : Heap) (L : List Loc) : Prop := v = some (.int 1) ∧ Fr n0 L ∧ h = h0
theorem rm49 (l : Launch) (Z : State) (a0 : Array Value) (hw : HW a0 Z) (qa1 : Addr) (qk2 : ClassId) (qi3 : Int32) (qi4 : Int32) (qi5 : Int32) (qi6 : Int32) (h0 : Heap) (n0 : Nat) (X00 : Old Z n0 h0) (A_qa1 : Arv Z h0 qa1 qk2 .byte (4 : Int32) [.int qi3, .int qi4, .int qi5, .int qi6] (.int 0)) :
    MF l Z Y19_ jdk_52_method_15_code 2 (some .byte) (Rm 0 0 0 0) #[.ref qa1, .int 2] h0 (Q49 Z  h0 n0) := by
 refine own_sF pn4 rfl (fun m => ef5 m qa1 (2 : Int32)) ?_
 intro p e s m below meth c s₁ Bd hZ hh hx hby hml hown hnm X0 e0 pre0
 have N0 := Fr.nil n0
 have av1 := A_qa1
 obtain ⟨cl1, Ar1, q1, S1, N1, H1, Gf1⟩ := av1
 refine own_lvF X0 Bd (.int 1) e0 ⟨rfl, N0, rfl⟩ rfl (fun fs hr => pre0 _ (by
  show Sx p e below s₁ m 0 #[rv qa1, iv 2] [] _
  refine zj X0 Bd d18_0 rfl ?_
  refine zb X0 Bd d18_1 rfl rfl ?_
  refine X0.arraylength hx (by rw [e0]; exact Ar1.1) (State.isArrayOf_alike hZ.alike Ar1.2.1) (g := (mkF m 2 #[rv qa1, iv 2] [.ref qa1, .int 2])) rfl rfl (hb hby d18_2) _ ?_
  rw [len_of S1 N1]
  refine XS.isub X0.here hx rfl (hb hby d18_3) rfl ?_
  refine zd X0 Bd d18_4 ?_
  refine XS.iushr X0.here hx rfl (hb hby d18_6) rfl ?_
  refine XS.i2b X0.here hx rfl (hb hby d18_7) rfl ?_
  exact retN X0 hx (t := .byte) Bd.returns (by simp) (hb hby d18_8) hr))
-- java/lang/String.<init>([CIILjava/lang/Void;)V
def Q50 (Z : State) (qa1 : Addr) (qi4 : Int32) (qi5 : Int32) (h0 : Heap) (n0 : Nat) (v : Option Value) (h : Heap) (L : List Loc) : Prop := ∃ b7 : Addr, ∃ c8_ : ClassId, v = none ∧ Fr n0 L ∧ Keep h0 h [qa1] ∧ h0.size ≤ b7 ∧ Exa Z h qa1 "java/lang/String" ∧ Fld Z h qa1 "java/lang/String" "coder" "B" (.int 1) ∧ Fld Z h qa1 "java/lang/String" "value" "[B" (.ref b7) ∧ Arv Z h b7 c8_ .byte (4 : Int32) [(.int ((((qi4 >>> ((0 : Int32) &&& 31)))).toInt8.toInt32)), (.int ((((qi4 >>> ((8 : Int32) &&& 31)))).toInt8.toInt32)), (.int ((((qi5 >>> ((0 : Int32) &&& 31)))).toInt8.toInt32)), (.int ((((qi5 >>> ((8 : Int32) &&& 31)))).toInt8.toInt32))] (.int 0)
theorem rm50 (l : Launch) (Z : State) (a0 : Array Value) (hw : HW a0 Z) (G1 : Int32) (qa1 : Addr) (qa2 : Addr) (qk3 : ClassId) (qi4 : Int32) (qi5 : Int32) (h0 : Heap) (n0 : Nat) (X00 : Old Z n0 h0) (O2 : Sta Z Z.heap "java/lang/String" "COMPACT_STRINGS" "Z" (.int G1)) (P5 : ¬ (G1 = (0 : Int32))) (uS12 : Sta Z Z.heap "java/lang/StringUTF16" "$assertionsDisabled" "Z" (.int 1)) (uS15 : Sta Z Z.heap "java/lang/StringUTF16" "HI_BYTE_SHIFT" "I" (.int 0)) (uS18 : Sta Z Z.heap "java/lang/StringUTF16" "LO_BYTE_SHIFT" "I" (.int 8)) (A_qa2 : Arv Z h0 qa2 qk3 .char (2 : Int32) [.int qi4, .int qi5] (.int 0)) (hc4 : (255 : Int32) < (own_max ([qi4, qi5] : List Int32))) (hr5 : nar .char qi4 = qi4) (hr6 : nar .char qi5 = qi5) (E_qa1 : Exa Z h0 qa1 "java/lang/String") (F_qa1_coder : Fld Z h0 qa1 "java/lang/String" "coder" "B" (.int 0)) (g_qa1 : n0 ≤ qa1) (F_qa1_value : Fld Z h0 qa1 "java/lang/String" "value" "[B" .null) :
    MF l Z Y1_ jdk_42_method_149_code 6 none (Rm 4 2 6 57) #[.ref qa1, .ref qa2, .int 0, .int 2, .null] h0 (Q50 Z qa1 qi4 qi5 h0 n0) := by
 refine own_sF pn1 rfl (fun m => ef3 m qa1 qa2 (0 : Int32) (2 : Int32)) ?_
 intro p e s m below meth c s₁ Bd hZ hh hx hby hml hown hnm X0 e0 pre0
 have N0 := Fr.nil n0
 obtain ⟨T1, X1, e1, st1⟩ := initO X0 hx hZ hown (w17_ hw) (w18_ hw) (w19_ hw) e0 (g := (mkF m 1 #[rv qa1, rv qa2, iv 0, iv 2, .val .null, .unset] [.ref qa1])) rfl hml.symm rfl (hb hby d2_1) (by decide) (W := 0) (own_hw rfl) (lE rfl)
 obtain ⟨T2, X2, e2, st2⟩ := getS2 X1 hx hZ hown (host := "") (Or.inl (w47_ hw)) Via.refl e1 (O2.ext X00.2) (g := (mkF m 27 #[rv qa1, rv qa2, iv 0, iv 2, .val .null, .unset] [])) rfl (hb hby d2_27)
 obtain ⟨_, T3, L3, X3, hQ3, st3⟩ := own_cS 2 6 [] 36 #[rv qa1, rv qa2, iv 0, iv 2, .val .null, .unset] X2 hx hZ hown (w72_ hw) (w73_ hw) (w74_ hw) (w75_ hw) (rm48 l Z a0 hw  qa2 qk3 qi4 qi5 h0 n0 X00 uS12 uS15 uS18 A_qa2 hc4 hr5 hr6) pd13 hml.symm (hb hby d2_36) e2 rfl rfl rfl rfl (by decide)
 obtain ⟨b7, c8_, rfl, N3q, K3q, w9, w10⟩ := hQ3
 have N3 := Fr.app N0 N3q
 have K11 := (Keep.refl h0 [qa1]).trans K3q (fun x q => nomatch q)
 have O13 := X00.keep K3q all0
 obtain ⟨_, T12, L12, X12, hQ12, st12⟩ := own_cS 2 6 [.ref qa1] 45 #[rv qa1, rv qa2, iv 0, iv 2, .val .null, rv b7] X3 hx hZ hown (w79_ hw) (w80_ hw) (w74_ hw) (w81_ hw) (rm49 l Z a0 hw  b7 c8_ ((((qi4 >>> ((0 : Int32) &&& 31)))).toInt8.toInt32) ((((qi4 >>> ((8 : Int32) &&& 31)))).toInt8.toInt32) ((((qi5 >>> ((0 : Int32) &&& 31)))).toInt8.toInt32) ((((qi5 >>> ((8 : Int32) &&& 31)))).toInt8.toInt32) T3.heap n0 O13 w10) pd15 hml.symm (hb hby d2_45) rfl rfl rfl rfl rfl (by decide)
 obtain ⟨rfl, N12q, e12q⟩ := hQ12
 have N12 := Fr.app N3 N12q
 have F14_ := F_qa1_coder.keep K3q nin0
 have E15_ := E_qa1.keep K3q
 obtain ⟨T16, h16, X16, e16, W16, st16⟩ := putF X12 hx hZ hown (host := "") (Or.inl (w27_ hw)) Via.refl e12q F14_ E15_ (Or.inr ⟨(w23_ hw), rfl, hnm⟩) (w7_ hw) (ty := .byte) (by decide) rfl rfl (g := (mkF m 48 #[rv qa1, rv qa2, iv 0, iv 2, .val .null, rv b7] [.int 1, .ref qa1])) rfl rfl (hb hby d2_48)
 have N16 := Fr.snoc X16 N12 g_qa1
 have K17 := K11.wr W16 (Or.inl (mI 0 rfl))
 have F18_ : Fld Z h16 qa1 "java/lang/String" "coder" "B" (.int 1) := F14_.same W16
 have F19_ := F_qa1_value.keep K3q nin0
 have F20_ := F19_.other W16 (Or.inr (slot_ne (Or.inr (w22_ hw)) (Or.inr (w23_ hw)) (by decide) (t := (.array .byte)) (t' := .byte) (by decide) (by decide)))
 have E21_ := E15_.wr W16
 obtain ⟨T22, h22, X22, e22, W22, st22⟩ := putF X16 hx hZ hown (host := "") (Or.inl (w26_ hw)) Via.refl e16 F20_ E21_ (Or.inr ⟨(w22_ hw), rfl, hnm⟩) (w7_ hw) (ty := (.array .byte)) (by decide) rfl rfl (g := (mkF m 54 #[rv qa1, rv qa2, iv 0, iv 2, .val .null, rv b7] [.ref b7, .ref qa1])) rfl rfl (hb hby d2_54)
 have N22 := Fr.snoc X22 N16 g_qa1
 have K23 := K17.wr W22 (Or.inl (mI 0 rfl))
 have F24_ : Fld Z h22 qa1 "java/lang/String" "value" "[B" (.ref b7) := F20_.same W22
 have sz_b7 : h0.size ≤ b7 := w9
 have E25_ := E21_.wr W22
 have F26_ := F18_.other W22 (Or.inr (slot_ne (Or.inr (w23_ hw)) (Or.inr (w22_ hw)) (by decide) (t := .byte) (t' := (.array .byte)) (by decide) (by decide)))
 have A27_ := w10.other W16 (Ne.symm (Nat.ne_of_lt (Nat.lt_of_lt_of_le E_qa1.lt w9)))
 have A28_ := A27_.other W22 (Ne.symm (Nat.ne_of_lt (Nat.lt_of_lt_of_le E_qa1.lt w9)))
 refine own_lvN X22 Bd e22 ⟨b7, c8_, rfl, N22, K23, sz_b7, E25_, F26_, F24_, A28_⟩ rfl (fun fs hr => pre0 _ (by
  show Sx p e below s₁ m 0 #[rv qa1, rv qa2, iv 0, iv 2, .val .null, .unset] [] _
  refine zb X0 Bd d2_0 rfl rfl ?_
  refine st1 _ ?_
  refine zj X1 Bd d2_4 rfl ?_
  refine zp (pc' := 27) X1 Bd d2_5 (XT.i0_ne_t ((by decide) : ¬ ((2 : Int32) = (0 : Int32)))) rfl ?_
  refine st2 _ ?_
  refine zo X2 Bd d2_30 (XT.i0_eq_f (P5 : ¬ (G1 = (0 : Int32)))) ?_
  refine zb X2 Bd d2_33 rfl rfl ?_
  refine zj X2 Bd d2_34 rfl ?_
  refine zj X2 Bd d2_35 rfl ?_
  refine st3 _ ?_
  refine XS.astore X3.here hx rfl (hb hby d2_39) rfl rfl (l' := #[rv qa1, rv qa2, iv 0, iv 2, .val .null, rv b7]) rfl ?_
  refine zb X3 Bd d2_41 rfl rfl ?_
  refine za X3 Bd d2_42 rfl rfl ?_
  refine zj X3 Bd d2_44 rfl ?_
  refine st12 _ ?_
  refine st16 _ ?_
  refine zb X16 Bd d2_51 rfl rfl ?_
  refine za X16 Bd d2_52 rfl rfl ?_
  refine st22 _ ?_
  exact X22.returnOut hx Bd.returns (hb hby d2_57) hr))
-- java/lang/String.<init>([C)V
def Q51 (Z : State) (qa1 : Addr) (qi4 : Int32) (qi5 : Int32) (h0 : Heap) (n0 : Nat) (v : Option Value) (h : Heap) (L : List Loc) : Prop := ∃ b6 : Addr, ∃ c7_ : ClassId, v = none ∧ Fr n0 L ∧ Keep h0 h [qa1] ∧ h0.size ≤ b6 ∧ Exa Z h qa1 "java/lang/String" ∧ Fld Z h qa1 "java/lang/String" "coder" "B" (.int 1) ∧ Fld Z h qa1 "java/lang/String" "value" "[B" (.ref b6) ∧ Arv Z h b6 c7_ .byte (4 : Int32) [(.int ((((qi4 >>> ((0 : Int32) &&& 31)))).toInt8.toInt32)), (.int ((((qi4 >>> ((8 : Int32) &&& 31)))).toInt8.toInt32)), (.int ((((qi5 >>> ((0 : Int32) &&& 31)))).toInt8.toInt32)), (.int ((((qi5 >>> ((8 : Int32) &&& 31)))).toInt8.toInt32))] (.int 0)
theorem rm51 (l : Launch) (Z : State) (a0 : Array Value) (hw : HW a0 Z) (G1 : Int32) (qa1 : Addr) (qa2 : Addr) (qk3 : ClassId) (qi4 : Int32) (qi5 : Int32) (h0 : Heap) (n0 : Nat) (X00 : Old Z n0 h0) (O2 : Sta Z Z.heap "java/lang/String" "COMPACT_STRINGS" "Z" (.int G1)) (P5 : ¬ (G1 = (0 : Int32))) (uS12 : Sta Z Z.heap "java/lang/StringUTF16" "$assertionsDisabled" "Z" (.int 1)) (uS15 : Sta Z Z.heap "java/lang/StringUTF16" "HI_BYTE_SHIFT" "I" (.int 0)) (uS18 : Sta Z Z.heap "java/lang/StringUTF16" "LO_BYTE_SHIFT" "I" (.int 8)) (A_qa2 : Arv Z h0 qa2 qk3 .char (2 : Int32) [.int qi4, .int qi5] (.int 0)) (hc3 : (255 : Int32) < (own_max ([qi4, qi5] : List Int32))) (hr4 : nar .char qi4 = qi4) (hr5 : nar .char qi5 = qi5) (E_qa1 : Exa Z h0 qa1 "java/lang/String") (F_qa1_coder : Fld Z h0 qa1 "java/lang/String" "coder" "B" (.int 0)) (g_qa1 : n0 ≤ qa1) (F_qa1_value : Fld Z h0 qa1 "java/lang/String" "value" "[B" .null) :
    MF l Z Y2_ jdk_42_method_3_code 2 none (Rm 5 2 6 74) #[.ref qa1, .ref qa2] h0 (Q51 Z qa1 qi4 qi5 h0 n0) := by
 refine own_sF pn1 rfl (fun m => ef2 m qa1 qa2) ?_
 intro p e s m below meth c s₁ Bd hZ hh hx hby hml hown hnm X0 e0 pre0
 have N0 := Fr.nil n0
 have av1 := A_qa2
 obtain ⟨cl1, Ar1, q1, S1, N1, H1, Gf1⟩ := av1
 obtain ⟨_, T2, L2, X2, hQ2, st2⟩ := own_cI 2 6 [] 6 #[rv qa1, rv qa2] X0 hx hZ hown (w13_ hw) (w14_ hw) (w8_ hw) (w16_ hw) (rm50 l Z a0 hw G1 qa1 qa2 qk3 qi4 qi5 h0 n0 X00 O2 P5 uS12 uS15 uS18 A_qa2 hc3 hr4 hr5 E_qa1 F_qa1_coder g_qa1 F_qa1_value) pd1 hml.symm (hb hby d1_6) e0 rfl rfl rfl rfl rfl (by decide)
 obtain ⟨b6, c7_, rfl, N2q, K2q, w8, w9, w10, w11, w12⟩ := hQ2
 have N2 := Fr.app N0 N2q
 have K13 := (Keep.refl h0 [qa1]).trans K2q (allS (Or.inl (mI 0 rfl)) all0)
 have sz_b6 : h0.size ≤ b6 := w8
 have E14_ := E_qa1.keep K2q
 refine own_lvN X2 Bd rfl ⟨b6, c7_, rfl, N2, K13, sz_b6, E14_, w10, w11, w12⟩ rfl (fun fs hr => pre0 _ (by
  show Sx p e below s₁ m 0 #[rv qa1, rv qa2] [] _
  refine zb X0 Bd d1_0 rfl rfl ?_
  refine zb X0 Bd d1_1 rfl rfl ?_
  refine zc X0 Bd d1_2 ?_
  refine zb X0 Bd d1_3 rfl rfl ?_
  refine X0.arraylength hx (by rw [e0]; exact Ar1.1) (State.isArrayOf_alike hZ.alike Ar1.2.1) (g := (mkF m 4 #[rv qa1, rv qa2] [.ref qa2, .int 0, .ref qa2, .ref qa1])) rfl rfl (hb hby d1_4) _ ?_
  rw [len_of S1 N1]
  refine XS.aconstNull X0.here hx rfl (hb hby d1_5) ?_
  refine st2 _ ?_
  exact X2.returnOut hx Bd.returns (hb hby d1_9) hr))
-- java/lang/String.length()I
def Q52 (Z : State)  (h0 : Heap) (n0 : Nat) (v : Option Value) (h : Heap) (L : List Loc) : Prop := v = some (.int 2) ∧ Fr n0 L ∧ h = h0
theorem rm52 (l : Launch) (Z : State) (a0 : Array Value) (hw : HW a0 Z) (G1 : Int32) (qa1 : Addr) (qa2 : Addr) (qk3 : ClassId) (qi4 : Int32) (qi5 : Int32) (qi6 : Int32) (qi7 : Int32) (h0 : Heap) (n0 : Nat) (X00 : Old Z n0 h0) (O2 : Sta Z Z.heap "java/lang/String" "COMPACT_STRINGS" "Z" (.int G1)) (P5 : ¬ (G1 = (0 : Int32))) (F_qa1_value : Fld Z h0 qa1 "java/lang/String" "value" "[B" (.ref qa2)) (A_qa2 : Arv Z h0 qa2 qk3 .byte (4 : Int32) [.int qi4, .int qi5, .int qi6, .int qi7] (.int 0)) (E_qa1 : Exa Z h0 qa1 "java/lang/String") (F_qa1_coder : Fld Z h0 qa1 "java/lang/String" "coder" "B" (.int 1)) :
    MF l Z Y9_ jdk_42_method_54_code 1 (some .int) (Rm 1 0 0 13) #[.ref qa1] h0 (Q52 Z  h0 n0) := by
 refine own_sF pn1 rfl (fun m => ef4 m qa1) ?_
 intro p e s m below meth c s₁ Bd hZ hh hx hby hml hown hnm X0 e0 pre0
 have N0 := Fr.nil n0
 obtain ⟨T1, X1, e1, st1⟩ := getF X0 hx hZ hown (host := "") (Or.inl (w26_ hw)) Via.refl e0 F_qa1_value (g := (mkF m 1 #[rv qa1] [.ref qa1])) rfl rfl (hb hby d19_1)
 have av2 := A_qa2
 obtain ⟨cl2, Ar2, q2, S2, N2, H2, Gf2⟩ := av2
 obtain ⟨_, T3, L3, X3, hQ3, st3⟩ := own_cV 0 0 [.int 4] 6 #[rv qa1] X1 hx hZ hown E_qa1 (w53_ hw) (w54_ hw) (notFace_of_selects (args := #[]) (mvT hZ (w56_ hw))) (w56_ hw) (w55_ hw) (w8_ hw) (w57_ hw) (rm23 l Z a0 hw G1 qa1 h0 n0 X00 O2 P5 F_qa1_coder) pd16 hml.symm (hb hby d19_6) e1 rfl rfl rfl rfl (by decide)
 obtain ⟨rfl, N3q, e3q⟩ := hQ3
 have N3 := Fr.app N0 N3q
 refine own_lvF X3 Bd (.int 2) e3q ⟨rfl, N3, rfl⟩ rfl (fun fs hr => pre0 _ (by
  show Sx p e below s₁ m 0 #[rv qa1] [] _
  refine zb X0 Bd d19_0 rfl rfl ?_
  refine st1 _ ?_
  refine X1.arraylength hx (by rw [e1]; exact Ar2.1) (State.isArrayOf_alike hZ.alike Ar2.2.1) (g := (mkF m 4 #[rv qa1] [.ref qa2])) rfl rfl (hb hby d19_4) _ ?_
  rw [len_of S2 N2]
  refine zb X1 Bd d19_5 rfl rfl ?_
  refine st3 _ ?_
  refine XS.ishr X3.here hx rfl (hb hby d19_9) rfl ?_
  exact retI X3 hx Bd.returns (hb hby d19_10) hr))
-- java/lang/Math.min(II)I
def Q53 (Z : State)  (h0 : Heap) (n0 : Nat) (v : Option Value) (h : Heap) (L : List Loc) : Prop := v = some (.int 2) ∧ Fr n0 L ∧ h = h0
theorem rm53 (l : Launch) (Z : State) (a0 : Array Value) (hw : HW a0 Z)  (h0 : Heap) (n0 : Nat) (X00 : Old Z n0 h0)  :
    MF l Z Y6_ jdk_29_method_69_code 2 (some .int) (Rm 0 0 0 0) #[.int 2, .int 2] h0 (Q53 Z  h0 n0) := by
 refine own_sFm (K := "java/lang/Math") (by decide +kernel) rfl (fun m => ef9 m (2 : Int32) (2 : Int32)) ?_
 intro p e s m below meth c s₁ Bd hZ hh hx hby hml hown hnm X0 e0 pre0
 have N0 := Fr.nil n0
 refine own_lvF X0 Bd (.int 2) e0 ⟨rfl, N0, rfl⟩ rfl (fun fs hr => pre0 _ (by
  show Sx p e below s₁ m 0 #[iv 2, iv 2] [] _
  refine zj X0 Bd d10_0 rfl ?_
  refine zj X0 Bd d10_1 rfl ?_
  refine zn X0 Bd d10_2 (XT.ii_gt_f ((by decide) : ¬ ((2 : Int32) < (2 : Int32)))) ?_
  refine zj X0 Bd d10_5 rfl ?_
  refine zg (pc' := 10) X0 Bd d10_6 rfl ?_
  exact retI X0 hx Bd.returns (hb hby d10_10) hr))
-- java/lang/StringUTF16.length([B)I
def Q54 (Z : State)  (h0 : Heap) (n0 : Nat) (v : Option Value) (h : Heap) (L : List Loc) : Prop := v = some (.int 2) ∧ Fr n0 L ∧ h = h0
theorem rm54 (l : Launch) (Z : State) (a0 : Array Value) (hw : HW a0 Z) (qa1 : Addr) (qk2 : ClassId) (qi3 : Int32) (qi4 : Int32) (qi5 : Int32) (qi6 : Int32) (h0 : Heap) (n0 : Nat) (X00 : Old Z n0 h0) (A_qa1 : Arv Z h0 qa1 qk2 .byte (4 : Int32) [.int qi3, .int qi4, .int qi5, .int qi6] (.int 0)) :
    MF l Z Y21_ jdk_52_method_6_code 1 (some .int) (Rm 0 0 0 0) #[.ref qa1] h0 (Q54 Z  h0 n0) := by
 refine own_sF pn4 rfl (fun m => ef4 m qa1) ?_
 intro p e s m below meth c s₁ Bd hZ hh hx hby hml hown hnm X0 e0 pre0
 have N0 := Fr.nil n0
 have av1 := A_qa1
 obtain ⟨cl1, Ar1, q1, S1, N1, H1, Gf1⟩ := av1
 refine own_lvF X0 Bd (.int 2) e0 ⟨rfl, N0, rfl⟩ rfl (fun fs hr => pre0 _ (by
  show Sx p e below s₁ m 0 #[rv qa1] [] _
  refine zb X0 Bd d24_0 rfl rfl ?_
  refine X0.arraylength hx (by rw [e0]; exact Ar1.1) (State.isArrayOf_alike hZ.alike Ar1.2.1) (g := (mkF m 1 #[rv qa1] [.ref qa1])) rfl rfl (hb hby d24_1) _ ?_
  rw [len_of S1 N1]
  refine zc X0 Bd d24_2 ?_
  refine XS.ishr X0.here hx rfl (hb hby d24_3) rfl ?_
  exact retI X0 hx Bd.returns (hb hby d24_4) hr))
-- jdk/internal/util/Preconditions.checkFromToIndex(IIILjava/util/function/BiFunction;)I
def Q55 (Z : State)  (h0 : Heap) (n0 : Nat) (v : Option Value) (h : Heap) (L : List Loc) : Prop := v = some (.int 0) ∧ Fr n0 L ∧ h = h0
theorem rm55 (l : Launch) (Z : State) (a0 : Array Value) (hw : HW a0 Z) (G3 : Value) (h0 : Heap) (n0 : Nat) (X00 : Old Z n0 h0) (O4 : Sta Z Z.heap "jdk/internal/util/Preconditions" "SIOOBE_FORMATTER" "Ljava/util/function/BiFunction;" G3) (rG3 : G3.isRef = true) :
    MF l Z Y22_ jdk_41_method_12_code 4 (some .int) (Rm 0 0 0 0) #[.int 0, .int 2, .int 2, G3] h0 (Q55 Z  h0 n0) := by
 refine own_sF pn5 rfl (fun m => ef15 m (0 : Int32) (2 : Int32) (2 : Int32) G3 rG3) ?_
 intro p e s m below meth c s₁ Bd hZ hh hx hby hml hown hnm X0 e0 pre0
 have N0 := Fr.nil n0
 refine own_lvF X0 Bd (.int 0) e0 ⟨rfl, N0, rfl⟩ rfl (fun fs hr => pre0 _ (by
  show Sx p e below s₁ m 0 #[iv 0, iv 2, iv 2, .val G3] [] _
  refine zj X0 Bd d26_0 rfl ?_
  refine zo X0 Bd d26_1 (XT.i0_lt_f ((by decide) : ¬ ((0 : Int32) < (0 : Int32)))) ?_
  refine zj X0 Bd d26_4 rfl ?_
  refine zj X0 Bd d26_5 rfl ?_
  refine zn X0 Bd d26_6 (XT.ii_gt_f ((by decide) : ¬ ((2 : Int32) < (0 : Int32)))) ?_
  refine zj X0 Bd d26_9 rfl ?_
  refine zj X0 Bd d26_10 rfl ?_
  refine zy (pc' := 22) X0 Bd d26_11 (XT.ii_le_t ((by decide) : ¬ ((2 : Int32) < (2 : Int32)))) rfl ?_
  refine zj X0 Bd d26_22 rfl ?_
  exact retI X0 hx Bd.returns (hb hby d26_23) hr))
-- java/lang/String.checkBoundsBeginEnd(III)V
def Q56 (Z : State)  (h0 : Heap) (n0 : Nat) (v : Option Value) (h : Heap) (L : List Loc) : Prop := v = none ∧ Fr n0 L ∧ h = h0
theorem rm56 (l : Launch) (Z : State) (a0 : Array Value) (hw : HW a0 Z) (G3 : Value) (h0 : Heap) (n0 : Nat) (X00 : Old Z n0 h0) (O4 : Sta Z Z.heap "jdk/internal/util/Preconditions" "SIOOBE_FORMATTER" "Ljava/util/function/BiFunction;" G3) (rG3 : G3.isRef = true) :
    MF l Z Y23_ jdk_42_method_158_code 3 none (Rm 1 0 0 15) #[.int 0, .int 2, .int 2] h0 (Q56 Z  h0 n0) := by
 refine own_sF pn1 rfl (fun m => ef14 m (0 : Int32) (2 : Int32) (2 : Int32)) ?_
 intro p e s m below meth c s₁ Bd hZ hh hx hby hml hown hnm X0 e0 pre0
 have N0 := Fr.nil n0
 obtain ⟨T1, X1, e1, st1⟩ := getS2 X0 hx hZ hown (host := "") (Or.inl (w122_ hw)) Via.refl e0 (O4.ext X00.2) (g := (mkF m 3 #[iv 0, iv 2, iv 2] [.int 2, .int 2, .int 0])) rfl (hb hby d25_3)
 obtain ⟨_, T2, L2, X2, hQ2, st2⟩ := own_cS 0 0 [] 6 #[iv 0, iv 2, iv 2] X1 hx hZ hown (w124_ hw) (w125_ hw) (w123_ hw) (w126_ hw) (rm55 l Z a0 hw G3  h0 n0 X00 O4 rG3) pd18 hml.symm (hb hby d25_6) e1 rfl rfl rfl rfl (by decide)
 obtain ⟨rfl, N2q, e2q⟩ := hQ2
 have N2 := Fr.app N0 N2q
 refine own_lvN X2 Bd e2q ⟨rfl, N2, rfl⟩ rfl (fun fs hr => pre0 _ (by
  show Sx p e below s₁ m 0 #[iv 0, iv 2, iv 2] [] _
  refine zj X0 Bd d25_0 rfl ?_
  refine zj X0 Bd d25_1 rfl ?_
  refine zj X0 Bd d25_2 rfl ?_
  refine st1 _ ?_
  refine st2 _ ?_
  refine XS.pop X2.here hx rfl (hb hby d25_9) rfl rfl ?_
  exact X2.returnOut hx Bd.returns (hb hby d25_10) hr))
-- java/lang/StringUTF16.checkBoundsBeginEnd(II[B)V
def Q57 (Z : State)  (h0 : Heap) (n0 : Nat) (v : Option Value) (h : Heap) (L : List Loc) : Prop := v = none ∧ Fr n0 L ∧ h = h0
theorem rm57 (l : Launch) (Z : State) (a0 : Array Value) (hw : HW a0 Z) (G3 : Value) (qa1 : Addr) (qk2 : ClassId) (qi3 : Int32) (qi4 : Int32) (qi5 : Int32) (qi6 : Int32) (h0 : Heap) (n0 : Nat) (X00 : Old Z n0 h0) (O4 : Sta Z Z.heap "jdk/internal/util/Preconditions" "SIOOBE_FORMATTER" "Ljava/util/function/BiFunction;" G3) (rG3 : G3.isRef = true) (A_qa1 : Arv Z h0 qa1 qk2 .byte (4 : Int32) [.int qi3, .int qi4, .int qi5, .int qi6] (.int 0)) :
    MF l Z Y24_ jdk_52_method_93_code 3 none (Rm 2 0 0 29) #[.int 0, .int 2, .ref qa1] h0 (Q57 Z  h0 n0) := by
 refine own_sF pn4 rfl (fun m => ef13 m (0 : Int32) (2 : Int32) qa1) ?_
 intro p e s m below meth c s₁ Bd hZ hh hx hby hml hown hnm X0 e0 pre0
 have N0 := Fr.nil n0
 obtain ⟨_, T1, L1, X1, hQ1, st1⟩ := own_cS 0 0 [.int 2, .int 0] 3 #[iv 0, iv 2, rv qa1] X0 hx hZ hown (w116_ hw) (w117_ hw) (w74_ hw) (w118_ hw) (rm54 l Z a0 hw  qa1 qk2 qi3 qi4 qi5 qi6 h0 n0 X00 A_qa1) pd17 hml.symm (hb hby d23_3) e0 rfl rfl rfl rfl (by decide)
 obtain ⟨rfl, N1q, e1q⟩ := hQ1
 have N1 := Fr.app N0 N1q
 obtain ⟨_, T2, L2, X2, hQ2, st2⟩ := own_cS 0 0 [] 6 #[iv 0, iv 2, rv qa1] X1 hx hZ hown (w119_ hw) (w120_ hw) (w8_ hw) (w121_ hw) (rm56 l Z a0 hw G3  h0 n0 X00 O4 rG3) pd19 hml.symm (hb hby d23_6) e1q rfl rfl rfl rfl (by decide)
 obtain ⟨rfl, N2q, e2q⟩ := hQ2
 have N2 := Fr.app N1 N2q
 refine own_lvN X2 Bd e2q ⟨rfl, N2, rfl⟩ rfl (fun fs hr => pre0 _ (by
  show Sx p e below s₁ m 0 #[iv 0, iv 2, rv qa1] [] _
  refine zj X0 Bd d23_0 rfl ?_
  refine zj X0 Bd d23_1 rfl ?_
  refine zb X0 Bd d23_2 rfl rfl ?_
  refine st1 _ ?_
  refine st2 _ ?_
  exact X2.returnOut hx Bd.returns (hb hby d23_9) hr))
-- java/lang/StringUTF16.indexOfCharUnsafe([BIII)I
def Q58 (Z : State) (qi2 : Int32) (qi4 : Int32) (qi5 : Int32) (qi6 : Int32) (qi7 : Int32) (h0 : Heap) (n0 : Nat) (v : Option Value) (h : Heap) (L : List Loc) : Prop := v = some (.int (own_ix qi2 (own_L2 qi4 qi5 qi6 qi7) (0 : Int32))) ∧ Fr n0 L ∧ h = h0
theorem rm58 (l : Launch) (Z : State) (a0 : Array Value) (hw : HW a0 Z) (qa1 : Addr) (qi2 : Int32) (qk3 : ClassId) (qi4 : Int32) (qi5 : Int32) (qi6 : Int32) (qi7 : Int32) (h0 : Heap) (n0 : Nat) (X00 : Old Z n0 h0) (uS12 : Sta Z Z.heap "java/lang/StringUTF16" "$assertionsDisabled" "Z" (.int 1)) (uS15 : Sta Z Z.heap "java/lang/StringUTF16" "HI_BYTE_SHIFT" "I" (.int 0)) (uS18 : Sta Z Z.heap "java/lang/StringUTF16" "LO_BYTE_SHIFT" "I" (.int 8)) (A_qa1 : Arv Z h0 qa1 qk3 .byte (4 : Int32) [.int qi4, .int qi5, .int qi6, .int qi7] (.int 0)) :
    MF l Z Y25_ jdk_52_method_48_code 5 (some .int) (Rm 1 0 0 13) #[.ref qa1, .int qi2, .int 0, .int 2] h0 (Q58 Z qi2 qi4 qi5 qi6 qi7 h0 n0) := by
 refine own_sF pn4 rfl (fun m => ef16 m qa1 qi2 (0 : Int32) (2 : Int32)) ?_
 intro p e s m below meth c s₁ Bd hZ hh hx hby hml hown hnm X0 e0 pre0
 have N0 := Fr.nil n0
 obtain ⟨_, T1, L1, X1, hQ1, st1⟩ := own_cS 0 0 [] 12 #[rv qa1, iv qi2, iv 0, iv 2, iv 0] X0 hx hZ hown (w101_ hw) (w102_ hw) (w74_ hw) (w103_ hw) (rm46 l Z a0 hw  qa1 (0 : Int32) qk3 qi4 qi5 qi6 qi7 h0 n0 X00 uS12 uS15 uS18 A_qa1 (by decide) (by decide)) pd14 hml.symm (hb hby d27_12) e0 rfl rfl rfl rfl (by decide)
 obtain ⟨rfl, N1q, e1q⟩ := hQ1
 have N1 := Fr.app N0 N1q
 have pr2 : Pr p e below T1 m 16 #[rv qa1, iv qi2, iv 0, iv 2, iv 0] [.int qi2, (.int ((((((qi4 &&& (255 : Int32)) <<< ((0 : Int32) &&& 31))) ||| (((qi5 &&& (255 : Int32)) <<< ((8 : Int32) &&& 31))))).toUInt32.toUInt16.toUInt32.toInt32))] s₁ (entryFrame m #[.ref qa1, .int qi2, .int 0, .int 2] 5) := fun t k => pre0 t (by
  show Sx p e below s₁ m 0 #[rv qa1, iv qi2, iv 0, iv 2, .unset] [] _
  refine zj X0 Bd d27_0 rfl ?_
  refine zs X0 Bd d27_1 (l' := #[rv qa1, iv qi2, iv 0, iv 2, iv 0]) rfl ?_
  refine zi X0 Bd d27_3 rfl ?_
  refine zj X0 Bd d27_5 rfl ?_
  refine zn X0 Bd d27_6 (XT.ii_ge_f ((by decide) : (0 : Int32) < (2 : Int32))) ?_
  refine zb X0 Bd d27_9 rfl rfl ?_
  refine zi X0 Bd d27_10 rfl ?_
  refine st1 _ ?_
  refine zj X1 Bd d27_15 rfl ?_
  exact k)
 by_cases hc3 : ((((((qi4 &&& (255 : Int32)) <<< ((0 : Int32) &&& 31))) ||| (((qi5 &&& (255 : Int32)) <<< ((8 : Int32) &&& 31))))).toUInt32.toUInt16.toUInt32.toInt32) = qi2
 ·
  skip
  refine own_lvF X1 Bd (.int 0) e1q ⟨(by rw [own_ix, if_pos hc3] <;> rfl), N1, rfl⟩ rfl (fun fs hr => pr2 _ (by
   show Sx p e below T1 m 16 #[rv qa1, iv qi2, iv 0, iv 2, iv 0] [.int qi2, (.int ((((((qi4 &&& (255 : Int32)) <<< ((0 : Int32) &&& 31))) ||| (((qi5 &&& (255 : Int32)) <<< ((8 : Int32) &&& 31))))).toUInt32.toUInt16.toUInt32.toInt32))] _
   refine zn X1 Bd d27_16 (XT.ii_ne_f (hc3 : ((((((qi4 &&& (255 : Int32)) <<< ((0 : Int32) &&& 31))) ||| (((qi5 &&& (255 : Int32)) <<< ((8 : Int32) &&& 31))))).toUInt32.toUInt16.toUInt32.toInt32) = qi2)) ?_
   refine zi X1 Bd d27_19 rfl ?_
   exact retI X1 hx Bd.returns (hb hby d27_21) hr))
 ·
  skip
  obtain ⟨_, T4, L4, X4, hQ4, st4⟩ := own_cS 0 0 [] 12 #[rv qa1, iv qi2, iv 0, iv 2, iv 1] X1 hx hZ hown (w101_ hw) (w102_ hw) (w74_ hw) (w103_ hw) (rm46 l Z a0 hw  qa1 (1 : Int32) qk3 qi4 qi5 qi6 qi7 h0 n0 X00 uS12 uS15 uS18 A_qa1 (by decide) (by decide)) pd14 hml.symm (hb hby d27_12) e1q rfl rfl rfl rfl (by decide)
  obtain ⟨rfl, N4q, e4q⟩ := hQ4
  have N4 := Fr.app N1 N4q
  have pr5 : Pr p e below T4 m 16 #[rv qa1, iv qi2, iv 0, iv 2, iv 1] [.int qi2, (.int ((((((qi6 &&& (255 : Int32)) <<< ((0 : Int32) &&& 31))) ||| (((qi7 &&& (255 : Int32)) <<< ((8 : Int32) &&& 31))))).toUInt32.toUInt16.toUInt32.toInt32))] s₁ (entryFrame m #[.ref qa1, .int qi2, .int 0, .int 2] 5) := fun t k => pr2 t (by
   show Sx p e below T1 m 16 #[rv qa1, iv qi2, iv 0, iv 2, iv 0] [.int qi2, (.int ((((((qi4 &&& (255 : Int32)) <<< ((0 : Int32) &&& 31))) ||| (((qi5 &&& (255 : Int32)) <<< ((8 : Int32) &&& 31))))).toUInt32.toUInt16.toUInt32.toInt32))] _
   refine zy (pc' := 22) X1 Bd d27_16 (XT.ii_ne_t (hc3 : ¬ (((((((qi4 &&& (255 : Int32)) <<< ((0 : Int32) &&& 31))) ||| (((qi5 &&& (255 : Int32)) <<< ((8 : Int32) &&& 31))))).toUInt32.toUInt16.toUInt32.toInt32) = qi2))) rfl ?_
   refine XS.iinc X1.here hx rfl (hb hby d27_22) rfl (l' := #[rv qa1, iv qi2, iv 0, iv 2, iv 1]) rfl ?_
   refine zg (pc' := 3) X1 Bd d27_25 rfl ?_
   refine zi X1 Bd d27_3 rfl ?_
   refine zj X1 Bd d27_5 rfl ?_
   refine zn X1 Bd d27_6 (XT.ii_ge_f ((by decide) : (1 : Int32) < (2 : Int32))) ?_
   refine zb X1 Bd d27_9 rfl rfl ?_
   refine zi X1 Bd d27_10 rfl ?_
   refine st4 _ ?_
   refine zj X4 Bd d27_15 rfl ?_
   exact k)
  by_cases hc6 : ((((((qi6 &&& (255 : Int32)) <<< ((0 : Int32) &&& 31))) ||| (((qi7 &&& (255 : Int32)) <<< ((8 : Int32) &&& 31))))).toUInt32.toUInt16.toUInt32.toInt32) = qi2
  ·
   skip
   refine own_lvF X4 Bd (.int 1) e4q ⟨(by rw [own_ix, if_neg hc3, own_ix, if_pos hc6] <;> rfl), N4, rfl⟩ rfl (fun fs hr => pr5 _ (by
    show Sx p e below T4 m 16 #[rv qa1, iv qi2, iv 0, iv 2, iv 1] [.int qi2, (.int ((((((qi6 &&& (255 : Int32)) <<< ((0 : Int32) &&& 31))) ||| (((qi7 &&& (255 : Int32)) <<< ((8 : Int32) &&& 31))))).toUInt32.toUInt16.toUInt32.toInt32))] _
    refine zn X4 Bd d27_16 (XT.ii_ne_f (hc6 : ((((((qi6 &&& (255 : Int32)) <<< ((0 : Int32) &&& 31))) ||| (((qi7 &&& (255 : Int32)) <<< ((8 : Int32) &&& 31))))).toUInt32.toUInt16.toUInt32.toInt32) = qi2)) ?_
    refine zi X4 Bd d27_19 rfl ?_
    exact retI X4 hx Bd.returns (hb hby d27_21) hr))
  ·
   skip
   refine own_lvF X4 Bd (.int (-1 : Int32)) e4q ⟨(by rw [own_ix, if_neg hc3, own_ix, if_neg hc6, own_ix] <;> rfl), N4, rfl⟩ rfl (fun fs hr => pr5 _ (by
    show Sx p e below T4 m 16 #[rv qa1, iv qi2, iv 0, iv 2, iv 1] [.int qi2, (.int ((((((qi6 &&& (255 : Int32)) <<< ((0 : Int32) &&& 31))) ||| (((qi7 &&& (255 : Int32)) <<< ((8 : Int32) &&& 31))))).toUInt32.toUInt16.toUInt32.toInt32))] _
    refine zy (pc' := 22) X4 Bd d27_16 (XT.ii_ne_t (hc6 : ¬ (((((((qi6 &&& (255 : Int32)) <<< ((0 : Int32) &&& 31))) ||| (((qi7 &&& (255 : Int32)) <<< ((8 : Int32) &&& 31))))).toUInt32.toUInt16.toUInt32.toInt32) = qi2))) rfl ?_
    refine XS.iinc X4.here hx rfl (hb hby d27_22) rfl (l' := #[rv qa1, iv qi2, iv 0, iv 2, iv 2]) rfl ?_
    refine zg (pc' := 3) X4 Bd d27_25 rfl ?_
    refine zi X4 Bd d27_3 rfl ?_
    refine zj X4 Bd d27_5 rfl ?_
    refine zy (pc' := 28) X4 Bd d27_6 (XT.ii_ge_t ((by decide) : ¬ ((2 : Int32) < (2 : Int32)))) rfl ?_
    refine zc X4 Bd d27_28 ?_
    exact retI X4 hx Bd.returns (hb hby d27_29) hr))
-- java/lang/StringUTF16.indexOfChar([BIII)I
def Q59 (Z : State) (qi2 : Int32) (qi4 : Int32) (qi5 : Int32) (qi6 : Int32) (qi7 : Int32) (h0 : Heap) (n0 : Nat) (v : Option Value) (h : Heap) (L : List Loc) : Prop := v = some (.int (own_ix qi2 (own_L2 qi4 qi5 qi6 qi7) (0 : Int32))) ∧ Fr n0 L ∧ h = h0
theorem rm59 (l : Launch) (Z : State) (a0 : Array Value) (hw : HW a0 Z) (G3 : Value) (qa1 : Addr) (qi2 : Int32) (qk3 : ClassId) (qi4 : Int32) (qi5 : Int32) (qi6 : Int32) (qi7 : Int32) (h0 : Heap) (n0 : Nat) (X00 : Old Z n0 h0) (O4 : Sta Z Z.heap "jdk/internal/util/Preconditions" "SIOOBE_FORMATTER" "Ljava/util/function/BiFunction;" G3) (rG3 : G3.isRef = true) (uS12 : Sta Z Z.heap "java/lang/StringUTF16" "$assertionsDisabled" "Z" (.int 1)) (uS15 : Sta Z Z.heap "java/lang/StringUTF16" "HI_BYTE_SHIFT" "I" (.int 0)) (uS18 : Sta Z Z.heap "java/lang/StringUTF16" "LO_BYTE_SHIFT" "I" (.int 8)) (A_qa1 : Arv Z h0 qa1 qk3 .byte (4 : Int32) [.int qi4, .int qi5, .int qi6, .int qi7] (.int 0)) :
    MF l Z Y26_ jdk_52_method_47_code 4 (some .int) (Rm 3 0 0 43) #[.ref qa1, .int qi2, .int 0, .int 2] h0 (Q59 Z qi2 qi4 qi5 qi6 qi7 h0 n0) := by
 refine own_sF pn4 rfl (fun m => ef7 m qa1 qi2 (0 : Int32) (2 : Int32)) ?_
 intro p e s m below meth c s₁ Bd hZ hh hx hby hml hown hnm X0 e0 pre0
 have N0 := Fr.nil n0
 obtain ⟨_, T1, L1, X1, hQ1, st1⟩ := own_cS 0 0 [] 3 #[rv qa1, iv qi2, iv 0, iv 2] X0 hx hZ hown (w113_ hw) (w114_ hw) (w74_ hw) (w115_ hw) (rm57 l Z a0 hw G3 qa1 qk3 qi4 qi5 qi6 qi7 h0 n0 X00 O4 rG3 A_qa1) pd20 hml.symm (hb hby d22_3) e0 rfl rfl rfl rfl (by decide)
 obtain ⟨rfl, N1q, e1q⟩ := hQ1
 have N1 := Fr.app N0 N1q
 obtain ⟨_, T2, L2, X2, hQ2, st2⟩ := own_cS 0 0 [] 10 #[rv qa1, iv qi2, iv 0, iv 2] X1 hx hZ hown (w127_ hw) (w128_ hw) (w74_ hw) (w129_ hw) (rm58 l Z a0 hw  qa1 qi2 qk3 qi4 qi5 qi6 qi7 h0 n0 X00 uS12 uS15 uS18 A_qa1) pd7 hml.symm (hb hby d22_10) e1q rfl rfl rfl rfl (by decide)
 obtain ⟨rfl, N2q, e2q⟩ := hQ2
 have N2 := Fr.app N1 N2q
 refine own_lvF X2 Bd (.int (own_ix qi2 (own_L2 qi4 qi5 qi6 qi7) (0 : Int32))) e2q ⟨rfl, N2, rfl⟩ rfl (fun fs hr => pre0 _ (by
  show Sx p e below s₁ m 0 #[rv qa1, iv qi2, iv 0, iv 2] [] _
  refine zj X0 Bd d22_0 rfl ?_
  refine zj X0 Bd d22_1 rfl ?_
  refine zb X0 Bd d22_2 rfl rfl ?_
  refine st1 _ ?_
  refine zb X1 Bd d22_6 rfl rfl ?_
  refine zj X1 Bd d22_7 rfl ?_
  refine zj X1 Bd d22_8 rfl ?_
  refine zj X1 Bd d22_9 rfl ?_
  refine st2 _ ?_
  exact retI X2 hx Bd.returns (hb hby d22_13) hr))
-- java/lang/StringUTF16.indexOf([BIII)I
def Q60 (Z : State) (qi2 : Int32) (qi4 : Int32) (qi5 : Int32) (qi6 : Int32) (qi7 : Int32) (h0 : Heap) (n0 : Nat) (v : Option Value) (h : Heap) (L : List Loc) : Prop := v = some (.int (own_ix qi2 (own_L2 qi4 qi5 qi6 qi7) (0 : Int32))) ∧ Fr n0 L ∧ h = h0
theorem rm60 (l : Launch) (Z : State) (a0 : Array Value) (hw : HW a0 Z) (G3 : Value) (qa1 : Addr) (qi2 : Int32) (qk3 : ClassId) (qi4 : Int32) (qi5 : Int32) (qi6 : Int32) (qi7 : Int32) (h0 : Heap) (n0 : Nat) (X00 : Old Z n0 h0) (O4 : Sta Z Z.heap "jdk/internal/util/Preconditions" "SIOOBE_FORMATTER" "Ljava/util/function/BiFunction;" G3) (rG3 : G3.isRef = true) (uS12 : Sta Z Z.heap "java/lang/StringUTF16" "$assertionsDisabled" "Z" (.int 1)) (uS15 : Sta Z Z.heap "java/lang/StringUTF16" "HI_BYTE_SHIFT" "I" (.int 0)) (uS18 : Sta Z Z.heap "java/lang/StringUTF16" "LO_BYTE_SHIFT" "I" (.int 8)) (A_qa1 : Arv Z h0 qa1 qk3 .byte (4 : Int32) [.int qi4, .int qi5, .int qi6, .int qi7] (.int 0)) (hc4 : qi2 < (65536 : Int32)) :
    MF l Z Y27_ jdk_52_method_40_code 4 (some .int) (Rm 4 0 0 58) #[.ref qa1, .int qi2, .int 0, .int 2] h0 (Q60 Z qi2 qi4 qi5 qi6 qi7 h0 n0) := by
 refine own_sF pn4 rfl (fun m => ef7 m qa1 qi2 (0 : Int32) (2 : Int32)) ?_
 intro p e s m below meth c s₁ Bd hZ hh hx hby hml hown hnm X0 e0 pre0
 have N0 := Fr.nil n0
 obtain ⟨_, T1, L1, X1, hQ1, st1⟩ := own_cS 0 0 [] 2 #[rv qa1, iv qi2, iv 0, iv 2] X0 hx hZ hown (w107_ hw) (w66_ hw) (w67_ hw) (w68_ hw) (rm6 l Z a0 hw   h0 n0 X00 ) pd6 hml.symm (hb hby d21_2) e0 rfl rfl rfl rfl (by decide)
 obtain ⟨rfl, N1q, e1q⟩ := hQ1
 have N1 := Fr.app N0 N1q
 have av2 := A_qa1
 obtain ⟨cl2, Ar2, q2, S2, N2, H2, Gf2⟩ := av2
 obtain ⟨_, T3, L3, X3, hQ3, st3⟩ := own_cS 0 0 [] 11 #[rv qa1, iv qi2, iv 0, iv 2] X1 hx hZ hown (w108_ hw) (w70_ hw) (w67_ hw) (w71_ hw) (rm53 l Z a0 hw   h0 n0 X00 ) pd6 hml.symm (hb hby d21_11) e1q rfl rfl rfl rfl (by decide)
 obtain ⟨rfl, N3q, e3q⟩ := hQ3
 have N3 := Fr.app N1 N3q
 obtain ⟨_, T5, L5, X5, hQ5, st5⟩ := own_cS 0 0 [] 32 #[rv qa1, iv qi2, iv 0, iv 2] X3 hx hZ hown (w110_ hw) (w111_ hw) (w74_ hw) (w112_ hw) (rm59 l Z a0 hw G3 qa1 qi2 qk3 qi4 qi5 qi6 qi7 h0 n0 X00 O4 rG3 uS12 uS15 uS18 A_qa1) pd7 hml.symm (hb hby d21_32) e3q rfl rfl rfl rfl (by decide)
 obtain ⟨rfl, N5q, e5q⟩ := hQ5
 have N5 := Fr.app N3 N5q
 refine own_lvF X5 Bd (.int (own_ix qi2 (own_L2 qi4 qi5 qi6 qi7) (0 : Int32))) e5q ⟨rfl, N5, rfl⟩ rfl (fun fs hr => pre0 _ (by
  show Sx p e below s₁ m 0 #[rv qa1, iv qi2, iv 0, iv 2] [] _
  refine zj X0 Bd d21_0 rfl ?_
  refine zc X0 Bd d21_1 ?_
  refine st1 _ ?_
  refine zt X1 Bd d21_5 (l' := #[rv qa1, iv qi2, iv 0, iv 2]) rfl ?_
  refine zj X1 Bd d21_6 rfl ?_
  refine zb X1 Bd d21_7 rfl rfl ?_
  refine X1.arraylength hx (by rw [e1q]; exact Ar2.1) (State.isArrayOf_alike hZ.alike Ar2.2.1) (g := (mkF m 8 #[rv qa1, iv qi2, iv 0, iv 2] [.ref qa1, .int 2])) rfl rfl (hb hby d21_8) _ ?_
  rw [len_of S2 N2]
  refine zc X1 Bd d21_9 ?_
  refine XS.ishr X1.here hx rfl (hb hby d21_10) rfl ?_
  refine st3 _ ?_
  refine zt X3 Bd d21_14 (l' := #[rv qa1, iv qi2, iv 0, iv 2]) rfl ?_
  refine zj X3 Bd d21_15 rfl ?_
  refine zj X3 Bd d21_16 rfl ?_
  refine zy (pc' := 22) X3 Bd d21_17 (XT.ii_lt_t ((by decide) : (0 : Int32) < (2 : Int32))) rfl ?_
  refine zj X3 Bd d21_22 rfl ?_
  refine X3.ldcInt hx hown (mvT hZ (w109_ hw)) (g := (mkF m 23 #[rv qa1, iv qi2, iv 0, iv 2] [.int qi2])) rfl (hb hby d21_23) _ ?_
  refine zn X3 Bd d21_25 (XT.ii_ge_f (hc4 : qi2 < (65536 : Int32))) ?_
  refine zb X3 Bd d21_28 rfl rfl ?_
  refine zj X3 Bd d21_29 rfl ?_
  refine zj X3 Bd d21_30 rfl ?_
  refine zj X3 Bd d21_31 rfl ?_
  refine st5 _ ?_
  exact retI X5 hx Bd.returns (hb hby d21_35) hr))
-- java/lang/String.indexOf(II)I
def Q61 (Z : State) (qi2 : Int32) (qi5 : Int32) (qi6 : Int32) (qi7 : Int32) (qi8 : Int32) (h0 : Heap) (n0 : Nat) (v : Option Value) (h : Heap) (L : List Loc) : Prop := v = some (.int (own_ix qi2 (own_L2 qi5 qi6 qi7 qi8) (0 : Int32))) ∧ Fr n0 L ∧ h = h0
theorem rm61 (l : Launch) (Z : State) (a0 : Array Value) (hw : HW a0 Z) (G1 : Int32) (G3 : Value) (qa1 : Addr) (qi2 : Int32) (qa3 : Addr) (qk4 : ClassId) (qi5 : Int32) (qi6 : Int32) (qi7 : Int32) (qi8 : Int32) (h0 : Heap) (n0 : Nat) (X00 : Old Z n0 h0) (O2 : Sta Z Z.heap "java/lang/String" "COMPACT_STRINGS" "Z" (.int G1)) (P5 : ¬ (G1 = (0 : Int32))) (O4 : Sta Z Z.heap "jdk/internal/util/Preconditions" "SIOOBE_FORMATTER" "Ljava/util/function/BiFunction;" G3) (rG3 : G3.isRef = true) (uS12 : Sta Z Z.heap "java/lang/StringUTF16" "$assertionsDisabled" "Z" (.int 1)) (uS15 : Sta Z Z.heap "java/lang/StringUTF16" "HI_BYTE_SHIFT" "I" (.int 0)) (uS18 : Sta Z Z.heap "java/lang/StringUTF16" "LO_BYTE_SHIFT" "I" (.int 8)) (E_qa1 : Exa Z h0 qa1 "java/lang/String") (F_qa1_coder : Fld Z h0 qa1 "java/lang/String" "coder" "B" (.int 1)) (F_qa1_value : Fld Z h0 qa1 "java/lang/String" "value" "[B" (.ref qa3)) (A_qa3 : Arv Z h0 qa3 qk4 .byte (4 : Int32) [.int qi5, .int qi6, .int qi7, .int qi8] (.int 0)) (hc5 : qi2 < (65536 : Int32)) :
    MF l Z Y8_ jdk_42_method_80_code 3 (some .int) (Rm 5 0 0 73) #[.ref qa1, .int qi2, .int 0] h0 (Q61 Z qi2 qi5 qi6 qi7 qi8 h0 n0) := by
 refine own_sF pn1 rfl (fun m => ef6 m qa1 qi2 (0 : Int32)) ?_
 intro p e s m below meth c s₁ Bd hZ hh hx hby hml hown hnm X0 e0 pre0
 have N0 := Fr.nil n0
 obtain ⟨_, T1, L1, X1, hQ1, st1⟩ := own_cV 0 0 [] 1 #[rv qa1, iv qi2, iv 0] X0 hx hZ hown E_qa1 (w42_ hw) (w43_ hw) (notFace_of_selects (args := #[]) (mvT hZ (w45_ hw))) (w45_ hw) (w44_ hw) (w8_ hw) (w46_ hw) (rm22 l Z a0 hw G1 qa1 h0 n0 X00 O2 P5 F_qa1_coder) pd3 hml.symm (hb hby d5_1) e0 rfl rfl rfl rfl (by decide)
 obtain ⟨rfl, N1q, e1q⟩ := hQ1
 have N1 := Fr.app N0 N1q
 obtain ⟨T2, X2, e2, st2⟩ := getF X1 hx hZ hown (host := "") (Or.inl (w26_ hw)) Via.refl e1q F_qa1_value (g := (mkF m 24 #[rv qa1, iv qi2, iv 0] [.ref qa1])) rfl rfl (hb hby d5_24)
 obtain ⟨_, T3, L3, X3, hQ3, st3⟩ := own_cV 0 0 [.int 0, .int qi2, .ref qa3] 30 #[rv qa1, iv qi2, iv 0] X2 hx hZ hown E_qa1 (w48_ hw) (w49_ hw) (notFace_of_selects (args := #[]) (mvT hZ (w51_ hw))) (w51_ hw) (w50_ hw) (w8_ hw) (w52_ hw) (rm52 l Z a0 hw G1 qa1 qa3 qk4 qi5 qi6 qi7 qi8 h0 n0 X00 O2 P5 F_qa1_value A_qa3 E_qa1 F_qa1_coder) pd4 hml.symm (hb hby d5_30) e2 rfl rfl rfl rfl (by decide)
 obtain ⟨rfl, N3q, e3q⟩ := hQ3
 have N3 := Fr.app N1 N3q
 obtain ⟨_, T4, L4, X4, hQ4, st4⟩ := own_cS 0 0 [] 33 #[rv qa1, iv qi2, iv 0] X3 hx hZ hown (w104_ hw) (w105_ hw) (w74_ hw) (w106_ hw) (rm60 l Z a0 hw G3 qa3 qi2 qk4 qi5 qi6 qi7 qi8 h0 n0 X00 O4 rG3 uS12 uS15 uS18 A_qa3 hc5) pd7 hml.symm (hb hby d5_33) e3q rfl rfl rfl rfl (by decide)
 obtain ⟨rfl, N4q, e4q⟩ := hQ4
 have N4 := Fr.app N3 N4q
 refine own_lvF X4 Bd (.int (own_ix qi2 (own_L2 qi5 qi6 qi7 qi8) (0 : Int32))) e4q ⟨rfl, N4, rfl⟩ rfl (fun fs hr => pre0 _ (by
  show Sx p e below s₁ m 0 #[rv qa1, iv qi2, iv 0] [] _
  refine zb X0 Bd d5_0 rfl rfl ?_
  refine st1 _ ?_
  refine zp (pc' := 23) X1 Bd d5_4 (XT.i0_eq_t ((by decide) : (0 : Int32) = (0 : Int32))) rfl ?_
  refine zb X1 Bd d5_23 rfl rfl ?_
  refine st2 _ ?_
  refine zj X2 Bd d5_27 rfl ?_
  refine zj X2 Bd d5_28 rfl ?_
  refine zb X2 Bd d5_29 rfl rfl ?_
  refine st3 _ ?_
  refine st4 _ ?_
  exact retI X4 hx Bd.returns (hb hby d5_36) hr))
-- java/lang/String.indexOf(I)I
def Q62 (Z : State) (qi2 : Int32) (qi5 : Int32) (qi6 : Int32) (qi7 : Int32) (qi8 : Int32) (h0 : Heap) (n0 : Nat) (v : Option Value) (h : Heap) (L : List Loc) : Prop := v = some (.int (own_ix qi2 (own_L2 qi5 qi6 qi7 qi8) (0 : Int32))) ∧ Fr n0 L ∧ h = h0
theorem rm62 (l : Launch) (Z : State) (a0 : Array Value) (hw : HW a0 Z) (G1 : Int32) (G3 : Value) (qa1 : Addr) (qi2 : Int32) (qa3 : Addr) (qk4 : ClassId) (qi5 : Int32) (qi6 : Int32) (qi7 : Int32) (qi8 : Int32) (h0 : Heap) (n0 : Nat) (X00 : Old Z n0 h0) (O2 : Sta Z Z.heap "java/lang/String" "COMPACT_STRINGS" "Z" (.int G1)) (P5 : ¬ (G1 = (0 : Int32))) (O4 : Sta Z Z.heap "jdk/internal/util/Preconditions" "SIOOBE_FORMATTER" "Ljava/util/function/BiFunction;" G3) (rG3 : G3.isRef = true) (uS12 : Sta Z Z.heap "java/lang/StringUTF16" "$assertionsDisabled" "Z" (.int 1)) (uS15 : Sta Z Z.heap "java/lang/StringUTF16" "HI_BYTE_SHIFT" "I" (.int 0)) (uS18 : Sta Z Z.heap "java/lang/StringUTF16" "LO_BYTE_SHIFT" "I" (.int 8)) (E_qa1 : Exa Z h0 qa1 "java/lang/String") (F_qa1_coder : Fld Z h0 qa1 "java/lang/String" "coder" "B" (.int 1)) (F_qa1_value : Fld Z h0 qa1 "java/lang/String" "value" "[B" (.ref qa3)) (A_qa3 : Arv Z h0 qa3 qk4 .byte (4 : Int32) [.int qi5, .int qi6, .int qi7, .int qi8] (.int 0)) (hc2 : qi2 < (65536 : Int32)) :
    MF l Z Y10_ jdk_42_method_79_code 2 (some .int) (Rm 6 0 0 87) #[.ref qa1, .int qi2] h0 (Q62 Z qi2 qi5 qi6 qi7 qi8 h0 n0) := by
 refine own_sF pn1 rfl (fun m => ef5 m qa1 qi2) ?_
 intro p e s m below meth c s₁ Bd hZ hh hx hby hml hown hnm X0 e0 pre0
 have N0 := Fr.nil n0
 obtain ⟨_, T1, L1, X1, hQ1, st1⟩ := own_cV 0 0 [] 3 #[rv qa1, iv qi2] X0 hx hZ hown E_qa1 (w37_ hw) (w38_ hw) (notFace_of_selects (args := #[]) (mvT hZ (w40_ hw))) (w40_ hw) (w39_ hw) (w8_ hw) (w41_ hw) (rm61 l Z a0 hw G1 G3 qa1 qi2 qa3 qk4 qi5 qi6 qi7 qi8 h0 n0 X00 O2 P5 O4 rG3 uS12 uS15 uS18 E_qa1 F_qa1_coder F_qa1_value A_qa3 hc2) pd6 hml.symm (hb hby d4_3) e0 rfl rfl rfl rfl (by decide)
 obtain ⟨rfl, N1q, e1q⟩ := hQ1
 have N1 := Fr.app N0 N1q
 refine own_lvF X1 Bd (.int (own_ix qi2 (own_L2 qi5 qi6 qi7 qi8) (0 : Int32))) e1q ⟨rfl, N1, rfl⟩ rfl (fun fs hr => pre0 _ (by
  show Sx p e below s₁ m 0 #[rv qa1, iv qi2] [] _
  refine zb X0 Bd d4_0 rfl rfl ?_
  refine zj X0 Bd d4_1 rfl ?_
  refine zc X0 Bd d4_2 ?_
  refine st1 _ ?_
  exact retI X1 hx Bd.returns (hb hby d4_6) hr))
-- com/example/echoes_to_canon/echoestocanon/HttpUrl.separator(Ljava/lang/String;)C
def Q63 (Z : State) (qi4 : Int32) (qi5 : Int32) (qi6 : Int32) (qi7 : Int32) (h0 : Heap) (n0 : Nat) (v : Option Value) (h : Heap) (L : List Loc) : Prop := v = some (.int (own_sep (own_L2 qi4 qi5 qi6 qi7))) ∧ Fr n0 L ∧ h = h0
theorem rm63 (l : Launch) (Z : State) (a0 : Array Value) (hw : HW a0 Z) (G1 : Int32) (G3 : Value) (qa1 : Addr) (qa2 : Addr) (qk3 : ClassId) (qi4 : Int32) (qi5 : Int32) (qi6 : Int32) (qi7 : Int32) (h0 : Heap) (n0 : Nat) (X00 : Old Z n0 h0) (O2 : Sta Z Z.heap "java/lang/String" "COMPACT_STRINGS" "Z" (.int G1)) (P5 : ¬ (G1 = (0 : Int32))) (O4 : Sta Z Z.heap "jdk/internal/util/Preconditions" "SIOOBE_FORMATTER" "Ljava/util/function/BiFunction;" G3) (rG3 : G3.isRef = true) (uS12 : Sta Z Z.heap "java/lang/StringUTF16" "$assertionsDisabled" "Z" (.int 1)) (uS15 : Sta Z Z.heap "java/lang/StringUTF16" "HI_BYTE_SHIFT" "I" (.int 0)) (uS18 : Sta Z Z.heap "java/lang/StringUTF16" "LO_BYTE_SHIFT" "I" (.int 8)) (E_qa1 : Exa Z h0 qa1 "java/lang/String") (F_qa1_coder : Fld Z h0 qa1 "java/lang/String" "coder" "B" (.int 1)) (F_qa1_value : Fld Z h0 qa1 "java/lang/String" "value" "[B" (.ref qa2)) (A_qa2 : Arv Z h0 qa2 qk3 .byte (4 : Int32) [.int qi4, .int qi5, .int qi6, .int qi7] (.int 0)) :
    MF l Z Y11_ prog_2_method_30_code 1 (some .char) (Rm 7 0 0 100) #[.ref qa1] h0 (Q63 Z qi4 qi5 qi6 qi7 h0 n0) := by
 refine own_sF pn2 rfl (fun m => ef4 m qa1) ?_
 intro p e s m below meth c s₁ Bd hZ hh hx hby hml hown hnm X0 e0 pre0
 have N0 := Fr.nil n0
 obtain ⟨_, T1, L1, X1, hQ1, st1⟩ := own_cV 0 0 [] 3 #[rv qa1] X0 hx hZ hown E_qa1 (w32_ hw) (w33_ hw) (notFace_of_selects (args := #[]) (mvT hZ (w35_ hw))) (w35_ hw) (w34_ hw) (w8_ hw) (w36_ hw) (rm62 l Z a0 hw G1 G3 qa1 (59 : Int32) qa2 qk3 qi4 qi5 qi6 qi7 h0 n0 X00 O2 P5 O4 rG3 uS12 uS15 uS18 E_qa1 F_qa1_coder F_qa1_value A_qa2 (by decide)) pd8 hml.symm (hb hby d3_3) e0 rfl rfl rfl rfl (by decide)
 obtain ⟨rfl, N1q, e1q⟩ := hQ1
 have N1 := Fr.app N0 N1q
 have pr2 : Pr p e below T1 m 6 #[rv qa1] [(.int (own_ix (59 : Int32) (own_L2 qi4 qi5 qi6 qi7) (0 : Int32)))] s₁ (entryFrame m #[.ref qa1] 1) := fun t k => pre0 t (by
  show Sx p e below s₁ m 0 #[rv qa1] [] _
  refine zb X0 Bd d3_0 rfl rfl ?_
  refine zd X0 Bd d3_1 ?_
  refine st1 _ ?_
  exact k)
 by_cases hc3 : (own_ix (59 : Int32) (own_L2 qi4 qi5 qi6 qi7) (0 : Int32)) < (0 : Int32)
 ·
  skip
  refine own_lvF X1 Bd (.int 38) e1q ⟨(by rw [own_sep, if_pos (show own_ix (59 : Int32) (own_L2 qi4 qi5 qi6 qi7) (0 : Int32) < (0 : Int32) from hc3)] <;> rfl), N1, rfl⟩ rfl (fun fs hr => pr2 _ (by
   show Sx p e below T1 m 6 #[rv qa1] [(.int (own_ix (59 : Int32) (own_L2 qi4 qi5 qi6 qi7) (0 : Int32)))] _
   refine zp (pc' := 23) X1 Bd d3_6 (XT.i0_lt_t (hc3 : (own_ix (59 : Int32) (own_L2 qi4 qi5 qi6 qi7) (0 : Int32)) < (0 : Int32))) rfl ?_
   refine zd X1 Bd d3_23 ?_
   exact retN X1 hx (t := .char) Bd.returns (by simp) (hb hby d3_25) hr))
 ·
  skip
  obtain ⟨_, T4, L4, X4, hQ4, st4⟩ := own_cV 0 0 [] 12 #[rv qa1] X1 hx hZ hown E_qa1 (w32_ hw) (w33_ hw) (notFace_of_selects (args := #[]) (mvT hZ (w35_ hw))) (w35_ hw) (w34_ hw) (w8_ hw) (w36_ hw) (rm62 l Z a0 hw G1 G3 qa1 (38 : Int32) qa2 qk3 qi4 qi5 qi6 qi7 h0 n0 X00 O2 P5 O4 rG3 uS12 uS15 uS18 E_qa1 F_qa1_coder F_qa1_value A_qa2 (by decide)) pd8 hml.symm (hb hby d3_12) e1q rfl rfl rfl rfl (by decide)
  obtain ⟨rfl, N4q, e4q⟩ := hQ4
  have N4 := Fr.app N1 N4q
  have pr5 : Pr p e below T4 m 15 #[rv qa1] [(.int (own_ix (38 : Int32) (own_L2 qi4 qi5 qi6 qi7) (0 : Int32)))] s₁ (entryFrame m #[.ref qa1] 1) := fun t k => pr2 t (by
   show Sx p e below T1 m 6 #[rv qa1] [(.int (own_ix (59 : Int32) (own_L2 qi4 qi5 qi6 qi7) (0 : Int32)))] _
   refine zo X1 Bd d3_6 (XT.i0_lt_f (hc3 : ¬ ((own_ix (59 : Int32) (own_L2 qi4 qi5 qi6 qi7) (0 : Int32)) < (0 : Int32)))) ?_
   refine zb X1 Bd d3_9 rfl rfl ?_
   refine zd X1 Bd d3_10 ?_
   refine st4 _ ?_
   exact k)
  by_cases hc6 : (own_ix (38 : Int32) (own_L2 qi4 qi5 qi6 qi7) (0 : Int32)) < (0 : Int32)
  ·
   skip
   refine own_lvF X4 Bd (.int 59) e4q ⟨(by rw [own_sep, if_neg (show ¬ own_ix (59 : Int32) (own_L2 qi4 qi5 qi6 qi7) (0 : Int32) < (0 : Int32) from hc3), if_pos (show own_ix (38 : Int32) (own_L2 qi4 qi5 qi6 qi7) (0 : Int32) < (0 : Int32) from hc6)] <;> rfl), N4, rfl⟩ rfl (fun fs hr => pr5 _ (by
    show Sx p e below T4 m 15 #[rv qa1] [(.int (own_ix (38 : Int32) (own_L2 qi4 qi5 qi6 qi7) (0 : Int32)))] _
    refine zo X4 Bd d3_15 (XT.i0_ge_f (hc6 : (own_ix (38 : Int32) (own_L2 qi4 qi5 qi6 qi7) (0 : Int32)) < (0 : Int32))) ?_
    refine zd X4 Bd d3_18 ?_
    refine zg (pc' := 25) X4 Bd d3_20 rfl ?_
    exact retN X4 hx (t := .char) Bd.returns (by simp) (hb hby d3_25) hr))
  ·
   skip
   refine own_lvF X4 Bd (.int 38) e4q ⟨(by rw [own_sep, if_neg (show ¬ own_ix (59 : Int32) (own_L2 qi4 qi5 qi6 qi7) (0 : Int32) < (0 : Int32) from hc3), if_neg (show ¬ own_ix (38 : Int32) (own_L2 qi4 qi5 qi6 qi7) (0 : Int32) < (0 : Int32) from hc6)] <;> rfl), N4, rfl⟩ rfl (fun fs hr => pr5 _ (by
    show Sx p e below T4 m 15 #[rv qa1] [(.int (own_ix (38 : Int32) (own_L2 qi4 qi5 qi6 qi7) (0 : Int32)))] _
    refine zp (pc' := 23) X4 Bd d3_15 (XT.i0_ge_t (hc6 : ¬ ((own_ix (38 : Int32) (own_L2 qi4 qi5 qi6 qi7) (0 : Int32)) < (0 : Int32)))) rfl ?_
    refine zd X4 Bd d3_23 ?_
    exact retN X4 hx (t := .char) Bd.returns (by simp) (hb hby d3_25) hr))
-- java/lang/StringLatin1.indexOfChar([BIII)I
def Q64 (Z : State) (qi2 : Int32) (qi4 : Int32) (qi5 : Int32) (h0 : Heap) (n0 : Nat) (v : Option Value) (h : Heap) (L : List Loc) : Prop := v = some (.int (own_ix ((qi2).toInt8.toInt32) ([((qi4).toInt8.toInt32), ((qi5).toInt8.toInt32)] : List Int32) (0 : Int32))) ∧ Fr n0 L ∧ h = h0
theorem rm64 (l : Launch) (Z : State) (a0 : Array Value) (hw : HW a0 Z) (qa1 : Addr) (qi2 : Int32) (qk3 : ClassId) (qi4 : Int32) (qi5 : Int32) (h0 : Heap) (n0 : Nat) (X00 : Old Z n0 h0) (A_qa1 : Arv Z h0 qa1 qk3 .byte (2 : Int32) ((([qi4, qi5] : List Int32).map (fun c => c.toInt8.toInt32)).map Value.int) (.int 0)) :
    MF l Z Y28_ jdk_43_method_23_code 6 (some .int) (Rm 0 0 0 0) #[.ref qa1, .int qi2, .int 0, .int 2] h0 (Q64 Z qi2 qi4 qi5 h0 n0) := by
 refine own_sF pn3 rfl (fun m => ef17 m qa1 qi2 (0 : Int32) (2 : Int32)) ?_
 intro p e s m below meth c s₁ Bd hZ hh hx hby hml hown hnm X0 e0 pre0
 have N0 := Fr.nil n0
 have av1 := A_qa1
 obtain ⟨cl1, Ar1, q1, S1, N1, H1, Gf1⟩ := av1
 have hin2 : ¬ ((0 : Int32) < 0 ∨ cl1.slots.size ≤ ((0 : Int32) : Int32).toNatClampNeg) := inb_of S1 (by decide)
 have hat2 : cl1.slots[((0 : Int32) : Int32).toNatClampNeg]? = some (.int ((qi4).toInt8.toInt32)) := Has.at H1 hin2 rfl
 have pr3 : Pr p e below s₁ m 19 #[rv qa1, iv qi2, iv 0, iv 2, iv ((qi2).toInt8.toInt32), iv 0] [(.int ((qi2).toInt8.toInt32)), (.int ((qi4).toInt8.toInt32))] s₁ (entryFrame m #[.ref qa1, .int qi2, .int 0, .int 2] 6) := fun t k => pre0 t (by
  show Sx p e below s₁ m 0 #[rv qa1, iv qi2, iv 0, iv 2, .unset, .unset] [] _
  refine zj X0 Bd d28_0 rfl ?_
  refine XS.i2b X0.here hx rfl (hb hby d28_1) rfl ?_
  refine zs X0 Bd d28_2 (l' := #[rv qa1, iv qi2, iv 0, iv 2, iv ((qi2).toInt8.toInt32), .unset]) rfl ?_
  refine zj X0 Bd d28_4 rfl ?_
  refine zs X0 Bd d28_5 (l' := #[rv qa1, iv qi2, iv 0, iv 2, iv ((qi2).toInt8.toInt32), iv 0]) rfl ?_
  refine zi X0 Bd d28_7 rfl ?_
  refine zj X0 Bd d28_9 rfl ?_
  refine zn X0 Bd d28_10 (XT.ii_ge_f ((by decide) : (0 : Int32) < (2 : Int32))) ?_
  refine zb X0 Bd d28_13 rfl rfl ?_
  refine zi X0 Bd d28_14 rfl ?_
  refine X0.baloadBytes hx (j := (0 : Int32)) (v := (.int ((qi4).toInt8.toInt32))) (by rw [e0]; exact Ar1.1) (State.isArrayOf_alike hZ.alike Ar1.2.1) Ar1.2.2 hin2 hat2 (g := (mkF m 16 #[rv qa1, iv qi2, iv 0, iv 2, iv ((qi2).toInt8.toInt32), iv 0] [.int 0, .ref qa1])) rfl rfl (hb hby d28_16) _ ?_
  refine zi X0 Bd d28_17 rfl ?_
  exact k)
 by_cases hc4 : ((qi4).toInt8.toInt32) = ((qi2).toInt8.toInt32)
 ·
  skip
  refine own_lvF X0 Bd (.int 0) e0 ⟨(by rw [own_ix, if_pos hc4] <;> rfl), N0, rfl⟩ rfl (fun fs hr => pr3 _ (by
   show Sx p e below s₁ m 19 #[rv qa1, iv qi2, iv 0, iv 2, iv ((qi2).toInt8.toInt32), iv 0] [(.int ((qi2).toInt8.toInt32)), (.int ((qi4).toInt8.toInt32))] _
   refine zn X0 Bd d28_19 (XT.ii_ne_f (hc4 : ((qi4).toInt8.toInt32) = ((qi2).toInt8.toInt32))) ?_
   refine zi X0 Bd d28_22 rfl ?_
   exact retI X0 hx Bd.returns (hb hby d28_24) hr))
 ·
  skip
  have av5 := A_qa1
  obtain ⟨cl5, Ar5, q5, S5, N5, H5, Gf5⟩ := av5
  have hin6 : ¬ ((1 : Int32) < 0 ∨ cl5.slots.size ≤ ((1 : Int32) : Int32).toNatClampNeg) := inb_of S5 (by decide)
  have hat6 : cl5.slots[((1 : Int32) : Int32).toNatClampNeg]? = some (.int ((qi5).toInt8.toInt32)) := Has.at H5 hin6 rfl
  have pr7 : Pr p e below s₁ m 19 #[rv qa1, iv qi2, iv 0, iv 2, iv ((qi2).toInt8.toInt32), iv 1] [(.int ((qi2).toInt8.toInt32)), (.int ((qi5).toInt8.toInt32))] s₁ (entryFrame m #[.ref qa1, .int qi2, .int 0, .int 2] 6) := fun t k => pr3 t (by
   show Sx p e below s₁ m 19 #[rv qa1, iv qi2, iv 0, iv 2, iv ((qi2).toInt8.toInt32), iv 0] [(.int ((qi2).toInt8.toInt32)), (.int ((qi4).toInt8.toInt32))] _
   refine zy (pc' := 25) X0 Bd d28_19 (XT.ii_ne_t (hc4 : ¬ (((qi4).toInt8.toInt32) = ((qi2).toInt8.toInt32)))) rfl ?_
   refine XS.iinc X0.here hx rfl (hb hby d28_25) rfl (l' := #[rv qa1, iv qi2, iv 0, iv 2, iv ((qi2).toInt8.toInt32), iv 1]) rfl ?_
   refine zg (pc' := 7) X0 Bd d28_28 rfl ?_
   refine zi X0 Bd d28_7 rfl ?_
   refine zj X0 Bd d28_9 rfl ?_
   refine zn X0 Bd d28_10 (XT.ii_ge_f ((by decide) : (1 : Int32) < (2 : Int32))) ?_
   refine zb X0 Bd d28_13 rfl rfl ?_
   refine zi X0 Bd d28_14 rfl ?_
   refine X0.baloadBytes hx (j := (1 : Int32)) (v := (.int ((qi5).toInt8.toInt32))) (by rw [e0]; exact Ar5.1) (State.isArrayOf_alike hZ.alike Ar5.2.1) Ar5.2.2 hin6 hat6 (g := (mkF m 16 #[rv qa1, iv qi2, iv 0, iv 2, iv ((qi2).toInt8.toInt32), iv 1] [.int 1, .ref qa1])) rfl rfl (hb hby d28_16) _ ?_
   refine zi X0 Bd d28_17 rfl ?_
   exact k)
  by_cases hc8 : ((qi5).toInt8.toInt32) = ((qi2).toInt8.toInt32)
  ·
   skip
   refine own_lvF X0 Bd (.int 1) e0 ⟨(by rw [own_ix, if_neg hc4, own_ix, if_pos hc8] <;> rfl), N0, rfl⟩ rfl (fun fs hr => pr7 _ (by
    show Sx p e below s₁ m 19 #[rv qa1, iv qi2, iv 0, iv 2, iv ((qi2).toInt8.toInt32), iv 1] [(.int ((qi2).toInt8.toInt32)), (.int ((qi5).toInt8.toInt32))] _
    refine zn X0 Bd d28_19 (XT.ii_ne_f (hc8 : ((qi5).toInt8.toInt32) = ((qi2).toInt8.toInt32))) ?_
    refine zi X0 Bd d28_22 rfl ?_
    exact retI X0 hx Bd.returns (hb hby d28_24) hr))
  ·
   skip
   refine own_lvF X0 Bd (.int (-1 : Int32)) e0 ⟨(by rw [own_ix, if_neg hc4, own_ix, if_neg hc8, own_ix] <;> rfl), N0, rfl⟩ rfl (fun fs hr => pr7 _ (by
    show Sx p e below s₁ m 19 #[rv qa1, iv qi2, iv 0, iv 2, iv ((qi2).toInt8.toInt32), iv 1] [(.int ((qi2).toInt8.toInt32)), (.int ((qi5).toInt8.toInt32))] _
    refine zy (pc' := 25) X0 Bd d28_19 (XT.ii_ne_t (hc8 : ¬ (((qi5).toInt8.toInt32) = ((qi2).toInt8.toInt32)))) rfl ?_
    refine XS.iinc X0.here hx rfl (hb hby d28_25) rfl (l' := #[rv qa1, iv qi2, iv 0, iv 2, iv ((qi2).toInt8.toInt32), iv 2]) rfl ?_
    refine zg (pc' := 7) X0 Bd d28_28 rfl ?_
    refine zi X0 Bd d28_7 rfl ?_
    refine zj X0 Bd d28_9 rfl ?_
    refine zy (pc' := 31) X0 Bd d28_10 (XT.ii_ge_t ((by decide) : ¬ ((2 : Int32) < (2 : Int32)))) rfl ?_
    refine zc X0 Bd d28_31 ?_
    exact retI X0 hx Bd.returns (hb hby d28_32) hr))
-- java/lang/StringLatin1.indexOf([BIII)I
def Q65 (Z : State) (qi2 : Int32) (qi4 : Int32) (qi5 : Int32) (h0 : Heap) (n0 : Nat) (v : Option Value) (h : Heap) (L : List Loc) : Prop := v = some (.int (own_ix ((qi2).toInt8.toInt32) ([((qi4).toInt8.toInt32), ((qi5).toInt8.toInt32)] : List Int32) (0 : Int32))) ∧ Fr n0 L ∧ h = h0
theorem rm65 (l : Launch) (Z : State) (a0 : Array Value) (hw : HW a0 Z) (qa1 : Addr) (qi2 : Int32) (qk3 : ClassId) (qi4 : Int32) (qi5 : Int32) (h0 : Heap) (n0 : Nat) (X00 : Old Z n0 h0) (hc2 : ¬ (qi2 < (0 : Int32))) (hc3 : ¬ ((255 : Int32) < qi2)) (A_qa1 : Arv Z h0 qa1 qk3 .byte (2 : Int32) ((([qi4, qi5] : List Int32).map (fun c => c.toInt8.toInt32)).map Value.int) (.int 0)) :
    MF l Z Y7_ jdk_43_method_22_code 4 (some .int) (Rm 1 0 0 17) #[.ref qa1, .int qi2, .int 0, .int 2] h0 (Q65 Z qi2 qi4 qi5 h0 n0) := by
 refine own_sF pn3 rfl (fun m => ef7 m qa1 qi2 (0 : Int32) (2 : Int32)) ?_
 intro p e s m below meth c s₁ Bd hZ hh hx hby hml hown hnm X0 e0 pre0
 have N0 := Fr.nil n0
 obtain ⟨_, T1, L1, X1, hQ1, st1⟩ := own_cS 0 0 [] 1 #[rv qa1, iv qi2, iv 0, iv 2] X0 hx hZ hown (w62_ hw) (w63_ hw) (w60_ hw) (w64_ hw) (rm5 l Z a0 hw  qi2 h0 n0 X00 hc2 hc3) pd5 hml.symm (hb hby d7_1) e0 rfl rfl rfl rfl (by decide)
 obtain ⟨rfl, N1q, e1q⟩ := hQ1
 have N1 := Fr.app N0 N1q
 obtain ⟨_, T4, L4, X4, hQ4, st4⟩ := own_cS 0 0 [] 11 #[rv qa1, iv qi2, iv 0, iv 2] X1 hx hZ hown (w65_ hw) (w66_ hw) (w67_ hw) (w68_ hw) (rm6 l Z a0 hw   h0 n0 X00 ) pd6 hml.symm (hb hby d7_11) e1q rfl rfl rfl rfl (by decide)
 obtain ⟨rfl, N4q, e4q⟩ := hQ4
 have N4 := Fr.app N1 N4q
 have av5 := A_qa1
 obtain ⟨cl5, Ar5, q5, S5, N5, H5, Gf5⟩ := av5
 obtain ⟨_, T6, L6, X6, hQ6, st6⟩ := own_cS 0 0 [] 18 #[rv qa1, iv qi2, iv 0, iv 2] X4 hx hZ hown (w69_ hw) (w70_ hw) (w67_ hw) (w71_ hw) (rm53 l Z a0 hw   h0 n0 X00 ) pd6 hml.symm (hb hby d7_18) e4q rfl rfl rfl rfl (by decide)
 obtain ⟨rfl, N6q, e6q⟩ := hQ6
 have N6 := Fr.app N4 N6q
 obtain ⟨_, T7, L7, X7, hQ7, st7⟩ := own_cS 0 0 [] 33 #[rv qa1, iv qi2, iv 0, iv 2] X6 hx hZ hown (w82_ hw) (w83_ hw) (w60_ hw) (w84_ hw) (rm64 l Z a0 hw  qa1 qi2 qk3 qi4 qi5 h0 n0 X00 A_qa1) pd7 hml.symm (hb hby d7_33) e6q rfl rfl rfl rfl (by decide)
 obtain ⟨rfl, N7q, e7q⟩ := hQ7
 have N7 := Fr.app N6 N7q
 refine own_lvF X7 Bd (.int (own_ix ((qi2).toInt8.toInt32) ([((qi4).toInt8.toInt32), ((qi5).toInt8.toInt32)] : List Int32) (0 : Int32))) e7q ⟨rfl, N7, rfl⟩ rfl (fun fs hr => pre0 _ (by
  show Sx p e below s₁ m 0 #[rv qa1, iv qi2, iv 0, iv 2] [] _
  refine zj X0 Bd d7_0 rfl ?_
  refine st1 _ ?_
  refine zp (pc' := 9) X1 Bd d7_4 (XT.i0_ne_t ((by decide) : ¬ ((1 : Int32) = (0 : Int32)))) rfl ?_
  refine zj X1 Bd d7_9 rfl ?_
  refine zc X1 Bd d7_10 ?_
  refine st4 _ ?_
  refine zt X4 Bd d7_14 (l' := #[rv qa1, iv qi2, iv 0, iv 2]) rfl ?_
  refine zj X4 Bd d7_15 rfl ?_
  refine zb X4 Bd d7_16 rfl rfl ?_
  refine X4.arraylength hx (by rw [e4q]; exact Ar5.1) (State.isArrayOf_alike hZ.alike Ar5.2.1) (g := (mkF m 17 #[rv qa1, iv qi2, iv 0, iv 2] [.ref qa1, .int 2])) rfl rfl (hb hby d7_17) _ ?_
  rw [len_of S5 N5]
  refine st6 _ ?_
  refine zt X6 Bd d7_21 (l' := #[rv qa1, iv qi2, iv 0, iv 2]) rfl ?_
  refine zj X6 Bd d7_22 rfl ?_
  refine zj X6 Bd d7_23 rfl ?_
  refine zy (pc' := 29) X6 Bd d7_24 (XT.ii_lt_t ((by decide) : (0 : Int32) < (2 : Int32))) rfl ?_
  refine zb X6 Bd d7_29 rfl rfl ?_
  refine zj X6 Bd d7_30 rfl ?_
  refine zj X6 Bd d7_31 rfl ?_
  refine zj X6 Bd d7_32 rfl ?_
  refine st7 _ ?_
  exact retI X7 hx Bd.returns (hb hby d7_36) hr))
-- java/lang/String.indexOf(II)I
def Q66 (Z : State) (qi2 : Int32) (qi4 : Int32) (qi5 : Int32) (h0 : Heap) (n0 : Nat) (v : Option Value) (h : Heap) (L : List Loc) : Prop := v = some (.int (own_ix ((qi2).toInt8.toInt32) ([((qi4).toInt8.toInt32), ((qi5).toInt8.toInt32)] : List Int32) (0 : Int32))) ∧ Fr n0 L ∧ h = h0
theorem rm66 (l : Launch) (Z : State) (a0 : Array Value) (hw : HW a0 Z) (G1 : Int32) (qa1 : Addr) (qi2 : Int32) (qa3 : Addr) (qi4 : Int32) (qi5 : Int32) (qk6 : ClassId) (h0 : Heap) (n0 : Nat) (X00 : Old Z n0 h0) (O2 : Sta Z Z.heap "java/lang/String" "COMPACT_STRINGS" "Z" (.int G1)) (P5 : ¬ (G1 = (0 : Int32))) (E_qa1 : Exa Z h0 qa1 "java/lang/String") (F_qa1_coder : Fld Z h0 qa1 "java/lang/String" "coder" "B" (.int 0)) (F_qa1_value : Fld Z h0 qa1 "java/lang/String" "value" "[B" (.ref qa3)) (hp_qa1 : ∀ c ∈ ([qi4, qi5] : List Int32), ¬ c < 0 ∧ ¬ (255 : Int32) < c) (A_qa3 : Arv Z h0 qa3 qk6 .byte (2 : Int32) ((([qi4, qi5] : List Int32).map (fun c => c.toInt8.toInt32)).map Value.int) (.int 0)) (hc6 : ¬ (qi2 < (0 : Int32))) (hc7 : ¬ ((255 : Int32) < qi2)) :
    MF l Z Y8_ jdk_42_method_80_code 3 (some .int) (Rm 2 0 0 32) #[.ref qa1, .int qi2, .int 0] h0 (Q66 Z qi2 qi4 qi5 h0 n0) := by
 refine own_sF pn1 rfl (fun m => ef6 m qa1 qi2 (0 : Int32)) ?_
 intro p e s m below meth c s₁ Bd hZ hh hx hby hml hown hnm X0 e0 pre0
 have N0 := Fr.nil n0
 obtain ⟨_, T1, L1, X1, hQ1, st1⟩ := own_cV 0 0 [] 1 #[rv qa1, iv qi2, iv 0] X0 hx hZ hown E_qa1 (w42_ hw) (w43_ hw) (notFace_of_selects (args := #[]) (mvT hZ (w45_ hw))) (w45_ hw) (w44_ hw) (w8_ hw) (w46_ hw) (rm4 l Z a0 hw G1 qa1 h0 n0 X00 O2 P5 F_qa1_coder) pd3 hml.symm (hb hby d5_1) e0 rfl rfl rfl rfl (by decide)
 obtain ⟨rfl, N1q, e1q⟩ := hQ1
 have N1 := Fr.app N0 N1q
 obtain ⟨T2, X2, e2, st2⟩ := getF X1 hx hZ hown (host := "") (Or.inl (w26_ hw)) Via.refl e1q F_qa1_value (g := (mkF m 8 #[rv qa1, iv qi2, iv 0] [.ref qa1])) rfl rfl (hb hby d5_8)
 have hcd4 : StrChars.Road.CodA ([qi4, qi5] : List Int32) 0 (2 : Int32) ((([qi4, qi5] : List Int32).map (fun c => c.toInt8.toInt32)).map Value.int) := StrChars.Road.codOf (n := 2) rfl (fun x hx => (hp_qa1 x hx).2)
 have hbd4 : ∀ x ∈ ([qi4, qi5] : List Int32), ¬ x < 0 ∧ ¬ (65535 : Int32) < x := own_up _ hp_qa1
 obtain ⟨cq3, kq3, q3a, q3b, q3c⟩ := isOf hZ e2 E_qa1
 obtain ⟨_, T3, L3, X3, hQ3, st3⟩ := own_cb0 0 0 0 0 0 0 (X2.virtualBack hx (y := Y9_) (z := Y9_) hown (mvT hZ (w48_ hw)) (mvT hZ (w49_ hw)) (notFace_of_selects (args := #[]) (mvT hZ (w51_ hw))) (mvT hZ (w51_ hw)) (mvT hZ (w50_ hw)) (by decide) (StrChars.Road.lenW (W := 3) hZ (own_wl hw) (kI := 4) (w7_ hw) E_qa1 F_qa1_value F_qa1_coder A_qa3 hcd4 hbd4 (O2.ext X00.2) P5 (lE rfl) (lE rfl) (lE rfl)) q3a q3c (g := (mkF m 14 #[rv qa1, iv qi2, iv 0] [.ref qa1, .int 0, .int qi2, .ref qa3])) rfl hml.symm (Steps.refl _) (argsL := []) (rest := [.int 0, .int qi2, .ref qa3]) (lenOf pd4 rfl) rfl (own_hw rfl) (hb hby d5_14) (fun _ _ => ⟨rfl, e2, (lE rfl : 0 + 0 ≤ _), (lE rfl : 0 + 0 ≤ _)⟩)) rfl rfl
 dsimp only [Pt.U, Pt.locs, Pt.cells, Pt.slots] at hQ3
 obtain ⟨rfl, rfl, e3q⟩ := hQ3
 have N3 := Fr.app N1 (Fr.nil n0)
 obtain ⟨_, T5, L5, X5, hQ5, st5⟩ := own_cS 0 0 [] 17 #[rv qa1, iv qi2, iv 0] X3 hx hZ hown (w58_ hw) (w59_ hw) (w60_ hw) (w61_ hw) (rm65 l Z a0 hw  qa3 qi2 qk6 qi4 qi5 h0 n0 X00 hc6 hc7 A_qa3) pd7 hml.symm (hb hby d5_17) e3q rfl rfl rfl rfl (by decide)
 obtain ⟨rfl, N5q, e5q⟩ := hQ5
 have N5 := Fr.app N3 N5q
 refine own_lvF X5 Bd (.int (own_ix ((qi2).toInt8.toInt32) ([((qi4).toInt8.toInt32), ((qi5).toInt8.toInt32)] : List Int32) (0 : Int32))) e5q ⟨rfl, N5, rfl⟩ rfl (fun fs hr => pre0 _ (by
  show Sx p e below s₁ m 0 #[rv qa1, iv qi2, iv 0] [] _
  refine zb X0 Bd d5_0 rfl rfl ?_
  refine st1 _ ?_
  refine zo X1 Bd d5_4 (XT.i0_eq_f ((by decide) : ¬ ((1 : Int32) = (0 : Int32)))) ?_
  refine zb X1 Bd d5_7 rfl rfl ?_
  refine st2 _ ?_
  refine zj X2 Bd d5_11 rfl ?_
  refine zj X2 Bd d5_12 rfl ?_
  refine zb X2 Bd d5_13 rfl rfl ?_
  refine st3.trans ?_
  refine st5 _ ?_
  refine zg (pc' := 36) X5 Bd d5_20 rfl ?_
  exact retI X5 hx Bd.returns (hb hby d5_36) hr))
-- java/lang/String.indexOf(I)I
def Q67 (Z : State) (qi2 : Int32) (qi4 : Int32) (qi5 : Int32) (h0 : Heap) (n0 : Nat) (v : Option Value) (h : Heap) (L : List Loc) : Prop := v = some (.int (own_ix ((qi2).toInt8.toInt32) ([((qi4).toInt8.toInt32), ((qi5).toInt8.toInt32)] : List Int32) (0 : Int32))) ∧ Fr n0 L ∧ h = h0
theorem rm67 (l : Launch) (Z : State) (a0 : Array Value) (hw : HW a0 Z) (G1 : Int32) (qa1 : Addr) (qi2 : Int32) (qa3 : Addr) (qi4 : Int32) (qi5 : Int32) (qk6 : ClassId) (h0 : Heap) (n0 : Nat) (X00 : Old Z n0 h0) (O2 : Sta Z Z.heap "java/lang/String" "COMPACT_STRINGS" "Z" (.int G1)) (P5 : ¬ (G1 = (0 : Int32))) (E_qa1 : Exa Z h0 qa1 "java/lang/String") (F_qa1_coder : Fld Z h0 qa1 "java/lang/String" "coder" "B" (.int 0)) (F_qa1_value : Fld Z h0 qa1 "java/lang/String" "value" "[B" (.ref qa3)) (hp_qa1 : ∀ c ∈ ([qi4, qi5] : List Int32), ¬ c < 0 ∧ ¬ (255 : Int32) < c) (A_qa3 : Arv Z h0 qa3 qk6 .byte (2 : Int32) ((([qi4, qi5] : List Int32).map (fun c => c.toInt8.toInt32)).map Value.int) (.int 0)) (hc2 : ¬ (qi2 < (0 : Int32))) (hc3 : ¬ ((255 : Int32) < qi2)) :
    MF l Z Y10_ jdk_42_method_79_code 2 (some .int) (Rm 3 0 0 46) #[.ref qa1, .int qi2] h0 (Q67 Z qi2 qi4 qi5 h0 n0) := by
 refine own_sF pn1 rfl (fun m => ef5 m qa1 qi2) ?_
 intro p e s m below meth c s₁ Bd hZ hh hx hby hml hown hnm X0 e0 pre0
 have N0 := Fr.nil n0
 obtain ⟨_, T1, L1, X1, hQ1, st1⟩ := own_cV 0 0 [] 3 #[rv qa1, iv qi2] X0 hx hZ hown E_qa1 (w37_ hw) (w38_ hw) (notFace_of_selects (args := #[]) (mvT hZ (w40_ hw))) (w40_ hw) (w39_ hw) (w8_ hw) (w41_ hw) (rm66 l Z a0 hw G1 qa1 qi2 qa3 qi4 qi5 qk6 h0 n0 X00 O2 P5 E_qa1 F_qa1_coder F_qa1_value hp_qa1 A_qa3 hc2 hc3) pd6 hml.symm (hb hby d4_3) e0 rfl rfl rfl rfl (by decide)
 obtain ⟨rfl, N1q, e1q⟩ := hQ1
 have N1 := Fr.app N0 N1q
 refine own_lvF X1 Bd (.int (own_ix ((qi2).toInt8.toInt32) ([((qi4).toInt8.toInt32), ((qi5).toInt8.toInt32)] : List Int32) (0 : Int32))) e1q ⟨rfl, N1, rfl⟩ rfl (fun fs hr => pre0 _ (by
  show Sx p e below s₁ m 0 #[rv qa1, iv qi2] [] _
  refine zb X0 Bd d4_0 rfl rfl ?_
  refine zj X0 Bd d4_1 rfl ?_
  refine zc X0 Bd d4_2 ?_
  refine st1 _ ?_
  exact retI X1 hx Bd.returns (hb hby d4_6) hr))
-- com/example/echoes_to_canon/echoestocanon/HttpUrl.separator(Ljava/lang/String;)C
def Q68 (Z : State) (qi3 : Int32) (qi4 : Int32) (h0 : Heap) (n0 : Nat) (v : Option Value) (h : Heap) (L : List Loc) : Prop := v = some (.int (own_sep ([((qi3).toInt8.toInt32), ((qi4).toInt8.toInt32)] : List Int32))) ∧ Fr n0 L ∧ h = h0
theorem rm68 (l : Launch) (Z : State) (a0 : Array Value) (hw : HW a0 Z) (G1 : Int32) (qa1 : Addr) (qa2 : Addr) (qi3 : Int32) (qi4 : Int32) (qk5 : ClassId) (h0 : Heap) (n0 : Nat) (X00 : Old Z n0 h0) (O2 : Sta Z Z.heap "java/lang/String" "COMPACT_STRINGS" "Z" (.int G1)) (P5 : ¬ (G1 = (0 : Int32))) (E_qa1 : Exa Z h0 qa1 "java/lang/String") (F_qa1_coder : Fld Z h0 qa1 "java/lang/String" "coder" "B" (.int 0)) (F_qa1_value : Fld Z h0 qa1 "java/lang/String" "value" "[B" (.ref qa2)) (hp_qa1 : ∀ c ∈ ([qi3, qi4] : List Int32), ¬ c < 0 ∧ ¬ (255 : Int32) < c) (A_qa2 : Arv Z h0 qa2 qk5 .byte (2 : Int32) ((([qi3, qi4] : List Int32).map (fun c => c.toInt8.toInt32)).map Value.int) (.int 0)) :
    MF l Z Y11_ prog_2_method_30_code 1 (some .char) (Rm 4 0 0 59) #[.ref qa1] h0 (Q68 Z qi3 qi4 h0 n0) := by
 refine own_sF pn2 rfl (fun m => ef4 m qa1) ?_
 intro p e s m below meth c s₁ Bd hZ hh hx hby hml hown hnm X0 e0 pre0
 have N0 := Fr.nil n0
 obtain ⟨_, T1, L1, X1, hQ1, st1⟩ := own_cV 0 0 [] 3 #[rv qa1] X0 hx hZ hown E_qa1 (w32_ hw) (w33_ hw) (notFace_of_selects (args := #[]) (mvT hZ (w35_ hw))) (w35_ hw) (w34_ hw) (w8_ hw) (w36_ hw) (rm67 l Z a0 hw G1 qa1 (59 : Int32) qa2 qi3 qi4 qk5 h0 n0 X00 O2 P5 E_qa1 F_qa1_coder F_qa1_value hp_qa1 A_qa2 (by decide) (by decide)) pd8 hml.symm (hb hby d3_3) e0 rfl rfl rfl rfl (by decide)
 obtain ⟨rfl, N1q, e1q⟩ := hQ1
 have N1 := Fr.app N0 N1q
 have pr2 : Pr p e below T1 m 6 #[rv qa1] [(.int (own_ix (((59 : Int32)).toInt8.toInt32) ([((qi3).toInt8.toInt32), ((qi4).toInt8.toInt32)] : List Int32) (0 : Int32)))] s₁ (entryFrame m #[.ref qa1] 1) := fun t k => pre0 t (by
  show Sx p e below s₁ m 0 #[rv qa1] [] _
  refine zb X0 Bd d3_0 rfl rfl ?_
  refine zd X0 Bd d3_1 ?_
  refine st1 _ ?_
  exact k)
 by_cases hc3 : (own_ix (((59 : Int32)).toInt8.toInt32) ([((qi3).toInt8.toInt32), ((qi4).toInt8.toInt32)] : List Int32) (0 : Int32)) < (0 : Int32)
 ·
  skip
  refine own_lvF X1 Bd (.int 38) e1q ⟨(by rw [own_sep, if_pos (show own_ix (59 : Int32) ([((qi3).toInt8.toInt32), ((qi4).toInt8.toInt32)] : List Int32) (0 : Int32) < (0 : Int32) from hc3)] <;> rfl), N1, rfl⟩ rfl (fun fs hr => pr2 _ (by
   show Sx p e below T1 m 6 #[rv qa1] [(.int (own_ix (((59 : Int32)).toInt8.toInt32) ([((qi3).toInt8.toInt32), ((qi4).toInt8.toInt32)] : List Int32) (0 : Int32)))] _
   refine zp (pc' := 23) X1 Bd d3_6 (XT.i0_lt_t (hc3 : (own_ix (((59 : Int32)).toInt8.toInt32) ([((qi3).toInt8.toInt32), ((qi4).toInt8.toInt32)] : List Int32) (0 : Int32)) < (0 : Int32))) rfl ?_
   refine zd X1 Bd d3_23 ?_
   exact retN X1 hx (t := .char) Bd.returns (by simp) (hb hby d3_25) hr))
 ·
  skip
  obtain ⟨_, T4, L4, X4, hQ4, st4⟩ := own_cV 0 0 [] 12 #[rv qa1] X1 hx hZ hown E_qa1 (w32_ hw) (w33_ hw) (notFace_of_selects (args := #[]) (mvT hZ (w35_ hw))) (w35_ hw) (w34_ hw) (w8_ hw) (w36_ hw) (rm67 l Z a0 hw G1 qa1 (38 : Int32) qa2 qi3 qi4 qk5 h0 n0 X00 O2 P5 E_qa1 F_qa1_coder F_qa1_value hp_qa1 A_qa2 (by decide) (by decide)) pd8 hml.symm (hb hby d3_12) e1q rfl rfl rfl rfl (by decide)
  obtain ⟨rfl, N4q, e4q⟩ := hQ4
  have N4 := Fr.app N1 N4q
  have pr5 : Pr p e below T4 m 15 #[rv qa1] [(.int (own_ix (((38 : Int32)).toInt8.toInt32) ([((qi3).toInt8.toInt32), ((qi4).toInt8.toInt32)] : List Int32) (0 : Int32)))] s₁ (entryFrame m #[.ref qa1] 1) := fun t k => pr2 t (by
   show Sx p e below T1 m 6 #[rv qa1] [(.int (own_ix (((59 : Int32)).toInt8.toInt32) ([((qi3).toInt8.toInt32), ((qi4).toInt8.toInt32)] : List Int32) (0 : Int32)))] _
   refine zo X1 Bd d3_6 (XT.i0_lt_f (hc3 : ¬ ((own_ix (((59 : Int32)).toInt8.toInt32) ([((qi3).toInt8.toInt32), ((qi4).toInt8.toInt32)] : List Int32) (0 : Int32)) < (0 : Int32)))) ?_
   refine zb X1 Bd d3_9 rfl rfl ?_
   refine zd X1 Bd d3_10 ?_
   refine st4 _ ?_
   exact k)
  by_cases hc6 : (own_ix (((38 : Int32)).toInt8.toInt32) ([((qi3).toInt8.toInt32), ((qi4).toInt8.toInt32)] : List Int32) (0 : Int32)) < (0 : Int32)
  ·
   skip
   refine own_lvF X4 Bd (.int 59) e4q ⟨(by rw [own_sep, if_neg (show ¬ own_ix (59 : Int32) ([((qi3).toInt8.toInt32), ((qi4).toInt8.toInt32)] : List Int32) (0 : Int32) < (0 : Int32) from hc3), if_pos (show own_ix (38 : Int32) ([((qi3).toInt8.toInt32), ((qi4).toInt8.toInt32)] : List Int32) (0 : Int32) < (0 : Int32) from hc6)] <;> rfl), N4, rfl⟩ rfl (fun fs hr => pr5 _ (by
    show Sx p e below T4 m 15 #[rv qa1] [(.int (own_ix (((38 : Int32)).toInt8.toInt32) ([((qi3).toInt8.toInt32), ((qi4).toInt8.toInt32)] : List Int32) (0 : Int32)))] _
    refine zo X4 Bd d3_15 (XT.i0_ge_f (hc6 : (own_ix (((38 : Int32)).toInt8.toInt32) ([((qi3).toInt8.toInt32), ((qi4).toInt8.toInt32)] : List Int32) (0 : Int32)) < (0 : Int32))) ?_
    refine zd X4 Bd d3_18 ?_
    refine zg (pc' := 25) X4 Bd d3_20 rfl ?_
    exact retN X4 hx (t := .char) Bd.returns (by simp) (hb hby d3_25) hr))
  ·
   skip
   refine own_lvF X4 Bd (.int 38) e4q ⟨(by rw [own_sep, if_neg (show ¬ own_ix (59 : Int32) ([((qi3).toInt8.toInt32), ((qi4).toInt8.toInt32)] : List Int32) (0 : Int32) < (0 : Int32) from hc3), if_neg (show ¬ own_ix (38 : Int32) ([((qi3).toInt8.toInt32), ((qi4).toInt8.toInt32)] : List Int32) (0 : Int32) < (0 : Int32) from hc6)] <;> rfl), N4, rfl⟩ rfl (fun fs hr => pr5 _ (by
    show Sx p e below T4 m 15 #[rv qa1] [(.int (own_ix (((38 : Int32)).toInt8.toInt32) ([((qi3).toInt8.toInt32), ((qi4).toInt8.toInt32)] : List Int32) (0 : Int32)))] _
    refine zp (pc' := 23) X4 Bd d3_15 (XT.i0_ge_t (hc6 : ¬ ((own_ix (((38 : Int32)).toInt8.toInt32) ([((qi3).toInt8.toInt32), ((qi4).toInt8.toInt32)] : List Int32) (0 : Int32)) < (0 : Int32)))) rfl ?_
    refine zd X4 Bd d3_23 ?_
    exact retN X4 hx (t := .char) Bd.returns (by simp) (hb hby d3_25) hr))
-- java/lang/StringUTF16.compress([CI[BII)I
def Q69 (Z : State)  (h0 : Heap) (n0 : Nat) (v : Option Value) (h : Heap) (L : List Loc) : Prop := v = some (.int 0) ∧ Fr n0 L ∧ h = h0
theorem rm69 (l : Launch) (Z : State) (a0 : Array Value) (hw : HW a0 Z) (qa1 : Addr) (qa2 : Addr) (qk3 : ClassId) (qi4 : Int32) (qi5 : Int32) (qi6 : Int32) (h0 : Heap) (n0 : Nat) (X00 : Old Z n0 h0) (A_qa1 : Arv Z h0 qa1 qk3 .char (3 : Int32) [.int qi4, .int qi5, .int qi6] (.int 0)) (hc3 : (255 : Int32) < qi4) :
    MF l Z Y12_ jdk_52_method_21_code 7 (some .int) (Rm 0 0 0 0) #[.ref qa1, .int 0, .ref qa2, .int 0, .int 3] h0 (Q69 Z  h0 n0) := by
 refine own_sF pn4 rfl (fun m => ef11 m qa1 (0 : Int32) qa2 (0 : Int32) (3 : Int32)) ?_
 intro p e s m below meth c s₁ Bd hZ hh hx hby hml hown hnm X0 e0 pre0
 have N0 := Fr.nil n0
 have av1 := A_qa1
 obtain ⟨cl1, Ar1, q1, S1, N1, H1, Gf1⟩ := av1
 have hin2 : ¬ ((0 : Int32) < 0 ∨ cl1.slots.size ≤ ((0 : Int32) : Int32).toNatClampNeg) := inb_of S1 (by decide)
 have hat2 : cl1.slots[((0 : Int32) : Int32).toNatClampNeg]? = some (.int qi4) := Has.at H1 hin2 rfl
 refine own_lvF X0 Bd (.int 0) e0 ⟨rfl, N0, rfl⟩ rfl (fun fs hr => pre0 _ (by
  show Sx p e below s₁ m 0 #[rv qa1, iv 0, rv qa2, iv 0, iv 3, .unset, .unset] [] _
  refine zc X0 Bd d12_0 ?_
  refine zs X0 Bd d12_1 (l' := #[rv qa1, iv 0, rv qa2, iv 0, iv 3, iv 0, .unset]) rfl ?_
  refine zi X0 Bd d12_3 rfl ?_
  refine zi X0 Bd d12_5 rfl ?_
  refine zn X0 Bd d12_7 (XT.ii_ge_f ((by decide) : (0 : Int32) < (3 : Int32))) ?_
  refine zb X0 Bd d12_10 rfl rfl ?_
  refine zj X0 Bd d12_11 rfl ?_
  refine X0.caload hx (j := (0 : Int32)) (v := (.int qi4)) (by rw [e0]; exact Ar1.1) (State.isArrayOf_alike hZ.alike Ar1.2.1) Ar1.2.2 hin2 hat2 (g := (mkF m 12 #[rv qa1, iv 0, rv qa2, iv 0, iv 3, iv 0, .unset] [.int 0, .ref qa1])) rfl rfl (hb hby d12_12) _ ?_
  refine zs X0 Bd d12_13 (l' := #[rv qa1, iv 0, rv qa2, iv 0, iv 3, iv 0, iv qi4]) rfl ?_
  refine zi X0 Bd d12_15 rfl ?_
  refine XS.sipush X0.here hx rfl (hb hby d12_17) ?_
  refine zn X0 Bd d12_20 (XT.ii_le_f (hc3 : (255 : Int32) < qi4)) ?_
  refine zi X0 Bd d12_23 rfl ?_
  exact retI X0 hx Bd.returns (hb hby d12_25) hr))
-- java/lang/StringUTF16.newBytesLength(I)I
def Q70 (Z : State)  (h0 : Heap) (n0 : Nat) (v : Option Value) (h : Heap) (L : List Loc) : Prop := v = some (.int 6) ∧ Fr n0 L ∧ h = h0
theorem rm70 (l : Launch) (Z : State) (a0 : Array Value) (hw : HW a0 Z)  (h0 : Heap) (n0 : Nat) (X00 : Old Z n0 h0)  :
    MF l Z Y13_ jdk_52_method_3_code 1 (some .int) (Rm 0 0 0 0) #[.int 3] h0 (Q70 Z  h0 n0) := by
 refine own_sF pn4 rfl (fun m => ef8 m (3 : Int32)) ?_
 intro p e s m below meth c s₁ Bd hZ hh hx hby hml hown hnm X0 e0 pre0
 have N0 := Fr.nil n0
 refine own_lvF X0 Bd (.int 6) e0 ⟨rfl, N0, rfl⟩ rfl (fun fs hr => pre0 _ (by
  show Sx p e below s₁ m 0 #[iv 3] [] _
  refine zj X0 Bd d15_0 rfl ?_
  refine zp (pc' := 12) X0 Bd d15_1 (XT.i0_ge_t ((by decide) : ¬ ((3 : Int32) < (0 : Int32)))) rfl ?_
  refine zj X0 Bd d15_12 rfl ?_
  refine X0.ldcInt hx hown (mvT hZ (w94_ hw)) (g := (mkF m 13 #[iv 3] [.int 3])) rfl (hb hby d15_13) _ ?_
  refine zy (pc' := 55) X0 Bd d15_15 (XT.ii_lt_t ((by decide) : (3 : Int32) < (1073741823 : Int32))) rfl ?_
  refine zj X0 Bd d15_55 rfl ?_
  refine zc X0 Bd d15_56 ?_
  refine XS.ishl X0.here hx rfl (hb hby d15_57) rfl ?_
  exact retI X0 hx Bd.returns (hb hby d15_58) hr))
-- java/lang/StringUTF16.newBytesFor(I)[B
def Q71 (Z : State)  (h0 : Heap) (n0 : Nat) (v : Option Value) (h : Heap) (L : List Loc) : Prop := ∃ b2 : Addr, ∃ c2 : ClassId, v = some (.ref b2) ∧ Fr n0 L ∧ Keep h0 h [] ∧ h0.size ≤ b2 ∧ Arv Z h b2 c2 .byte (6 : Int32) [.int 0, .int 0, .int 0, .int 0, .int 0, .int 0] (.int 0)
theorem rm71 (l : Launch) (Z : State) (a0 : Array Value) (hw : HW a0 Z)  (h0 : Heap) (n0 : Nat) (X00 : Old Z n0 h0)  :
    MF l Z Y14_ jdk_52_method_2_code 1 (some (.array .byte)) (Rm 1 1 6 12) #[.int 3] h0 (Q71 Z  h0 n0) := by
 refine own_sF pn4 rfl (fun m => ef8 m (3 : Int32)) ?_
 intro p e s m below meth c s₁ Bd hZ hh hx hby hml hown hnm X0 e0 pre0
 have N0 := Fr.nil n0
 obtain ⟨_, T1, L1, X1, hQ1, st1⟩ := own_cS 0 0 [] 1 #[iv 3] X0 hx hZ hown (w91_ hw) (w92_ hw) (w74_ hw) (w93_ hw) (rm70 l Z a0 hw   h0 n0 X00 ) pd8 hml.symm (hb hby d14_1) e0 rfl rfl rfl rfl (by decide)
 obtain ⟨rfl, N1q, e1q⟩ := hQ1
 have N1 := Fr.app N0 N1q
 obtain ⟨T2, h2, c2, X2, e2, E2, A2, st2⟩ := newP (aty := .byte) X1 hx hZ (w21_ hw) e1q (g := (mkF m 4 #[iv 3] [.int 6])) rfl (hb hby d14_4) rfl (by decide) (cap := 6) (by decide) (lE rfl) (lE rfl) (lE rfl)
 obtain ⟨b2, g2⟩ : ∃ z, z = h0.size := ⟨_, rfl⟩
 rw [← g2] at A2 st2
 replace X2 : Stand p l e (Rm 1 1 6 12) s m #[.int 3] below meth c T2 _ 1 6 := X2
 have K3 := (Keep.refl h0 []).ext E2
 have A4_ : Arv Z h2 b2 c2 .byte (6 : Int32) [.int 0, .int 0, .int 0, .int 0, .int 0, .int 0] (.int 0) := (Arv.new A2 (by decide)).pad (pad_rep [] (.int 0) 6)
 have sz_b2 : h0.size ≤ b2 := (Nat.le_of_eq g2.symm)
 refine own_lvF X2 Bd (.ref b2) e2 ⟨b2, c2, rfl, N1, K3, sz_b2, A4_⟩ rfl (fun fs hr => pre0 _ (by
  show Sx p e below s₁ m 0 #[iv 3] [] _
  refine zj X0 Bd d14_0 rfl ?_
  refine st1 _ ?_
  refine st2 _ ?_
  exact retOut X2 hx Bd.returns rfl (Or.inr (Or.inr (Or.inr (Or.inr ⟨rfl, rfl, rfl⟩)))) (hb hby d14_6) hr))
-- java/lang/StringUTF16.putChar([BII)V
def Q72 (Z : State) (qa1 : Addr) (qi2 : Int32) (qi3 : Int32) (qk4 : ClassId) (qi5 : Int32) (qi6 : Int32) (qi7 : Int32) (qi8 : Int32) (qi9 : Int32) (qi10 : Int32) (h0 : Heap) (n0 : Nat) (v : Option Value) (h : Heap) (L : List Loc) : Prop := v = none ∧ Fr n0 L ∧ Keep h0 h [qa1] ∧ Arv Z h qa1 qk4 .byte (6 : Int32) (((([qi5, qi6, qi7, qi8, qi9, qi10] : List Int32).set (((qi2 <<< ((1 : Int32) &&& 31)))).toNatClampNeg ((((qi3 >>> ((0 : Int32) &&& 31)))).toInt8.toInt32)).set ((((qi2 <<< ((1 : Int32) &&& 31))) + (1 : Int32))).toNatClampNeg ((((qi3 >>> ((8 : Int32) &&& 31)))).toInt8.toInt32)).map Value.int) (.int 0)
theorem rm72 (l : Launch) (Z : State) (a0 : Array Value) (hw : HW a0 Z) (qa1 : Addr) (qi2 : Int32) (qi3 : Int32) (qk4 : ClassId) (qi5 : Int32) (qi6 : Int32) (qi7 : Int32) (qi8 : Int32) (qi9 : Int32) (qi10 : Int32) (h0 : Heap) (n0 : Nat) (X00 : Old Z n0 h0) (uS12 : Sta Z Z.heap "java/lang/StringUTF16" "$assertionsDisabled" "Z" (.int 1)) (uS15 : Sta Z Z.heap "java/lang/StringUTF16" "HI_BYTE_SHIFT" "I" (.int 0)) (uS18 : Sta Z Z.heap "java/lang/StringUTF16" "LO_BYTE_SHIFT" "I" (.int 8)) (A_qa1 : Arv Z h0 qa1 qk4 .byte (6 : Int32) [.int qi5, .int qi6, .int qi7, .int qi8, .int qi9, .int qi10] (.int 0)) (hc4 : ¬ (qi2 < (0 : Int32))) (hc5 : qi2 < (3 : Int32)) (g_qa1 : n0 ≤ qa1) :
    MF l Z Y15_ jdk_52_method_4_code 3 none (Rm 0 0 0 0) #[.ref qa1, .int qi2, .int qi3] h0 (Q72 Z qa1 qi2 qi3 qk4 qi5 qi6 qi7 qi8 qi9 qi10 h0 n0) := by
 refine own_sF pn4 rfl (fun m => ef6 m qa1 qi2 qi3) ?_
 intro p e s m below meth c s₁ Bd hZ hh hx hby hml hown hnm X0 e0 pre0
 have N0 := Fr.nil n0
 obtain ⟨T1, X1, e1, st1⟩ := getS2 X0 hx hZ hown (host := "") (Or.inl (w98_ hw)) Via.refl e0 (uS12.ext X00.2) (g := (mkF m 0 #[rv qa1, iv qi2, iv qi3] [])) rfl (hb hby d16_0)
 obtain ⟨T2, X2, e2, st2⟩ := getS2 X1 hx hZ hown (host := "") (Or.inl (w99_ hw)) Via.refl e1 (uS15.ext X00.2) (g := (mkF m 38 #[rv qa1, iv (((qi2 <<< ((1 : Int32) &&& 31))) + (1 : Int32)), iv qi3] [.int qi3, (.int ((qi2 <<< ((1 : Int32) &&& 31)))), .ref qa1])) rfl (hb hby d16_38)
 have A3_ : Arv Z h0 qa1 qk4 .byte (6 : Int32) (([qi5, qi6, qi7, qi8, qi9, qi10] : List Int32).map Value.int) (.int 0) := A_qa1
 have av6 := A3_
 obtain ⟨cl6, Ar6, q6, S6, N6, H6, Gf6⟩ := av6
 have hin7 : ¬ (((qi2 <<< ((1 : Int32) &&& 31))) < 0 ∨ cl6.slots.size ≤ (((qi2 <<< ((1 : Int32) &&& 31))) : Int32).toNatClampNeg) := inb_of S6 (own_shla3 hc4 hc5)
 obtain ⟨T7, h7, X7, e7, W7, st7⟩ := stB X2 hx hZ e2 Ar6 (j := ((qi2 <<< ((1 : Int32) &&& 31)))) hin7 (g := (mkF m 43 #[rv qa1, iv (((qi2 <<< ((1 : Int32) &&& 31))) + (1 : Int32)), iv qi3] [(.int ((((qi3 >>> ((0 : Int32) &&& 31)))).toInt8.toInt32)), (.int ((qi2 <<< ((1 : Int32) &&& 31)))), .ref qa1])) rfl rfl (hb hby d16_43)
 have N7_ := Fr.snoc X7 N0 g_qa1
 have K8 := (Keep.refl h0 [qa1]).wr W7 (Or.inl (mI 0 rfl))
 have A9_ : Arv Z h7 qa1 qk4 .byte (6 : Int32) ((([qi5, qi6, qi7, qi8, qi9, qi10] : List Int32).set (((qi2 <<< ((1 : Int32) &&& 31)))).toNatClampNeg ((((qi3 >>> ((0 : Int32) &&& 31)))).toInt8.toInt32)).map Value.int) (.int 0) := by rw [List.map_set]; have q := Arv.set (v := .int (nar .byte ((((qi3 >>> ((0 : Int32) &&& 31)))).toInt8.toInt32))) Ar6 q6 S6 N6 H6 Gf6 (fits_nar_byte _) W7 _ rfl (by rw [List.length_map]; exact own_ltn (k := 6) (by decide) (own_shla3 hc4 hc5)); rw [((own_nar_i2b _) : nar .byte ((((qi3 >>> ((0 : Int32) &&& 31)))).toInt8.toInt32) = ((((qi3 >>> ((0 : Int32) &&& 31)))).toInt8.toInt32))] at q; exact q
 have O11 := X00.wr W7 g_qa1
 obtain ⟨T10, X10, e10, st10⟩ := getS2 X7 hx hZ hown (host := "") (Or.inl (w100_ hw)) Via.refl e7 (uS18.ext O11.2) (g := (mkF m 47 #[rv qa1, iv (((qi2 <<< ((1 : Int32) &&& 31))) + (1 : Int32)), iv qi3] [.int qi3, (.int (((qi2 <<< ((1 : Int32) &&& 31))) + (1 : Int32))), .ref qa1])) rfl (hb hby d16_47)
 have av12 := A9_
 obtain ⟨cl12, Ar12, q12, S12, N12, H12, Gf12⟩ := av12
 have hin13 : ¬ ((((qi2 <<< ((1 : Int32) &&& 31))) + (1 : Int32)) < 0 ∨ cl12.slots.size ≤ ((((qi2 <<< ((1 : Int32) &&& 31))) + (1 : Int32)) : Int32).toNatClampNeg) := inb_of S12 (own_shlb3 hc4 hc5)
 obtain ⟨T13, h13, X13, e13, W13, st13⟩ := stB X10 hx hZ e10 Ar12 (j := (((qi2 <<< ((1 : Int32) &&& 31))) + (1 : Int32))) hin13 (g := (mkF m 52 #[rv qa1, iv (((qi2 <<< ((1 : Int32) &&& 31))) + (1 : Int32)), iv qi3] [(.int ((((qi3 >>> ((8 : Int32) &&& 31)))).toInt8.toInt32)), (.int (((qi2 <<< ((1 : Int32) &&& 31))) + (1 : Int32))), .ref qa1])) rfl rfl (hb hby d16_52)
 have N13_ := Fr.snoc X13 N7_ g_qa1
 have K14 := K8.wr W13 (Or.inl (mI 0 rfl))
 have A15_ : Arv Z h13 qa1 qk4 .byte (6 : Int32) (((([qi5, qi6, qi7, qi8, qi9, qi10] : List Int32).set (((qi2 <<< ((1 : Int32) &&& 31)))).toNatClampNeg ((((qi3 >>> ((0 : Int32) &&& 31)))).toInt8.toInt32)).set ((((qi2 <<< ((1 : Int32) &&& 31))) + (1 : Int32))).toNatClampNeg ((((qi3 >>> ((8 : Int32) &&& 31)))).toInt8.toInt32)).map Value.int) (.int 0) := by rw [List.map_set]; have q := Arv.set (v := .int (nar .byte ((((qi3 >>> ((8 : Int32) &&& 31)))).toInt8.toInt32))) Ar12 q12 S12 N12 H12 Gf12 (fits_nar_byte _) W13 _ rfl (by rw [List.length_map, List.length_set]; exact own_ltn (k := 6) (by decide) (own_shlb3 hc4 hc5)); rw [((own_nar_i2b _) : nar .byte ((((qi3 >>> ((8 : Int32) &&& 31)))).toInt8.toInt32) = ((((qi3 >>> ((8 : Int32) &&& 31)))).toInt8.toInt32))] at q; exact q
 refine own_lvN X13 Bd e13 ⟨rfl, N13_, K14, A15_⟩ rfl (fun fs hr => pre0 _ (by
  show Sx p e below s₁ m 0 #[rv qa1, iv qi2, iv qi3] [] _
  refine st1 _ ?_
  refine zp (pc' := 28) X1 Bd d16_3 (XT.i0_ne_t ((by decide) : ¬ ((1 : Int32) = (0 : Int32)))) rfl ?_
  refine zj X1 Bd d16_28 rfl ?_
  refine zc X1 Bd d16_29 ?_
  refine XS.ishl X1.here hx rfl (hb hby d16_30) rfl ?_
  refine zt X1 Bd d16_31 (l' := #[rv qa1, iv ((qi2 <<< ((1 : Int32) &&& 31))), iv qi3]) rfl ?_
  refine zb X1 Bd d16_32 rfl rfl ?_
  refine zj X1 Bd d16_33 rfl ?_
  refine XS.iinc X1.here hx rfl (hb hby d16_34) rfl (l' := #[rv qa1, iv (((qi2 <<< ((1 : Int32) &&& 31))) + (1 : Int32)), iv qi3]) rfl ?_
  refine zj X1 Bd d16_37 rfl ?_
  refine st2 _ ?_
  refine XS.ishr X2.here hx rfl (hb hby d16_41) rfl ?_
  refine XS.i2b X2.here hx rfl (hb hby d16_42) rfl ?_
  refine st7 _ ?_
  refine zb X7 Bd d16_44 rfl rfl ?_
  refine zj X7 Bd d16_45 rfl ?_
  refine zj X7 Bd d16_46 rfl ?_
  refine st10 _ ?_
  refine XS.ishr X10.here hx rfl (hb hby d16_50) rfl ?_
  refine XS.i2b X10.here hx rfl (hb hby d16_51) rfl ?_
  refine st13 _ ?_
  exact X13.returnOut hx Bd.returns (hb hby d16_53) hr))
-- java/lang/StringUTF16.toBytes([CII)[B
def Q73 (Z : State) (qi3 : Int32) (qi4 : Int32) (qi5 : Int32) (h0 : Heap) (n0 : Nat) (v : Option Value) (h : Heap) (L : List Loc) : Prop := ∃ b2 : Addr, ∃ c3_ : ClassId, v = some (.ref b2) ∧ Fr n0 L ∧ Keep h0 h [] ∧ h0.size ≤ b2 ∧ Arv Z h b2 c3_ .byte (6 : Int32) [(.int ((((qi3 >>> ((0 : Int32) &&& 31)))).toInt8.toInt32)), (.int ((((qi3 >>> ((8 : Int32) &&& 31)))).toInt8.toInt32)), (.int ((((qi4 >>> ((0 : Int32) &&& 31)))).toInt8.toInt32)), (.int ((((qi4 >>> ((8 : Int32) &&& 31)))).toInt8.toInt32)), (.int ((((qi5 >>> ((0 : Int32) &&& 31)))).toInt8.toInt32)), (.int ((((qi5 >>> ((8 : Int32) &&& 31)))).toInt8.toInt32))] (.int 0)
theorem rm73 (l : Launch) (Z : State) (a0 : Array Value) (hw : HW a0 Z) (qa1 : Addr) (qk2 : ClassId) (qi3 : Int32) (qi4 : Int32) (qi5 : Int32) (h0 : Heap) (n0 : Nat) (X00 : Old Z n0 h0) (uS12 : Sta Z Z.heap "java/lang/StringUTF16" "$assertionsDisabled" "Z" (.int 1)) (uS15 : Sta Z Z.heap "java/lang/StringUTF16" "HI_BYTE_SHIFT" "I" (.int 0)) (uS18 : Sta Z Z.heap "java/lang/StringUTF16" "LO_BYTE_SHIFT" "I" (.int 8)) (A_qa1 : Arv Z h0 qa1 qk2 .char (3 : Int32) [.int qi3, .int qi4, .int qi5] (.int 0)) :
    MF l Z Y16_ jdk_52_method_14_code 5 (some (.array .byte)) (Rm 2 1 6 24) #[.ref qa1, .int 0, .int 3] h0 (Q73 Z qi3 qi4 qi5 h0 n0) := by
 refine own_sF pn4 rfl (fun m => ef12 m qa1 (0 : Int32) (3 : Int32)) ?_
 intro p e s m below meth c s₁ Bd hZ hh hx hby hml hown hnm X0 e0 pre0
 have N0 := Fr.nil n0
 obtain ⟨_, T1, L1, X1, hQ1, st1⟩ := own_cS 1 6 [] 1 #[rv qa1, iv 0, iv 3, .unset, .unset] X0 hx hZ hown (w88_ hw) (w89_ hw) (w74_ hw) (w90_ hw) (rm71 l Z a0 hw   h0 n0 X00 ) pd11 hml.symm (hb hby d13_1) e0 rfl rfl rfl rfl (by decide)
 obtain ⟨b2, c3_, rfl, N1q, K1q, w4, w5⟩ := hQ1
 have N1 := Fr.app N0 N1q
 have K6 := (Keep.refl h0 []).trans K1q (fun x q => nomatch q)
 have A8_ := A_qa1.keep K1q nin0
 have av7 := A8_
 obtain ⟨cl7, Ar7, q7, S7, N7, H7, Gf7⟩ := av7
 have hin9 : ¬ ((0 : Int32) < 0 ∨ cl7.slots.size ≤ ((0 : Int32) : Int32).toNatClampNeg) := inb_of S7 (by decide)
 have hat9 : cl7.slots[((0 : Int32) : Int32).toNatClampNeg]? = some (.int qi3) := Has.at H7 hin9 rfl
 have g_b2 : n0 ≤ b2 := Nat.le_trans (Nat.le_trans (Nat.le_of_eq X00.1.symm) X00.2.1) w4
 have O11 := X00.keep K1q all0
 obtain ⟨_, T10, L10, X10, hQ10, st10⟩ := own_cS 1 6 [] 20 #[rv qa1, iv 0, iv 3, rv b2, iv 0] X1 hx hZ hown (w95_ hw) (w96_ hw) (w74_ hw) (w97_ hw) (rm72 l Z a0 hw  b2 (0 : Int32) qi3 c3_ (0 : Int32) (0 : Int32) (0 : Int32) (0 : Int32) (0 : Int32) (0 : Int32) T1.heap n0 O11 uS12 uS15 uS18 w5 (by decide) (by decide) g_b2) pd12 hml.symm (hb hby d13_20) rfl rfl rfl rfl rfl (by decide)
 obtain ⟨rfl, N10q, K10q, w12⟩ := hQ10
 have N10 := Fr.app N1 N10q
 have sz_b2 : h0.size ≤ b2 := w4
 have K13 := K6.trans K10q (allS (Or.inr sz_b2) all0)
 have A14_ : Arv Z T10.heap b2 c3_ .byte (6 : Int32) [(.int ((((qi3 >>> ((0 : Int32) &&& 31)))).toInt8.toInt32)), (.int ((((qi3 >>> ((8 : Int32) &&& 31)))).toInt8.toInt32)), .int 0, .int 0, .int 0, .int 0] (.int 0) := w12
 have A16_ := A8_.keep K10q (ninS (Nat.ne_of_lt (Nat.lt_of_lt_of_le A_qa1.lt w4)) nin0)
 have av15 := A16_
 obtain ⟨cl15, Ar15, q15, S15, N15, H15, Gf15⟩ := av15
 have hin17 : ¬ ((1 : Int32) < 0 ∨ cl15.slots.size ≤ ((1 : Int32) : Int32).toNatClampNeg) := inb_of S15 (by decide)
 have hat17 : cl15.slots[((1 : Int32) : Int32).toNatClampNeg]? = some (.int qi4) := Has.at H15 hin17 rfl
 have O19 := O11.keep K10q (allS g_b2 all0)
 obtain ⟨_, T18, L18, X18, hQ18, st18⟩ := own_cS 1 6 [] 20 #[rv qa1, iv 1, iv 3, rv b2, iv 1] X10 hx hZ hown (w95_ hw) (w96_ hw) (w74_ hw) (w97_ hw) (rm72 l Z a0 hw  b2 (1 : Int32) qi4 c3_ ((((qi3 >>> ((0 : Int32) &&& 31)))).toInt8.toInt32) ((((qi3 >>> ((8 : Int32) &&& 31)))).toInt8.toInt32) (0 : Int32) (0 : Int32) (0 : Int32) (0 : Int32) T10.heap n0 O19 uS12 uS15 uS18 A14_ (by decide) (by decide) g_b2) pd12 hml.symm (hb hby d13_20) rfl rfl rfl rfl rfl (by decide)
 obtain ⟨rfl, N18q, K18q, w20⟩ := hQ18
 have N18 := Fr.app N10 N18q
 have K21 := K13.trans K18q (allS (Or.inr sz_b2) all0)
 have A22_ : Arv Z T18.heap b2 c3_ .byte (6 : Int32) [(.int ((((qi3 >>> ((0 : Int32) &&& 31)))).toInt8.toInt32)), (.int ((((qi3 >>> ((8 : Int32) &&& 31)))).toInt8.toInt32)), (.int ((((qi4 >>> ((0 : Int32) &&& 31)))).toInt8.toInt32)), (.int ((((qi4 >>> ((8 : Int32) &&& 31)))).toInt8.toInt32)), .int 0, .int 0] (.int 0) := w20
 have A24_ := A16_.keep K18q (ninS (Nat.ne_of_lt (Nat.lt_of_lt_of_le A_qa1.lt w4)) nin0)
 have av23 := A24_
 obtain ⟨cl23, Ar23, q23, S23, N23, H23, Gf23⟩ := av23
 have hin25 : ¬ ((2 : Int32) < 0 ∨ cl23.slots.size ≤ ((2 : Int32) : Int32).toNatClampNeg) := inb_of S23 (by decide)
 have hat25 : cl23.slots[((2 : Int32) : Int32).toNatClampNeg]? = some (.int qi5) := Has.at H23 hin25 rfl
 have O27 := O19.keep K18q (allS g_b2 all0)
 obtain ⟨_, T26, L26, X26, hQ26, st26⟩ := own_cS 1 6 [] 20 #[rv qa1, iv 2, iv 3, rv b2, iv 2] X18 hx hZ hown (w95_ hw) (w96_ hw) (w74_ hw) (w97_ hw) (rm72 l Z a0 hw  b2 (2 : Int32) qi5 c3_ ((((qi3 >>> ((0 : Int32) &&& 31)))).toInt8.toInt32) ((((qi3 >>> ((8 : Int32) &&& 31)))).toInt8.toInt32) ((((qi4 >>> ((0 : Int32) &&& 31)))).toInt8.toInt32) ((((qi4 >>> ((8 : Int32) &&& 31)))).toInt8.toInt32) (0 : Int32) (0 : Int32) T18.heap n0 O27 uS12 uS15 uS18 A22_ (by decide) (by decide) g_b2) pd12 hml.symm (hb hby d13_20) rfl rfl rfl rfl rfl (by decide)
 obtain ⟨rfl, N26q, K26q, w28⟩ := hQ26
 have N26 := Fr.app N18 N26q
 have K29 := K21.trans K26q (allS (Or.inr sz_b2) all0)
 have A30_ : Arv Z T26.heap b2 c3_ .byte (6 : Int32) [(.int ((((qi3 >>> ((0 : Int32) &&& 31)))).toInt8.toInt32)), (.int ((((qi3 >>> ((8 : Int32) &&& 31)))).toInt8.toInt32)), (.int ((((qi4 >>> ((0 : Int32) &&& 31)))).toInt8.toInt32)), (.int ((((qi4 >>> ((8 : Int32) &&& 31)))).toInt8.toInt32)), (.int ((((qi5 >>> ((0 : Int32) &&& 31)))).toInt8.toInt32)), (.int ((((qi5 >>> ((8 : Int32) &&& 31)))).toInt8.toInt32))] (.int 0) := w28
 refine own_lvF X26 Bd (.ref b2) rfl ⟨b2, c3_, rfl, N26, K29, sz_b2, A30_⟩ rfl (fun fs hr => pre0 _ (by
  show Sx p e below s₁ m 0 #[rv qa1, iv 0, iv 3, .unset, .unset] [] _
  refine zj X0 Bd d13_0 rfl ?_
  refine st1 _ ?_
  refine XS.astoreN X1.here hx rfl (hb hby d13_4) rfl rfl (l' := #[rv qa1, iv 0, iv 3, rv b2, .unset]) rfl ?_
  refine zc X1 Bd d13_5 ?_
  refine zs X1 Bd d13_6 (l' := #[rv qa1, iv 0, iv 3, rv b2, iv 0]) rfl ?_
  refine zi X1 Bd d13_8 rfl ?_
  refine zj X1 Bd d13_10 rfl ?_
  refine zn X1 Bd d13_11 (XT.ii_ge_f ((by decide) : (0 : Int32) < (3 : Int32))) ?_
  refine zb X1 Bd d13_14 rfl rfl ?_
  refine zi X1 Bd d13_15 rfl ?_
  refine zb X1 Bd d13_17 rfl rfl ?_
  refine zj X1 Bd d13_18 rfl ?_
  refine X1.caload hx (j := (0 : Int32)) (v := (.int qi3)) Ar7.1 (State.isArrayOf_alike hZ.alike Ar7.2.1) Ar7.2.2 hin9 hat9 (g := (mkF m 19 #[rv qa1, iv 0, iv 3, rv b2, iv 0] [.int 0, .ref qa1, .int 0, .ref b2])) rfl rfl (hb hby d13_19) _ ?_
  refine st10 _ ?_
  refine XS.iinc X10.here hx rfl (hb hby d13_23) rfl (l' := #[rv qa1, iv 1, iv 3, rv b2, iv 0]) rfl ?_
  refine XS.iinc X10.here hx rfl (hb hby d13_26) rfl (l' := #[rv qa1, iv 1, iv 3, rv b2, iv 1]) rfl ?_
  refine zg (pc' := 8) X10 Bd d13_29 rfl ?_
  refine zi X10 Bd d13_8 rfl ?_
  refine zj X10 Bd d13_10 rfl ?_
  refine zn X10 Bd d13_11 (XT.ii_ge_f ((by decide) : (1 : Int32) < (3 : Int32))) ?_
  refine zb X10 Bd d13_14 rfl rfl ?_
  refine zi X10 Bd d13_15 rfl ?_
  refine zb X10 Bd d13_17 rfl rfl ?_
  refine zj X10 Bd d13_18 rfl ?_
  refine X10.caload hx (j := (1 : Int32)) (v := (.int qi4)) Ar15.1 (State.isArrayOf_alike hZ.alike Ar15.2.1) Ar15.2.2 hin17 hat17 (g := (mkF m 19 #[rv qa1, iv 1, iv 3, rv b2, iv 1] [.int 1, .ref qa1, .int 1, .ref b2])) rfl rfl (hb hby d13_19) _ ?_
  show Sx p e below T10 m 20 #[rv qa1, iv 1, iv 3, rv b2, iv 1] [.int qi4, .int 1, .ref b2] _
  refine st18 _ ?_
  refine XS.iinc X18.here hx rfl (hb hby d13_23) rfl (l' := #[rv qa1, iv 2, iv 3, rv b2, iv 1]) rfl ?_
  refine XS.iinc X18.here hx rfl (hb hby d13_26) rfl (l' := #[rv qa1, iv 2, iv 3, rv b2, iv 2]) rfl ?_
  refine zg (pc' := 8) X18 Bd d13_29 rfl ?_
  refine zi X18 Bd d13_8 rfl ?_
  refine zj X18 Bd d13_10 rfl ?_
  refine zn X18 Bd d13_11 (XT.ii_ge_f ((by decide) : (2 : Int32) < (3 : Int32))) ?_
  refine zb X18 Bd d13_14 rfl rfl ?_
  refine zi X18 Bd d13_15 rfl ?_
  refine zb X18 Bd d13_17 rfl rfl ?_
  refine zj X18 Bd d13_18 rfl ?_
  refine X18.caload hx (j := (2 : Int32)) (v := (.int qi5)) Ar23.1 (State.isArrayOf_alike hZ.alike Ar23.2.1) Ar23.2.2 hin25 hat25 (g := (mkF m 19 #[rv qa1, iv 2, iv 3, rv b2, iv 2] [.int 2, .ref qa1, .int 2, .ref b2])) rfl rfl (hb hby d13_19) _ ?_
  refine st26 _ ?_
  refine XS.iinc X26.here hx rfl (hb hby d13_23) rfl (l' := #[rv qa1, iv 3, iv 3, rv b2, iv 2]) rfl ?_
  refine XS.iinc X26.here hx rfl (hb hby d13_26) rfl (l' := #[rv qa1, iv 3, iv 3, rv b2, iv 3]) rfl ?_
  refine zg (pc' := 8) X26 Bd d13_29 rfl ?_
  refine zi X26 Bd d13_8 rfl ?_
  refine zj X26 Bd d13_10 rfl ?_
  refine zy (pc' := 32) X26 Bd d13_11 (XT.ii_ge_t ((by decide) : ¬ ((3 : Int32) < (3 : Int32)))) rfl ?_
  refine zb X26 Bd d13_32 rfl rfl ?_
  exact retOut X26 hx Bd.returns rfl (Or.inr (Or.inr (Or.inr (Or.inr ⟨rfl, rfl, rfl⟩)))) (hb hby d13_33) hr))
-- java/lang/StringUTF16.getChar([BI)C
def Q74 (Z : State) (qi2 : Int32) (qi4 : Int32) (qi5 : Int32) (qi6 : Int32) (qi7 : Int32) (qi8 : Int32) (qi9 : Int32) (h0 : Heap) (n0 : Nat) (v : Option Value) (h : Heap) (L : List Loc) : Prop := v = some (.int (((((((own_at ([qi4, qi5, qi6, qi7, qi8, qi9] : List Int32) ((qi2 <<< ((1 : Int32) &&& 31)))) &&& (255 : Int32)) <<< ((0 : Int32) &&& 31))) ||| ((((own_at ([qi4, qi5, qi6, qi7, qi8, qi9] : List Int32) (((qi2 <<< ((1 : Int32) &&& 31))) + (1 : Int32))) &&& (255 : Int32)) <<< ((8 : Int32) &&& 31))))).toUInt32.toUInt16.toUInt32.toInt32)) ∧ Fr n0 L ∧ h = h0
theorem rm74 (l : Launch) (Z : State) (a0 : Array Value) (hw : HW a0 Z) (qa1 : Addr) (qi2 : Int32) (qk3 : ClassId) (qi4 : Int32) (qi5 : Int32) (qi6 : Int32) (qi7 : Int32) (qi8 : Int32) (qi9 : Int32) (h0 : Heap) (n0 : Nat) (X00 : Old Z n0 h0) (uS12 : Sta Z Z.heap "java/lang/StringUTF16" "$assertionsDisabled" "Z" (.int 1)) (uS15 : Sta Z Z.heap "java/lang/StringUTF16" "HI_BYTE_SHIFT" "I" (.int 0)) (uS18 : Sta Z Z.heap "java/lang/StringUTF16" "LO_BYTE_SHIFT" "I" (.int 8)) (A_qa1 : Arv Z h0 qa1 qk3 .byte (6 : Int32) [.int qi4, .int qi5, .int qi6, .int qi7, .int qi8, .int qi9] (.int 0)) (hc3 : ¬ (qi2 < (0 : Int32))) (hc4 : qi2 < (3 : Int32)) :
    MF l Z Y17_ jdk_52_method_5_code 2 (some .char) (Rm 0 0 0 0) #[.ref qa1, .int qi2] h0 (Q74 Z qi2 qi4 qi5 qi6 qi7 qi8 qi9 h0 n0) := by
 refine own_sF pn4 rfl (fun m => ef5 m qa1 qi2) ?_
 intro p e s m below meth c s₁ Bd hZ hh hx hby hml hown hnm X0 e0 pre0
 have N0 := Fr.nil n0
 obtain ⟨T1, X1, e1, st1⟩ := getS2 X0 hx hZ hown (host := "") (Or.inl (w98_ hw)) Via.refl e0 (uS12.ext X00.2) (g := (mkF m 0 #[rv qa1, iv qi2] [])) rfl (hb hby d17_0)
 have A2_ : Arv Z h0 qa1 qk3 .byte (6 : Int32) (([qi4, qi5, qi6, qi7, qi8, qi9] : List Int32).map Value.int) (.int 0) := A_qa1
 have av5 := A2_
 obtain ⟨cl5, Ar5, q5, S5, N5, H5, Gf5⟩ := av5
 have hin6 : ¬ (((qi2 <<< ((1 : Int32) &&& 31))) < 0 ∨ cl5.slots.size ≤ (((qi2 <<< ((1 : Int32) &&& 31))) : Int32).toNatClampNeg) := inb_of S5 (own_shla3 hc3 hc4)
 have hat6 : cl5.slots[(((qi2 <<< ((1 : Int32) &&& 31))) : Int32).toNatClampNeg]? = some (.int (own_at ([qi4, qi5, qi6, qi7, qi8, qi9] : List Int32) ((qi2 <<< ((1 : Int32) &&& 31))))) := Has.at H5 hin6 (own_atV _ _)
 obtain ⟨T7, X7, e7, st7⟩ := getS2 X1 hx hZ hown (host := "") (Or.inl (w99_ hw)) Via.refl e1 (uS15.ext X00.2) (g := (mkF m 42 #[rv qa1, iv (((qi2 <<< ((1 : Int32) &&& 31))) + (1 : Int32))] [(.int ((own_at ([qi4, qi5, qi6, qi7, qi8, qi9] : List Int32) ((qi2 <<< ((1 : Int32) &&& 31)))) &&& (255 : Int32)))])) rfl (hb hby d17_42)
 have av8 := A2_
 obtain ⟨cl8, Ar8, q8, S8, N8, H8, Gf8⟩ := av8
 have hin9 : ¬ ((((qi2 <<< ((1 : Int32) &&& 31))) + (1 : Int32)) < 0 ∨ cl8.slots.size ≤ ((((qi2 <<< ((1 : Int32) &&& 31))) + (1 : Int32)) : Int32).toNatClampNeg) := inb_of S8 (own_shlb3 hc3 hc4)
 have hat9 : cl8.slots[((((qi2 <<< ((1 : Int32) &&& 31))) + (1 : Int32)) : Int32).toNatClampNeg]? = some (.int (own_at ([qi4, qi5, qi6, qi7, qi8, qi9] : List Int32) (((qi2 <<< ((1 : Int32) &&& 31))) + (1 : Int32)))) := Has.at H8 hin9 (own_atV _ _)
 obtain ⟨T10, X10, e10, st10⟩ := getS2 X7 hx hZ hown (host := "") (Or.inl (w100_ hw)) Via.refl e7 (uS18.ext X00.2) (g := (mkF m 53 #[rv qa1, iv (((qi2 <<< ((1 : Int32) &&& 31))) + (1 : Int32))] [(.int ((own_at ([qi4, qi5, qi6, qi7, qi8, qi9] : List Int32) (((qi2 <<< ((1 : Int32) &&& 31))) + (1 : Int32))) &&& (255 : Int32))), (.int ((((own_at ([qi4, qi5, qi6, qi7, qi8, qi9] : List Int32) ((qi2 <<< ((1 : Int32) &&& 31)))) &&& (255 : Int32)) <<< ((0 : Int32) &&& 31))))])) rfl (hb hby d17_53)
 refine own_lvF X10 Bd (.int (nar .char (((((((own_at ([qi4, qi5, qi6, qi7, qi8, qi9] : List Int32) ((qi2 <<< ((1 : Int32) &&& 31)))) &&& (255 : Int32)) <<< ((0 : Int32) &&& 31))) ||| ((((own_at ([qi4, qi5, qi6, qi7, qi8, qi9] : List Int32) (((qi2 <<< ((1 : Int32) &&& 31))) + (1 : Int32))) &&& (255 : Int32)) <<< ((8 : Int32) &&& 31))))).toUInt32.toUInt16.toUInt32.toInt32))) e10 ⟨(congrArg (fun z => some (Value.int z)) (own_nar_i2c _)), N0, rfl⟩ rfl (fun fs hr => pre0 _ (by
  show Sx p e below s₁ m 0 #[rv qa1, iv qi2] [] _
  refine st1 _ ?_
  refine zp (pc' := 28) X1 Bd d17_3 (XT.i0_ne_t ((by decide) : ¬ ((1 : Int32) = (0 : Int32)))) rfl ?_
  refine zj X1 Bd d17_28 rfl ?_
  refine zc X1 Bd d17_29 ?_
  refine XS.ishl X1.here hx rfl (hb hby d17_30) rfl ?_
  refine zt X1 Bd d17_31 (l' := #[rv qa1, iv ((qi2 <<< ((1 : Int32) &&& 31)))]) rfl ?_
  refine zb X1 Bd d17_32 rfl rfl ?_
  refine zj X1 Bd d17_33 rfl ?_
  refine XS.iinc X1.here hx rfl (hb hby d17_34) rfl (l' := #[rv qa1, iv (((qi2 <<< ((1 : Int32) &&& 31))) + (1 : Int32))]) rfl ?_
  refine X1.baloadBytes hx (j := ((qi2 <<< ((1 : Int32) &&& 31)))) (v := (.int (own_at ([qi4, qi5, qi6, qi7, qi8, qi9] : List Int32) ((qi2 <<< ((1 : Int32) &&& 31)))))) (by rw [e1]; exact Ar5.1) (State.isArrayOf_alike hZ.alike Ar5.2.1) Ar5.2.2 hin6 hat6 (g := (mkF m 37 #[rv qa1, iv (((qi2 <<< ((1 : Int32) &&& 31))) + (1 : Int32))] [(.int ((qi2 <<< ((1 : Int32) &&& 31)))), .ref qa1])) rfl rfl (hb hby d17_37) _ ?_
  refine XS.sipush X1.here hx rfl (hb hby d17_38) ?_
  refine XS.iand X1.here hx rfl (hb hby d17_41) rfl ?_
  refine st7 _ ?_
  refine XS.ishl X7.here hx rfl (hb hby d17_45) rfl ?_
  refine zb X7 Bd d17_46 rfl rfl ?_
  refine zj X7 Bd d17_47 rfl ?_
  refine X7.baloadBytes hx (j := (((qi2 <<< ((1 : Int32) &&& 31))) + (1 : Int32))) (v := (.int (own_at ([qi4, qi5, qi6, qi7, qi8, qi9] : List Int32) (((qi2 <<< ((1 : Int32) &&& 31))) + (1 : Int32))))) (by rw [e7]; exact Ar8.1) (State.isArrayOf_alike hZ.alike Ar8.2.1) Ar8.2.2 hin9 hat9 (g := (mkF m 48 #[rv qa1, iv (((qi2 <<< ((1 : Int32) &&& 31))) + (1 : Int32))] [(.int (((qi2 <<< ((1 : Int32) &&& 31))) + (1 : Int32))), .ref qa1, (.int ((((own_at ([qi4, qi5, qi6, qi7, qi8, qi9] : List Int32) ((qi2 <<< ((1 : Int32) &&& 31)))) &&& (255 : Int32)) <<< ((0 : Int32) &&& 31))))])) rfl rfl (hb hby d17_48) _ ?_
  refine XS.sipush X7.here hx rfl (hb hby d17_49) ?_
  refine XS.iand X7.here hx rfl (hb hby d17_52) rfl ?_
  refine st10 _ ?_
  refine XS.ishl X10.here hx rfl (hb hby d17_56) rfl ?_
  refine XS.ior X10.here hx rfl (hb hby d17_57) rfl ?_
  refine XS.i2c X10.here hx rfl (hb hby d17_58) rfl ?_
  exact retN X10 hx (t := .char) Bd.returns (by simp) (hb hby d17_59) hr))
-- java/lang/StringUTF16.compress([CI[BII)I
def Q75 (Z : State) (qa2 : Addr) (qi4 : Int32) (qk7 : ClassId) (h0 : Heap) (n0 : Nat) (v : Option Value) (h : Heap) (L : List Loc) : Prop := v = some (.int 1) ∧ Fr n0 L ∧ Keep h0 h [qa2] ∧ Arv Z h qa2 qk7 .byte (3 : Int32) [(.int ((qi4).toInt8.toInt32)), .int 0, .int 0] (.int 0)
theorem rm75 (l : Launch) (Z : State) (a0 : Array Value) (hw : HW a0 Z) (qa1 : Addr) (qa2 : Addr) (qk3 : ClassId) (qi4 : Int32) (qi5 : Int32) (qi6 : Int32) (qk7 : ClassId) (h0 : Heap) (n0 : Nat) (X00 : Old Z n0 h0) (A_qa1 : Arv Z h0 qa1 qk3 .char (3 : Int32) [.int qi4, .int qi5, .int qi6] (.int 0)) (hc3 : ¬ ((255 : Int32) < qi4)) (A_qa2 : Arv Z h0 qa2 qk7 .byte (3 : Int32) [.int 0, .int 0, .int 0] (.int 0)) (g_qa2 : n0 ≤ qa2) (ne_qa1_qa2 : qa1 ≠ qa2) (hc11 : (255 : Int32) < qi5) :
    MF l Z Y12_ jdk_52_method_21_code 7 (some .int) (Rm 0 0 0 0) #[.ref qa1, .int 0, .ref qa2, .int 0, .int 3] h0 (Q75 Z qa2 qi4 qk7 h0 n0) := by
 refine own_sF pn4 rfl (fun m => ef11 m qa1 (0 : Int32) qa2 (0 : Int32) (3 : Int32)) ?_
 intro p e s m below meth c s₁ Bd hZ hh hx hby hml hown hnm X0 e0 pre0
 have N0 := Fr.nil n0
 have av1 := A_qa1
 obtain ⟨cl1, Ar1, q1, S1, N1, H1, Gf1⟩ := av1
 have hin2 : ¬ ((0 : Int32) < 0 ∨ cl1.slots.size ≤ ((0 : Int32) : Int32).toNatClampNeg) := inb_of S1 (by decide)
 have hat2 : cl1.slots[((0 : Int32) : Int32).toNatClampNeg]? = some (.int qi4) := Has.at H1 hin2 rfl
 have av4 := A_qa2
 obtain ⟨cl4, Ar4, q4, S4, N4, H4, Gf4⟩ := av4
 have hin5 : ¬ ((0 : Int32) < 0 ∨ cl4.slots.size ≤ ((0 : Int32) : Int32).toNatClampNeg) := inb_of S4 (by decide)
 obtain ⟨T5, h5, X5, e5, W5, st5⟩ := stB X0 hx hZ e0 Ar4 (j := (0 : Int32)) hin5 (g := (mkF m 31 #[rv qa1, iv 0, rv qa2, iv 0, iv 3, iv 0, iv qi4] [(.int ((qi4).toInt8.toInt32)), .int 0, .ref qa2])) rfl rfl (hb hby d12_31)
 have N5_ := Fr.snoc X5 N0 g_qa2
 have K6 := (Keep.refl h0 [qa2]).wr W5 (Or.inl (mI 0 rfl))
 have A7_ : Arv Z h5 qa2 qk7 .byte (3 : Int32) [(.int ((qi4).toInt8.toInt32)), .int 0, .int 0] (.int 0) := by have q := Arv.set (v := .int (nar .byte ((qi4).toInt8.toInt32))) Ar4 q4 S4 N4 H4 Gf4 (fits_nar_byte _) W5 0 (by decide) (lE rfl); rw [((own_nar_i2b _) : nar .byte ((qi4).toInt8.toInt32) = ((qi4).toInt8.toInt32))] at q; exact q
 have A9_ := A_qa1.other W5 ne_qa1_qa2
 have av8 := A9_
 obtain ⟨cl8, Ar8, q8, S8, N8, H8, Gf8⟩ := av8
 have hin10 : ¬ ((1 : Int32) < 0 ∨ cl8.slots.size ≤ ((1 : Int32) : Int32).toNatClampNeg) := inb_of S8 (by decide)
 have hat10 : cl8.slots[((1 : Int32) : Int32).toNatClampNeg]? = some (.int qi5) := Has.at H8 hin10 rfl
 refine own_lvF X5 Bd (.int 1) e5 ⟨rfl, N5_, K6, A7_⟩ rfl (fun fs hr => pre0 _ (by
  show Sx p e below s₁ m 0 #[rv qa1, iv 0, rv qa2, iv 0, iv 3, .unset, .unset] [] _
  refine zc X0 Bd d12_0 ?_
  refine zs X0 Bd d12_1 (l' := #[rv qa1, iv 0, rv qa2, iv 0, iv 3, iv 0, .unset]) rfl ?_
  refine zi X0 Bd d12_3 rfl ?_
  refine zi X0 Bd d12_5 rfl ?_
  refine zn X0 Bd d12_7 (XT.ii_ge_f ((by decide) : (0 : Int32) < (3 : Int32))) ?_
  refine zb X0 Bd d12_10 rfl rfl ?_
  refine zj X0 Bd d12_11 rfl ?_
  refine X0.caload hx (j := (0 : Int32)) (v := (.int qi4)) (by rw [e0]; exact Ar1.1) (State.isArrayOf_alike hZ.alike Ar1.2.1) Ar1.2.2 hin2 hat2 (g := (mkF m 12 #[rv qa1, iv 0, rv qa2, iv 0, iv 3, iv 0, .unset] [.int 0, .ref qa1])) rfl rfl (hb hby d12_12) _ ?_
  refine zs X0 Bd d12_13 (l' := #[rv qa1, iv 0, rv qa2, iv 0, iv 3, iv 0, iv qi4]) rfl ?_
  refine zi X0 Bd d12_15 rfl ?_
  refine XS.sipush X0.here hx rfl (hb hby d12_17) ?_
  refine zy (pc' := 26) X0 Bd d12_20 (XT.ii_le_t (hc3 : ¬ ((255 : Int32) < qi4))) rfl ?_
  refine zb X0 Bd d12_26 rfl rfl ?_
  refine zj X0 Bd d12_27 rfl ?_
  refine zi X0 Bd d12_28 rfl ?_
  refine XS.i2b X0.here hx rfl (hb hby d12_30) rfl ?_
  refine st5 _ ?_
  refine XS.iinc X5.here hx rfl (hb hby d12_32) rfl (l' := #[rv qa1, iv 1, rv qa2, iv 0, iv 3, iv 0, iv qi4]) rfl ?_
  refine XS.iinc X5.here hx rfl (hb hby d12_35) rfl (l' := #[rv qa1, iv 1, rv qa2, iv 1, iv 3, iv 0, iv qi4]) rfl ?_
  refine XS.iinc X5.here hx rfl (hb hby d12_38) rfl (l' := #[rv qa1, iv 1, rv qa2, iv 1, iv 3, iv 1, iv qi4]) rfl ?_
  refine zg (pc' := 3) X5 Bd d12_41 rfl ?_
  refine zi X5 Bd d12_3 rfl ?_
  refine zi X5 Bd d12_5 rfl ?_
  refine zn X5 Bd d12_7 (XT.ii_ge_f ((by decide) : (1 : Int32) < (3 : Int32))) ?_
  refine zb X5 Bd d12_10 rfl rfl ?_
  show Sx p e below T5 m 11 #[rv qa1, iv 1, rv qa2, iv 1, iv 3, iv 1, iv qi4] [.ref qa1] _
  refine zj X5 Bd d12_11 rfl ?_
  refine X5.caload hx (j := (1 : Int32)) (v := (.int qi5)) (by rw [e5]; exact Ar8.1) (State.isArrayOf_alike hZ.alike Ar8.2.1) Ar8.2.2 hin10 hat10 (g := (mkF m 12 #[rv qa1, iv 1, rv qa2, iv 1, iv 3, iv 1, iv qi4] [.int 1, .ref qa1])) rfl rfl (hb hby d12_12) _ ?_
  refine zs X5 Bd d12_13 (l' := #[rv qa1, iv 1, rv qa2, iv 1, iv 3, iv 1, iv qi5]) rfl ?_
  refine zi X5 Bd d12_15 rfl ?_
  refine XS.sipush X5.here hx rfl (hb hby d12_17) ?_
  refine zn X5 Bd d12_20 (XT.ii_le_f (hc11 : (255 : Int32) < qi5)) ?_
  refine zi X5 Bd d12_23 rfl ?_
  exact retI X5 hx Bd.returns (hb hby d12_25) hr))
-- java/lang/StringUTF16.compress([CI[BII)I
def Q76 (Z : State) (qa2 : Addr) (qi4 : Int32) (qi5 : Int32) (qk7 : ClassId) (h0 : Heap) (n0 : Nat) (v : Option Value) (h : Heap) (L : List Loc) : Prop := v = some (.int 2) ∧ Fr n0 L ∧ Keep h0 h [qa2] ∧ Arv Z h qa2 qk7 .byte (3 : Int32) [(.int ((qi4).toInt8.toInt32)), (.int ((qi5).toInt8.toInt32)), .int 0] (.int 0)
theorem rm76 (l : Launch) (Z : State) (a0 : Array Value) (hw : HW a0 Z) (qa1 : Addr) (qa2 : Addr) (qk3 : ClassId) (qi4 : Int32) (qi5 : Int32) (qi6 : Int32) (qk7 : ClassId) (h0 : Heap) (n0 : Nat) (X00 : Old Z n0 h0) (A_qa1 : Arv Z h0 qa1 qk3 .char (3 : Int32) [.int qi4, .int qi5, .int qi6] (.int 0)) (hc3 : ¬ ((255 : Int32) < qi4)) (A_qa2 : Arv Z h0 qa2 qk7 .byte (3 : Int32) [.int 0, .int 0, .int 0] (.int 0)) (g_qa2 : n0 ≤ qa2) (ne_qa1_qa2 : qa1 ≠ qa2) (hc11 : ¬ ((255 : Int32) < qi5)) (hc19 : (255 : Int32) < qi6) :
    MF l Z Y12_ jdk_52_method_21_code 7 (some .int) (Rm 0 0 0 0) #[.ref qa1, .int 0, .ref qa2, .int 0, .int 3] h0 (Q76 Z qa2 qi4 qi5 qk7 h0 n0) := by
 refine own_sF pn4 rfl (fun m => ef11 m qa1 (0 : Int32) qa2 (0 : Int32) (3 : Int32)) ?_
 intro p e s m below meth c s₁ Bd hZ hh hx hby hml hown hnm X0 e0 pre0
 have N0 := Fr.nil n0
 have av1 := A_qa1
 obtain ⟨cl1, Ar1, q1, S1, N1, H1, Gf1⟩ := av1
 have hin2 : ¬ ((0 : Int32) < 0 ∨ cl1.slots.size ≤ ((0 : Int32) : Int32).toNatClampNeg) := inb_of S1 (by decide)
 have hat2 : cl1.slots[((0 : Int32) : Int32).toNatClampNeg]? = some (.int qi4) := Has.at H1 hin2 rfl
 have av4 := A_qa2
 obtain ⟨cl4, Ar4, q4, S4, N4, H4, Gf4⟩ := av4
 have hin5 : ¬ ((0 : Int32) < 0 ∨ cl4.slots.size ≤ ((0 : Int32) : Int32).toNatClampNeg) := inb_of S4 (by decide)
 obtain ⟨T5, h5, X5, e5, W5, st5⟩ := stB X0 hx hZ e0 Ar4 (j := (0 : Int32)) hin5 (g := (mkF m 31 #[rv qa1, iv 0, rv qa2, iv 0, iv 3, iv 0, iv qi4] [(.int ((qi4).toInt8.toInt32)), .int 0, .ref qa2])) rfl rfl (hb hby d12_31)
 have N5_ := Fr.snoc X5 N0 g_qa2
 have K6 := (Keep.refl h0 [qa2]).wr W5 (Or.inl (mI 0 rfl))
 have A7_ : Arv Z h5 qa2 qk7 .byte (3 : Int32) [(.int ((qi4).toInt8.toInt32)), .int 0, .int 0] (.int 0) := by have q := Arv.set (v := .int (nar .byte ((qi4).toInt8.toInt32))) Ar4 q4 S4 N4 H4 Gf4 (fits_nar_byte _) W5 0 (by decide) (lE rfl); rw [((own_nar_i2b _) : nar .byte ((qi4).toInt8.toInt32) = ((qi4).toInt8.toInt32))] at q; exact q
 have A9_ := A_qa1.other W5 ne_qa1_qa2
 have av8 := A9_
 obtain ⟨cl8, Ar8, q8, S8, N8, H8, Gf8⟩ := av8
 have hin10 : ¬ ((1 : Int32) < 0 ∨ cl8.slots.size ≤ ((1 : Int32) : Int32).toNatClampNeg) := inb_of S8 (by decide)
 have hat10 : cl8.slots[((1 : Int32) : Int32).toNatClampNeg]? = some (.int qi5) := Has.at H8 hin10 rfl
 have av12 := A7_
 obtain ⟨cl12, Ar12, q12, S12, N12, H12, Gf12⟩ := av12
 have hin13 : ¬ ((1 : Int32) < 0 ∨ cl12.slots.size ≤ ((1 : Int32) : Int32).toNatClampNeg) := inb_of S12 (by decide)
 obtain ⟨T13, h13, X13, e13, W13, st13⟩ := stB X5 hx hZ e5 Ar12 (j := (1 : Int32)) hin13 (g := (mkF m 31 #[rv qa1, iv 1, rv qa2, iv 1, iv 3, iv 1, iv qi5] [(.int ((qi5).toInt8.toInt32)), .int 1, .ref qa2])) rfl rfl (hb hby d12_31)
 have N13_ := Fr.snoc X13 N5_ g_qa2
 have K14 := K6.wr W13 (Or.inl (mI 0 rfl))
 have A15_ : Arv Z h13 qa2 qk7 .byte (3 : Int32) [(.int ((qi4).toInt8.toInt32)), (.int ((qi5).toInt8.toInt32)), .int 0] (.int 0) := by have q := Arv.set (v := .int (nar .byte ((qi5).toInt8.toInt32))) Ar12 q12 S12 N12 H12 Gf12 (fits_nar_byte _) W13 1 (by decide) (lE rfl); rw [((own_nar_i2b _) : nar .byte ((qi5).toInt8.toInt32) = ((qi5).toInt8.toInt32))] at q; exact q
 have A17_ := A9_.other W13 ne_qa1_qa2
 have av16 := A17_
 obtain ⟨cl16, Ar16, q16, S16, N16, H16, Gf16⟩ := av16
 have hin18 : ¬ ((2 : Int32) < 0 ∨ cl16.slots.size ≤ ((2 : Int32) : Int32).toNatClampNeg) := inb_of S16 (by decide)
 have hat18 : cl16.slots[((2 : Int32) : Int32).toNatClampNeg]? = some (.int qi6) := Has.at H16 hin18 rfl
 refine own_lvF X13 Bd (.int 2) e13 ⟨rfl, N13_, K14, A15_⟩ rfl (fun fs hr => pre0 _ (by
  show Sx p e below s₁ m 0 #[rv qa1, iv 0, rv qa2, iv 0, iv 3, .unset, .unset] [] _
  refine zc X0 Bd d12_0 ?_
  refine zs X0 Bd d12_1 (l' := #[rv qa1, iv 0, rv qa2, iv 0, iv 3, iv 0, .unset]) rfl ?_
  refine zi X0 Bd d12_3 rfl ?_
  refine zi X0 Bd d12_5 rfl ?_
  refine zn X0 Bd d12_7 (XT.ii_ge_f ((by decide) : (0 : Int32) < (3 : Int32))) ?_
  refine zb X0 Bd d12_10 rfl rfl ?_
  refine zj X0 Bd d12_11 rfl ?_
  refine X0.caload hx (j := (0 : Int32)) (v := (.int qi4)) (by rw [e0]; exact Ar1.1) (State.isArrayOf_alike hZ.alike Ar1.2.1) Ar1.2.2 hin2 hat2 (g := (mkF m 12 #[rv qa1, iv 0, rv qa2, iv 0, iv 3, iv 0, .unset] [.int 0, .ref qa1])) rfl rfl (hb hby d12_12) _ ?_
  refine zs X0 Bd d12_13 (l' := #[rv qa1, iv 0, rv qa2, iv 0, iv 3, iv 0, iv qi4]) rfl ?_
  refine zi X0 Bd d12_15 rfl ?_
  refine XS.sipush X0.here hx rfl (hb hby d12_17) ?_
  refine zy (pc' := 26) X0 Bd d12_20 (XT.ii_le_t (hc3 : ¬ ((255 : Int32) < qi4))) rfl ?_
  refine zb X0 Bd d12_26 rfl rfl ?_
  refine zj X0 Bd d12_27 rfl ?_
  refine zi X0 Bd d12_28 rfl ?_
  refine XS.i2b X0.here hx rfl (hb hby d12_30) rfl ?_
  refine st5 _ ?_
  refine XS.iinc X5.here hx rfl (hb hby d12_32) rfl (l' := #[rv qa1, iv 1, rv qa2, iv 0, iv 3, iv 0, iv qi4]) rfl ?_
  refine XS.iinc X5.here hx rfl (hb hby d12_35) rfl (l' := #[rv qa1, iv 1, rv qa2, iv 1, iv 3, iv 0, iv qi4]) rfl ?_
  refine XS.iinc X5.here hx rfl (hb hby d12_38) rfl (l' := #[rv qa1, iv 1, rv qa2, iv 1, iv 3, iv 1, iv qi4]) rfl ?_
  refine zg (pc' := 3) X5 Bd d12_41 rfl ?_
  refine zi X5 Bd d12_3 rfl ?_
  refine zi X5 Bd d12_5 rfl ?_
  refine zn X5 Bd d12_7 (XT.ii_ge_f ((by decide) : (1 : Int32) < (3 : Int32))) ?_
  refine zb X5 Bd d12_10 rfl rfl ?_
  show Sx p e below T5 m 11 #[rv qa1, iv 1, rv qa2, iv 1, iv 3, iv 1, iv qi4] [.ref qa1] _
  refine zj X5 Bd d12_11 rfl ?_
  refine X5.caload hx (j := (1 : Int32)) (v := (.int qi5)) (by rw [e5]; exact Ar8.1) (State.isArrayOf_alike hZ.alike Ar8.2.1) Ar8.2.2 hin10 hat10 (g := (mkF m 12 #[rv qa1, iv 1, rv qa2, iv 1, iv 3, iv 1, iv qi4] [.int 1, .ref qa1])) rfl rfl (hb hby d12_12) _ ?_
  refine zs X5 Bd d12_13 (l' := #[rv qa1, iv 1, rv qa2, iv 1, iv 3, iv 1, iv qi5]) rfl ?_
  refine zi X5 Bd d12_15 rfl ?_
  refine XS.sipush X5.here hx rfl (hb hby d12_17) ?_
  refine zy (pc' := 26) X5 Bd d12_20 (XT.ii_le_t (hc11 : ¬ ((255 : Int32) < qi5))) rfl ?_
  refine zb X5 Bd d12_26 rfl rfl ?_
  refine zj X5 Bd d12_27 rfl ?_
  refine zi X5 Bd d12_28 rfl ?_
  refine XS.i2b X5.here hx rfl (hb hby d12_30) rfl ?_
  refine st13 _ ?_
  refine XS.iinc X13.here hx rfl (hb hby d12_32) rfl (l' := #[rv qa1, iv 2, rv qa2, iv 1, iv 3, iv 1, iv qi5]) rfl ?_
  refine XS.iinc X13.here hx rfl (hb hby d12_35) rfl (l' := #[rv qa1, iv 2, rv qa2, iv 2, iv 3, iv 1, iv qi5]) rfl ?_
  refine XS.iinc X13.here hx rfl (hb hby d12_38) rfl (l' := #[rv qa1, iv 2, rv qa2, iv 2, iv 3, iv 2, iv qi5]) rfl ?_
  refine zg (pc' := 3) X13 Bd d12_41 rfl ?_
  refine zi X13 Bd d12_3 rfl ?_
  refine zi X13 Bd d12_5 rfl ?_
  refine zn X13 Bd d12_7 (XT.ii_ge_f ((by decide) : (2 : Int32) < (3 : Int32))) ?_
  refine zb X13 Bd d12_10 rfl rfl ?_
  refine zj X13 Bd d12_11 rfl ?_
  refine X13.caload hx (j := (2 : Int32)) (v := (.int qi6)) (by rw [e13]; exact Ar16.1) (State.isArrayOf_alike hZ.alike Ar16.2.1) Ar16.2.2 hin18 hat18 (g := (mkF m 12 #[rv qa1, iv 2, rv qa2, iv 2, iv 3, iv 2, iv qi5] [.int 2, .ref qa1])) rfl rfl (hb hby d12_12) _ ?_
  refine zs X13 Bd d12_13 (l' := #[rv qa1, iv 2, rv qa2, iv 2, iv 3, iv 2, iv qi6]) rfl ?_
  refine zi X13 Bd d12_15 rfl ?_
  refine XS.sipush X13.here hx rfl (hb hby d12_17) ?_
  refine zn X13 Bd d12_20 (XT.ii_le_f (hc19 : (255 : Int32) < qi6)) ?_
  show Sx p e below T13 m 23 #[rv qa1, iv 2, rv qa2, iv 2, iv 3, iv 2, iv qi6] [] _
  refine zi X13 Bd d12_23 rfl ?_
  exact retI X13 hx Bd.returns (hb hby d12_25) hr))
-- java/lang/StringUTF16.compress([CII)[B
def Q77 (Z : State) (qi3 : Int32) (qi4 : Int32) (qi5 : Int32) (h0 : Heap) (n0 : Nat) (v : Option Value) (h : Heap) (L : List Loc) : Prop := ∃ bm : Addr, ∃ cm : ClassId, v = some (.ref bm) ∧ Fr n0 L ∧ Keep h0 h [] ∧ h0.size ≤ bm ∧ Arv Z h bm cm .byte (6 : Int32) [(.int ((((qi3 >>> ((0 : Int32) &&& 31)))).toInt8.toInt32)), (.int ((((qi3 >>> ((8 : Int32) &&& 31)))).toInt8.toInt32)), (.int ((((qi4 >>> ((0 : Int32) &&& 31)))).toInt8.toInt32)), (.int ((((qi4 >>> ((8 : Int32) &&& 31)))).toInt8.toInt32)), (.int ((((qi5 >>> ((0 : Int32) &&& 31)))).toInt8.toInt32)), (.int ((((qi5 >>> ((8 : Int32) &&& 31)))).toInt8.toInt32))] (.int 0)
theorem rm77 (l : Launch) (Z : State) (a0 : Array Value) (hw : HW a0 Z) (qa1 : Addr) (qk2 : ClassId) (qi3 : Int32) (qi4 : Int32) (qi5 : Int32) (h0 : Heap) (n0 : Nat) (X00 : Old Z n0 h0) (uS12 : Sta Z Z.heap "java/lang/StringUTF16" "$assertionsDisabled" "Z" (.int 1)) (uS15 : Sta Z Z.heap "java/lang/StringUTF16" "HI_BYTE_SHIFT" "I" (.int 0)) (uS18 : Sta Z Z.heap "java/lang/StringUTF16" "LO_BYTE_SHIFT" "I" (.int 8)) (A_qa1 : Arv Z h0 qa1 qk2 .char (3 : Int32) [.int qi3, .int qi4, .int qi5] (.int 0)) (hc1 : (255 : Int32) < (own_max ([qi3, qi4, qi5] : List Int32))) (hr20 : nar .char qi3 = qi3) (hr39 : nar .char qi4 = qi4) (hr58 : nar .char qi5 = qi5) :
    MF l Z Y18_ jdk_52_method_16_code 6 (some (.array .byte)) (Rm 3 2 9 40) #[.ref qa1, .int 0, .int 3] h0 (Q77 Z qi3 qi4 qi5 h0 n0) := by
 refine own_sF pn4 rfl (fun m => ef10 m qa1 (0 : Int32) (3 : Int32)) ?_
 intro p e s m below meth c s₁ Bd hZ hh hx hby hml hown hnm X0 e0 pre0
 have N0 := Fr.nil n0
 obtain ⟨T2, h2, c2, X2, e2, E2, A2, st2⟩ := newP (aty := .byte) X0 hx hZ (w21_ hw) e0 (g := (mkF m 1 #[rv qa1, iv 0, iv 3, .unset, .unset, .unset] [.int 3])) rfl (hb hby d11_1) rfl (by decide) (cap := 3) (by decide) (lE rfl) (lE rfl) (lE rfl)
 obtain ⟨b2, g2⟩ : ∃ z, z = h0.size := ⟨_, rfl⟩
 rw [← g2] at A2 st2
 replace X2 : Stand p l e (Rm 3 2 9 40) s m #[.ref qa1, .int 0, .int 3] below meth c T2 _ 1 3 := X2
 have K3 := (Keep.refl h0 []).ext E2
 have A4_ : Arv Z h2 b2 c2 .byte (3 : Int32) [.int 0, .int 0, .int 0] (.int 0) := (Arv.new A2 (by decide)).pad (pad_rep [] (.int 0) 3)
 have A6_ := A_qa1.ext E2
 have pr7 : Pr p e below T2 m 9 #[rv qa1, iv 0, iv 3, rv b2, .unset, .unset] [.int 3, .int 0, .ref b2, .int 0, .ref qa1] s₁ (entryFrame m #[.ref qa1, .int 0, .int 3] 6) := fun t k => pre0 t (by
  show Sx p e below s₁ m 0 #[rv qa1, iv 0, iv 3, .unset, .unset, .unset] [] _
  refine zj X0 Bd d11_0 rfl ?_
  refine st2 _ ?_
  refine XS.astoreN X2.here hx rfl (hb hby d11_3) rfl rfl (l' := #[rv qa1, iv 0, iv 3, rv b2, .unset, .unset]) rfl ?_
  refine zb X2 Bd d11_4 rfl rfl ?_
  refine zj X2 Bd d11_5 rfl ?_
  refine zb X2 Bd d11_6 rfl rfl ?_
  refine zc X2 Bd d11_7 ?_
  refine zj X2 Bd d11_8 rfl ?_
  exact k)
 by_cases hc8 : (255 : Int32) < qi3
 ·
  skip
  have A10_ := A_qa1.ext E2
  have O11 := X00.ext E2
  obtain ⟨_, T9, L9, X9, hQ9, st9⟩ := own_cS 1 3 [] 9 #[rv qa1, iv 0, iv 3, rv b2, .unset, .unset] X2 hx hZ hown (w76_ hw) (w77_ hw) (w74_ hw) (w78_ hw) (rm69 l Z a0 hw  qa1 b2 qk2 qi3 qi4 qi5 h2 n0 O11 A10_ hc8) pd10 hml.symm (hb hby d11_9) e2 rfl rfl rfl rfl (by decide)
  obtain ⟨rfl, N9q, e9q⟩ := hQ9
  have N9 := Fr.app N0 N9q
  obtain ⟨_, T12, L12, X12, hQ12, st12⟩ := own_cS 2 9 [] 23 #[rv qa1, iv 0, iv 3, rv b2, iv 0, .unset] X9 hx hZ hown (w85_ hw) (w86_ hw) (w74_ hw) (w87_ hw) (rm73 l Z a0 hw  qa1 qk2 qi3 qi4 qi5 h2 n0 O11 uS12 uS15 uS18 A10_) pd13 hml.symm (hb hby d11_23) e9q rfl rfl rfl rfl (by decide)
  obtain ⟨b13, c14_, rfl, N12q, K12q, w15, w16⟩ := hQ12
  have N12 := Fr.app N9 N12q
  have K17 := K3.trans K12q (fun x q => nomatch q)
  have O19 := O11.keep K12q all0
  obtain ⟨_, T18, L18, X18, hQ18, st18⟩ := own_cS 2 9 [] 32 #[rv qa1, iv 0, iv 3, rv b2, iv 0, rv b13] X12 hx hZ hown (w101_ hw) (w102_ hw) (w74_ hw) (w103_ hw) (rm74 l Z a0 hw  b13 (0 : Int32) c14_ ((((qi3 >>> ((0 : Int32) &&& 31)))).toInt8.toInt32) ((((qi3 >>> ((8 : Int32) &&& 31)))).toInt8.toInt32) ((((qi4 >>> ((0 : Int32) &&& 31)))).toInt8.toInt32) ((((qi4 >>> ((8 : Int32) &&& 31)))).toInt8.toInt32) ((((qi5 >>> ((0 : Int32) &&& 31)))).toInt8.toInt32) ((((qi5 >>> ((8 : Int32) &&& 31)))).toInt8.toInt32) T12.heap n0 O19 uS12 uS15 uS18 w16 (by decide) (by decide)) pd14 hml.symm (hb hby d11_32) rfl rfl rfl rfl rfl (by decide)
  obtain ⟨rfl, N18q, e18q⟩ := hQ18
  have N18 := Fr.app N12 N18q
  have sz_b13 : h0.size ≤ b13 := Nat.le_trans K3.1 w15
  refine own_lvF X18 Bd (.ref b13) e18q ⟨b13, c14_, rfl, N18, K17, sz_b13, w16⟩ rfl (fun fs hr => pr7 _ (by
   show Sx p e below T2 m 9 #[rv qa1, iv 0, iv 3, rv b2, .unset, .unset] [.int 3, .int 0, .ref b2, .int 0, .ref qa1] _
   refine st9 _ ?_
   refine zs X9 Bd d11_12 (l' := #[rv qa1, iv 0, iv 3, rv b2, iv 0, .unset]) rfl ?_
   refine zi X9 Bd d11_14 rfl ?_
   refine zj X9 Bd d11_16 rfl ?_
   refine zn X9 Bd d11_17 (XT.ii_eq_f ((by decide) : ¬ ((0 : Int32) = (3 : Int32)))) ?_
   refine zb X9 Bd d11_20 rfl rfl ?_
   refine zj X9 Bd d11_21 rfl ?_
   refine zj X9 Bd d11_22 rfl ?_
   refine st12 _ ?_
   refine XS.astore X12.here hx rfl (hb hby d11_26) rfl rfl (l' := #[rv qa1, iv 0, iv 3, rv b2, iv 0, rv b13]) rfl ?_
   refine za X12 Bd d11_28 rfl rfl ?_
   refine zi X12 Bd d11_30 rfl ?_
   refine st18 _ ?_
   refine XS.sipush X18.here hx rfl (hb hby d11_35) ?_
   refine zy (pc' := 54) X18 Bd d11_38 (XT.ii_gt_t ((own_get16l hr20 hc8) : (255 : Int32) < ((((((((((qi3 >>> ((0 : Int32) &&& 31)))).toInt8.toInt32) &&& (255 : Int32)) <<< ((0 : Int32) &&& 31))) ||| (((((((qi3 >>> ((8 : Int32) &&& 31)))).toInt8.toInt32) &&& (255 : Int32)) <<< ((8 : Int32) &&& 31))))).toUInt32.toUInt16.toUInt32.toInt32))) rfl ?_
   refine za X18 Bd d11_54 rfl rfl ?_
   exact retOut X18 hx Bd.returns rfl (Or.inr (Or.inr (Or.inr (Or.inr ⟨rfl, rfl, rfl⟩)))) (hb hby d11_56) hr))
 ·
  skip
  have A22_ := A_qa1.ext E2
  have g_b2 : n0 ≤ b2 := Nat.le_trans (Nat.le_trans (Nat.le_of_eq X00.1.symm) X00.2.1) (Nat.le_of_eq g2.symm)
  by_cases hc23 : (255 : Int32) < qi4
  ·
   skip
   have A25_ := A_qa1.ext E2
   have g_b2 : n0 ≤ b2 := Nat.le_trans (Nat.le_trans (Nat.le_of_eq X00.1.symm) X00.2.1) (Nat.le_of_eq g2.symm)
   have O26 := X00.ext E2
   obtain ⟨_, T24, L24, X24, hQ24, st24⟩ := own_cS 1 3 [] 9 #[rv qa1, iv 0, iv 3, rv b2, .unset, .unset] X2 hx hZ hown (w76_ hw) (w77_ hw) (w74_ hw) (w78_ hw) (rm75 l Z a0 hw  qa1 b2 qk2 qi3 qi4 qi5 c2 h2 n0 O26 A25_ hc8 A4_ g_b2 (Nat.ne_of_lt (Nat.lt_of_lt_of_le A_qa1.lt (Nat.le_of_eq g2.symm))) hc23) pd10 hml.symm (hb hby d11_9) e2 rfl rfl rfl rfl (by decide)
   obtain ⟨rfl, N24q, K24q, w27⟩ := hQ24
   have N24 := Fr.app N0 N24q
   have sz_b2 : h0.size ≤ b2 := (Nat.le_of_eq g2.symm)
   have K28 := K3.trans K24q (allS (Or.inr sz_b2) all0)
   have A30_ := A25_.keep K24q (ninS (Nat.ne_of_lt (Nat.lt_of_lt_of_le A_qa1.lt (Nat.le_of_eq g2.symm))) nin0)
   have O31 := O26.keep K24q (allS g_b2 all0)
   obtain ⟨_, T29, L29, X29, hQ29, st29⟩ := own_cS 2 9 [] 23 #[rv qa1, iv 0, iv 3, rv b2, iv 1, .unset] X24 hx hZ hown (w85_ hw) (w86_ hw) (w74_ hw) (w87_ hw) (rm73 l Z a0 hw  qa1 qk2 qi3 qi4 qi5 T24.heap n0 O31 uS12 uS15 uS18 A30_) pd13 hml.symm (hb hby d11_23) rfl rfl rfl rfl rfl (by decide)
   obtain ⟨b32, c33_, rfl, N29q, K29q, w34, w35⟩ := hQ29
   have N29 := Fr.app N24 N29q
   have K36 := K28.trans K29q (fun x q => nomatch q)
   have O38 := O31.keep K29q all0
   obtain ⟨_, T37, L37, X37, hQ37, st37⟩ := own_cS 2 9 [] 32 #[rv qa1, iv 0, iv 3, rv b2, iv 1, rv b32] X29 hx hZ hown (w101_ hw) (w102_ hw) (w74_ hw) (w103_ hw) (rm74 l Z a0 hw  b32 (1 : Int32) c33_ ((((qi3 >>> ((0 : Int32) &&& 31)))).toInt8.toInt32) ((((qi3 >>> ((8 : Int32) &&& 31)))).toInt8.toInt32) ((((qi4 >>> ((0 : Int32) &&& 31)))).toInt8.toInt32) ((((qi4 >>> ((8 : Int32) &&& 31)))).toInt8.toInt32) ((((qi5 >>> ((0 : Int32) &&& 31)))).toInt8.toInt32) ((((qi5 >>> ((8 : Int32) &&& 31)))).toInt8.toInt32) T29.heap n0 O38 uS12 uS15 uS18 w35 (by decide) (by decide)) pd14 hml.symm (hb hby d11_32) rfl rfl rfl rfl rfl (by decide)
   obtain ⟨rfl, N37q, e37q⟩ := hQ37
   have N37 := Fr.app N29 N37q
   have sz_b32 : h0.size ≤ b32 := Nat.le_trans K28.1 w34
   refine own_lvF X37 Bd (.ref b32) e37q ⟨b32, c33_, rfl, N37, K36, sz_b32, w35⟩ rfl (fun fs hr => pr7 _ (by
    show Sx p e below T2 m 9 #[rv qa1, iv 0, iv 3, rv b2, .unset, .unset] [.int 3, .int 0, .ref b2, .int 0, .ref qa1] _
    refine st24 _ ?_
    refine zs X24 Bd d11_12 (l' := #[rv qa1, iv 0, iv 3, rv b2, iv 1, .unset]) rfl ?_
    refine zi X24 Bd d11_14 rfl ?_
    refine zj X24 Bd d11_16 rfl ?_
    refine zn X24 Bd d11_17 (XT.ii_eq_f ((by decide) : ¬ ((1 : Int32) = (3 : Int32)))) ?_
    refine zb X24 Bd d11_20 rfl rfl ?_
    refine zj X24 Bd d11_21 rfl ?_
    refine zj X24 Bd d11_22 rfl ?_
    refine st29 _ ?_
    refine XS.astore X29.here hx rfl (hb hby d11_26) rfl rfl (l' := #[rv qa1, iv 0, iv 3, rv b2, iv 1, rv b32]) rfl ?_
    refine za X29 Bd d11_28 rfl rfl ?_
    refine zi X29 Bd d11_30 rfl ?_
    refine st37 _ ?_
    refine XS.sipush X37.here hx rfl (hb hby d11_35) ?_
    refine zy (pc' := 54) X37 Bd d11_38 (XT.ii_gt_t ((own_get16l hr39 hc23) : (255 : Int32) < ((((((((((qi4 >>> ((0 : Int32) &&& 31)))).toInt8.toInt32) &&& (255 : Int32)) <<< ((0 : Int32) &&& 31))) ||| (((((((qi4 >>> ((8 : Int32) &&& 31)))).toInt8.toInt32) &&& (255 : Int32)) <<< ((8 : Int32) &&& 31))))).toUInt32.toUInt16.toUInt32.toInt32))) rfl ?_
    refine za X37 Bd d11_54 rfl rfl ?_
    exact retOut X37 hx Bd.returns rfl (Or.inr (Or.inr (Or.inr (Or.inr ⟨rfl, rfl, rfl⟩)))) (hb hby d11_56) hr))
  ·
   skip
   have A41_ := A_qa1.ext E2
   have g_b2 : n0 ≤ b2 := Nat.le_trans (Nat.le_trans (Nat.le_of_eq X00.1.symm) X00.2.1) (Nat.le_of_eq g2.symm)
   by_cases hc42 : (255 : Int32) < qi5
   ·
    skip
    have A44_ := A_qa1.ext E2
    have g_b2 : n0 ≤ b2 := Nat.le_trans (Nat.le_trans (Nat.le_of_eq X00.1.symm) X00.2.1) (Nat.le_of_eq g2.symm)
    have O45 := X00.ext E2
    obtain ⟨_, T43, L43, X43, hQ43, st43⟩ := own_cS 1 3 [] 9 #[rv qa1, iv 0, iv 3, rv b2, .unset, .unset] X2 hx hZ hown (w76_ hw) (w77_ hw) (w74_ hw) (w78_ hw) (rm76 l Z a0 hw  qa1 b2 qk2 qi3 qi4 qi5 c2 h2 n0 O45 A44_ hc8 A4_ g_b2 (Nat.ne_of_lt (Nat.lt_of_lt_of_le A_qa1.lt (Nat.le_of_eq g2.symm))) hc23 hc42) pd10 hml.symm (hb hby d11_9) e2 rfl rfl rfl rfl (by decide)
    obtain ⟨rfl, N43q, K43q, w46⟩ := hQ43
    have N43 := Fr.app N0 N43q
    have sz_b2 : h0.size ≤ b2 := (Nat.le_of_eq g2.symm)
    have K47 := K3.trans K43q (allS (Or.inr sz_b2) all0)
    have A49_ := A44_.keep K43q (ninS (Nat.ne_of_lt (Nat.lt_of_lt_of_le A_qa1.lt (Nat.le_of_eq g2.symm))) nin0)
    have O50 := O45.keep K43q (allS g_b2 all0)
    obtain ⟨_, T48, L48, X48, hQ48, st48⟩ := own_cS 2 9 [] 23 #[rv qa1, iv 0, iv 3, rv b2, iv 2, .unset] X43 hx hZ hown (w85_ hw) (w86_ hw) (w74_ hw) (w87_ hw) (rm73 l Z a0 hw  qa1 qk2 qi3 qi4 qi5 T43.heap n0 O50 uS12 uS15 uS18 A49_) pd13 hml.symm (hb hby d11_23) rfl rfl rfl rfl rfl (by decide)
    obtain ⟨b51, c52_, rfl, N48q, K48q, w53, w54⟩ := hQ48
    have N48 := Fr.app N43 N48q
    have K55 := K47.trans K48q (fun x q => nomatch q)
    have O57 := O50.keep K48q all0
    obtain ⟨_, T56, L56, X56, hQ56, st56⟩ := own_cS 2 9 [] 32 #[rv qa1, iv 0, iv 3, rv b2, iv 2, rv b51] X48 hx hZ hown (w101_ hw) (w102_ hw) (w74_ hw) (w103_ hw) (rm74 l Z a0 hw  b51 (2 : Int32) c52_ ((((qi3 >>> ((0 : Int32) &&& 31)))).toInt8.toInt32) ((((qi3 >>> ((8 : Int32) &&& 31)))).toInt8.toInt32) ((((qi4 >>> ((0 : Int32) &&& 31)))).toInt8.toInt32) ((((qi4 >>> ((8 : Int32) &&& 31)))).toInt8.toInt32) ((((qi5 >>> ((0 : Int32) &&& 31)))).toInt8.toInt32) ((((qi5 >>> ((8 : Int32) &&& 31)))).toInt8.toInt32) T48.heap n0 O57 uS12 uS15 uS18 w54 (by decide) (by decide)) pd14 hml.symm (hb hby d11_32) rfl rfl rfl rfl rfl (by decide)
    obtain ⟨rfl, N56q, e56q⟩ := hQ56
    have N56 := Fr.app N48 N56q
    have sz_b51 : h0.size ≤ b51 := Nat.le_trans K47.1 w53
    refine own_lvF X56 Bd (.ref b51) e56q ⟨b51, c52_, rfl, N56, K55, sz_b51, w54⟩ rfl (fun fs hr => pr7 _ (by
     show Sx p e below T2 m 9 #[rv qa1, iv 0, iv 3, rv b2, .unset, .unset] [.int 3, .int 0, .ref b2, .int 0, .ref qa1] _
     refine st43 _ ?_
     refine zs X43 Bd d11_12 (l' := #[rv qa1, iv 0, iv 3, rv b2, iv 2, .unset]) rfl ?_
     refine zi X43 Bd d11_14 rfl ?_
     refine zj X43 Bd d11_16 rfl ?_
     refine zn X43 Bd d11_17 (XT.ii_eq_f ((by decide) : ¬ ((2 : Int32) = (3 : Int32)))) ?_
     refine zb X43 Bd d11_20 rfl rfl ?_
     refine zj X43 Bd d11_21 rfl ?_
     refine zj X43 Bd d11_22 rfl ?_
     refine st48 _ ?_
     refine XS.astore X48.here hx rfl (hb hby d11_26) rfl rfl (l' := #[rv qa1, iv 0, iv 3, rv b2, iv 2, rv b51]) rfl ?_
     refine za X48 Bd d11_28 rfl rfl ?_
     refine zi X48 Bd d11_30 rfl ?_
     refine st56 _ ?_
     refine XS.sipush X56.here hx rfl (hb hby d11_35) ?_
     refine zy (pc' := 54) X56 Bd d11_38 (XT.ii_gt_t ((own_get16l hr58 hc42) : (255 : Int32) < ((((((((((qi5 >>> ((0 : Int32) &&& 31)))).toInt8.toInt32) &&& (255 : Int32)) <<< ((0 : Int32) &&& 31))) ||| (((((((qi5 >>> ((8 : Int32) &&& 31)))).toInt8.toInt32) &&& (255 : Int32)) <<< ((8 : Int32) &&& 31))))).toUInt32.toUInt16.toUInt32.toInt32))) rfl ?_
     refine za X56 Bd d11_54 rfl rfl ?_
     exact retOut X56 hx Bd.returns rfl (Or.inr (Or.inr (Or.inr (Or.inr ⟨rfl, rfl, rfl⟩)))) (hb hby d11_56) hr))
   ·
    skip
    exact absurd hc1 (own_maxno _ (List.forall_mem_cons.mpr ⟨hc8, (List.forall_mem_cons.mpr ⟨hc23, (List.forall_mem_cons.mpr ⟨hc42, (fun _ q => nomatch q)⟩)⟩)⟩))
-- java/lang/StringUTF16.coderFromArrayLen([BI)B
def Q78 (Z : State)  (h0 : Heap) (n0 : Nat) (v : Option Value) (h : Heap) (L : List Loc) : Prop := v = some (.int 1) ∧ Fr n0 L ∧ h = h0
theorem rm78 (l : Launch) (Z : State) (a0 : Array Value) (hw : HW a0 Z) (qa1 : Addr) (qk2 : ClassId) (qi3 : Int32) (qi4 : Int32) (qi5 : Int32) (qi6 : Int32) (qi7 : Int32) (qi8 : Int32) (h0 : Heap) (n0 : Nat) (X00 : Old Z n0 h0) (A_qa1 : Arv Z h0 qa1 qk2 .byte (6 : Int32) [.int qi3, .int qi4, .int qi5, .int qi6, .int qi7, .int qi8] (.int 0)) :
    MF l Z Y19_ jdk_52_method_15_code 2 (some .byte) (Rm 0 0 0 0) #[.ref qa1, .int 3] h0 (Q78 Z  h0 n0) := by
 refine own_sF pn4 rfl (fun m => ef5 m qa1 (3 : Int32)) ?_
 intro p e s m below meth c s₁ Bd hZ hh hx hby hml hown hnm X0 e0 pre0
 have N0 := Fr.nil n0
 have av1 := A_qa1
 obtain ⟨cl1, Ar1, q1, S1, N1, H1, Gf1⟩ := av1
 refine own_lvF X0 Bd (.int 1) e0 ⟨rfl, N0, rfl⟩ rfl (fun fs hr => pre0 _ (by
  show Sx p e below s₁ m 0 #[rv qa1, iv 3] [] _
  refine zj X0 Bd d18_0 rfl ?_
  refine zb X0 Bd d18_1 rfl rfl ?_
  refine X0.arraylength hx (by rw [e0]; exact Ar1.1) (State.isArrayOf_alike hZ.alike Ar1.2.1) (g := (mkF m 2 #[rv qa1, iv 3] [.ref qa1, .int 3])) rfl rfl (hb hby d18_2) _ ?_
  rw [len_of S1 N1]
  refine XS.isub X0.here hx rfl (hb hby d18_3) rfl ?_
  refine zd X0 Bd d18_4 ?_
  refine XS.iushr X0.here hx rfl (hb hby d18_6) rfl ?_
  refine XS.i2b X0.here hx rfl (hb hby d18_7) rfl ?_
  exact retN X0 hx (t := .byte) Bd.returns (by simp) (hb hby d18_8) hr))
-- java/lang/String.<init>([CIILjava/lang/Void;)V
def Q79 (Z : State) (qa1 : Addr) (qi4 : Int32) (qi5 : Int32) (qi6 : Int32) (h0 : Heap) (n0 : Nat) (v : Option Value) (h : Heap) (L : List Loc) : Prop := ∃ b8 : Addr, ∃ c9_ : ClassId, v = none ∧ Fr n0 L ∧ Keep h0 h [qa1] ∧ h0.size ≤ b8 ∧ Exa Z h qa1 "java/lang/String" ∧ Fld Z h qa1 "java/lang/String" "coder" "B" (.int 1) ∧ Fld Z h qa1 "java/lang/String" "value" "[B" (.ref b8) ∧ Arv Z h b8 c9_ .byte (6 : Int32) [(.int ((((qi4 >>> ((0 : Int32) &&& 31)))).toInt8.toInt32)), (.int ((((qi4 >>> ((8 : Int32) &&& 31)))).toInt8.toInt32)), (.int ((((qi5 >>> ((0 : Int32) &&& 31)))).toInt8.toInt32)), (.int ((((qi5 >>> ((8 : Int32) &&& 31)))).toInt8.toInt32)), (.int ((((qi6 >>> ((0 : Int32) &&& 31)))).toInt8.toInt32)), (.int ((((qi6 >>> ((8 : Int32) &&& 31)))).toInt8.toInt32))] (.int 0)
theorem rm79 (l : Launch) (Z : State) (a0 : Array Value) (hw : HW a0 Z) (G1 : Int32) (qa1 : Addr) (qa2 : Addr) (qk3 : ClassId) (qi4 : Int32) (qi5 : Int32) (qi6 : Int32) (h0 : Heap) (n0 : Nat) (X00 : Old Z n0 h0) (O2 : Sta Z Z.heap "java/lang/String" "COMPACT_STRINGS" "Z" (.int G1)) (P5 : ¬ (G1 = (0 : Int32))) (uS12 : Sta Z Z.heap "java/lang/StringUTF16" "$assertionsDisabled" "Z" (.int 1)) (uS15 : Sta Z Z.heap "java/lang/StringUTF16" "HI_BYTE_SHIFT" "I" (.int 0)) (uS18 : Sta Z Z.heap "java/lang/StringUTF16" "LO_BYTE_SHIFT" "I" (.int 8)) (A_qa2 : Arv Z h0 qa2 qk3 .char (3 : Int32) [.int qi4, .int qi5, .int qi6] (.int 0)) (hc4 : (255 : Int32) < (own_max ([qi4, qi5, qi6] : List Int32))) (hr5 : nar .char qi4 = qi4) (hr6 : nar .char qi5 = qi5) (hr7 : nar .char qi6 = qi6) (E_qa1 : Exa Z h0 qa1 "java/lang/String") (F_qa1_coder : Fld Z h0 qa1 "java/lang/String" "coder" "B" (.int 0)) (g_qa1 : n0 ≤ qa1) (F_qa1_value : Fld Z h0 qa1 "java/lang/String" "value" "[B" .null) :
    MF l Z Y1_ jdk_42_method_149_code 6 none (Rm 4 2 9 57) #[.ref qa1, .ref qa2, .int 0, .int 3, .null] h0 (Q79 Z qa1 qi4 qi5 qi6 h0 n0) := by
 refine own_sF pn1 rfl (fun m => ef3 m qa1 qa2 (0 : Int32) (3 : Int32)) ?_
 intro p e s m below meth c s₁ Bd hZ hh hx hby hml hown hnm X0 e0 pre0
 have N0 := Fr.nil n0
 obtain ⟨T1, X1, e1, st1⟩ := initO X0 hx hZ hown (w17_ hw) (w18_ hw) (w19_ hw) e0 (g := (mkF m 1 #[rv qa1, rv qa2, iv 0, iv 3, .val .null, .unset] [.ref qa1])) rfl hml.symm rfl (hb hby d2_1) (by decide) (W := 0) (own_hw rfl) (lE rfl)
 obtain ⟨T2, X2, e2, st2⟩ := getS2 X1 hx hZ hown (host := "") (Or.inl (w47_ hw)) Via.refl e1 (O2.ext X00.2) (g := (mkF m 27 #[rv qa1, rv qa2, iv 0, iv 3, .val .null, .unset] [])) rfl (hb hby d2_27)
 obtain ⟨_, T3, L3, X3, hQ3, st3⟩ := own_cS 2 9 [] 36 #[rv qa1, rv qa2, iv 0, iv 3, .val .null, .unset] X2 hx hZ hown (w72_ hw) (w73_ hw) (w74_ hw) (w75_ hw) (rm77 l Z a0 hw  qa2 qk3 qi4 qi5 qi6 h0 n0 X00 uS12 uS15 uS18 A_qa2 hc4 hr5 hr6 hr7) pd13 hml.symm (hb hby d2_36) e2 rfl rfl rfl rfl (by decide)
 obtain ⟨b8, c9_, rfl, N3q, K3q, w10, w11⟩ := hQ3
 have N3 := Fr.app N0 N3q
 have K12 := (Keep.refl h0 [qa1]).trans K3q (fun x q => nomatch q)
 have O14 := X00.keep K3q all0
 obtain ⟨_, T13, L13, X13, hQ13, st13⟩ := own_cS 2 9 [.ref qa1] 45 #[rv qa1, rv qa2, iv 0, iv 3, .val .null, rv b8] X3 hx hZ hown (w79_ hw) (w80_ hw) (w74_ hw) (w81_ hw) (rm78 l Z a0 hw  b8 c9_ ((((qi4 >>> ((0 : Int32) &&& 31)))).toInt8.toInt32) ((((qi4 >>> ((8 : Int32) &&& 31)))).toInt8.toInt32) ((((qi5 >>> ((0 : Int32) &&& 31)))).toInt8.toInt32) ((((qi5 >>> ((8 : Int32) &&& 31)))).toInt8.toInt32) ((((qi6 >>> ((0 : Int32) &&& 31)))).toInt8.toInt32) ((((qi6 >>> ((8 : Int32) &&& 31)))).toInt8.toInt32) T3.heap n0 O14 w11) pd15 hml.symm (hb hby d2_45) rfl rfl rfl rfl rfl (by decide)
 obtain ⟨rfl, N13q, e13q⟩ := hQ13
 have N13 := Fr.app N3 N13q
 have F15_ := F_qa1_coder.keep K3q nin0
 have E16_ := E_qa1.keep K3q
 obtain ⟨T17, h17, X17, e17, W17, st17⟩ := putF X13 hx hZ hown (host := "") (Or.inl (w27_ hw)) Via.refl e13q F15_ E16_ (Or.inr ⟨(w23_ hw), rfl, hnm⟩) (w7_ hw) (ty := .byte) (by decide) rfl rfl (g := (mkF m 48 #[rv qa1, rv qa2, iv 0, iv 3, .val .null, rv b8] [.int 1, .ref qa1])) rfl rfl (hb hby d2_48)
 have N17 := Fr.snoc X17 N13 g_qa1
 have K18 := K12.wr W17 (Or.inl (mI 0 rfl))
 have F19_ : Fld Z h17 qa1 "java/lang/String" "coder" "B" (.int 1) := F15_.same W17
 have F20_ := F_qa1_value.keep K3q nin0
 have F21_ := F20_.other W17 (Or.inr (slot_ne (Or.inr (w22_ hw)) (Or.inr (w23_ hw)) (by decide) (t := (.array .byte)) (t' := .byte) (by decide) (by decide)))
 have E22_ := E16_.wr W17
 obtain ⟨T23, h23, X23, e23, W23, st23⟩ := putF X17 hx hZ hown (host := "") (Or.inl (w26_ hw)) Via.refl e17 F21_ E22_ (Or.inr ⟨(w22_ hw), rfl, hnm⟩) (w7_ hw) (ty := (.array .byte)) (by decide) rfl rfl (g := (mkF m 54 #[rv qa1, rv qa2, iv 0, iv 3, .val .null, rv b8] [.ref b8, .ref qa1])) rfl rfl (hb hby d2_54)
 have N23 := Fr.snoc X23 N17 g_qa1
 have K24 := K18.wr W23 (Or.inl (mI 0 rfl))
 have F25_ : Fld Z h23 qa1 "java/lang/String" "value" "[B" (.ref b8) := F21_.same W23
 have sz_b8 : h0.size ≤ b8 := w10
 have E26_ := E22_.wr W23
 have F27_ := F19_.other W23 (Or.inr (slot_ne (Or.inr (w23_ hw)) (Or.inr (w22_ hw)) (by decide) (t := .byte) (t' := (.array .byte)) (by decide) (by decide)))
 have A28_ := w11.other W17 (Ne.symm (Nat.ne_of_lt (Nat.lt_of_lt_of_le E_qa1.lt w10)))
 have A29_ := A28_.other W23 (Ne.symm (Nat.ne_of_lt (Nat.lt_of_lt_of_le E_qa1.lt w10)))
 refine own_lvN X23 Bd e23 ⟨b8, c9_, rfl, N23, K24, sz_b8, E26_, F27_, F25_, A29_⟩ rfl (fun fs hr => pre0 _ (by
  show Sx p e below s₁ m 0 #[rv qa1, rv qa2, iv 0, iv 3, .val .null, .unset] [] _
  refine zb X0 Bd d2_0 rfl rfl ?_
  refine st1 _ ?_
  refine zj X1 Bd d2_4 rfl ?_
  refine zp (pc' := 27) X1 Bd d2_5 (XT.i0_ne_t ((by decide) : ¬ ((3 : Int32) = (0 : Int32)))) rfl ?_
  refine st2 _ ?_
  refine zo X2 Bd d2_30 (XT.i0_eq_f (P5 : ¬ (G1 = (0 : Int32)))) ?_
  refine zb X2 Bd d2_33 rfl rfl ?_
  refine zj X2 Bd d2_34 rfl ?_
  refine zj X2 Bd d2_35 rfl ?_
  refine st3 _ ?_
  refine XS.astore X3.here hx rfl (hb hby d2_39) rfl rfl (l' := #[rv qa1, rv qa2, iv 0, iv 3, .val .null, rv b8]) rfl ?_
  refine zb X3 Bd d2_41 rfl rfl ?_
  refine za X3 Bd d2_42 rfl rfl ?_
  refine zj X3 Bd d2_44 rfl ?_
  refine st13 _ ?_
  refine st17 _ ?_
  refine zb X17 Bd d2_51 rfl rfl ?_
  refine za X17 Bd d2_52 rfl rfl ?_
  refine st23 _ ?_
  exact X23.returnOut hx Bd.returns (hb hby d2_57) hr))
-- java/lang/String.<init>([C)V
def Q80 (Z : State) (qa1 : Addr) (qi4 : Int32) (qi5 : Int32) (qi6 : Int32) (h0 : Heap) (n0 : Nat) (v : Option Value) (h : Heap) (L : List Loc) : Prop := ∃ b7 : Addr, ∃ c8_ : ClassId, v = none ∧ Fr n0 L ∧ Keep h0 h [qa1] ∧ h0.size ≤ b7 ∧ Exa Z h qa1 "java/lang/String" ∧ Fld Z h qa1 "java/lang/String" "coder" "B" (.int 1) ∧ Fld Z h qa1 "java/lang/String" "value" "[B" (.ref b7) ∧ Arv Z h b7 c8_ .byte (6 : Int32) [(.int ((((qi4 >>> ((0 : Int32) &&& 31)))).toInt8.toInt32)), (.int ((((qi4 >>> ((8 : Int32) &&& 31)))).toInt8.toInt32)), (.int ((((qi5 >>> ((0 : Int32) &&& 31)))).toInt8.toInt32)), (.int ((((qi5 >>> ((8 : Int32) &&& 31)))).toInt8.toInt32)), (.int ((((qi6 >>> ((0 : Int32) &&& 31)))).toInt8.toInt32)), (.int ((((qi6 >>> ((8 : Int32) &&& 31)))).toInt8.toInt32))] (.int 0)
theorem rm80 (l : Launch) (Z : State) (a0 : Array Value) (hw : HW a0 Z) (G1 : Int32) (qa1 : Addr) (qa2 : Addr) (qk3 : ClassId) (qi4 : Int32) (qi5 : Int32) (qi6 : Int32) (h0 : Heap) (n0 : Nat) (X00 : Old Z n0 h0) (O2 : Sta Z Z.heap "java/lang/String" "COMPACT_STRINGS" "Z" (.int G1)) (P5 : ¬ (G1 = (0 : Int32))) (uS12 : Sta Z Z.heap "java/lang/StringUTF16" "$assertionsDisabled" "Z" (.int 1)) (uS15 : Sta Z Z.heap "java/lang/StringUTF16" "HI_BYTE_SHIFT" "I" (.int 0)) (uS18 : Sta Z Z.heap "java/lang/StringUTF16" "LO_BYTE_SHIFT" "I" (.int 8)) (A_qa2 : Arv Z h0 qa2 qk3 .char (3 : Int32) [.int qi4, .int qi5, .int qi6] (.int 0)) (hc3 : (255 : Int32) < (own_max ([qi4, qi5, qi6] : List Int32))) (hr4 : nar .char qi4 = qi4) (hr5 : nar .char qi5 = qi5) (hr6 : nar .char qi6 = qi6) (E_qa1 : Exa Z h0 qa1 "java/lang/String") (F_qa1_coder : Fld Z h0 qa1 "java/lang/String" "coder" "B" (.int 0)) (g_qa1 : n0 ≤ qa1) (F_qa1_value : Fld Z h0 qa1 "java/lang/String" "value" "[B" .null) :
    MF l Z Y2_ jdk_42_method_3_code 2 none (Rm 5 2 9 74) #[.ref qa1, .ref qa2] h0 (Q80 Z qa1 qi4 qi5 qi6 h0 n0) := by
 refine own_sF pn1 rfl (fun m => ef2 m qa1 qa2) ?_
 intro p e s m below meth c s₁ Bd hZ hh hx hby hml hown hnm X0 e0 pre0
 have N0 := Fr.nil n0
 have av1 := A_qa2
 obtain ⟨cl1, Ar1, q1, S1, N1, H1, Gf1⟩ := av1
 obtain ⟨_, T2, L2, X2, hQ2, st2⟩ := own_cI 2 9 [] 6 #[rv qa1, rv qa2] X0 hx hZ hown (w13_ hw) (w14_ hw) (w8_ hw) (w16_ hw) (rm79 l Z a0 hw G1 qa1 qa2 qk3 qi4 qi5 qi6 h0 n0 X00 O2 P5 uS12 uS15 uS18 A_qa2 hc3 hr4 hr5 hr6 E_qa1 F_qa1_coder g_qa1 F_qa1_value) pd1 hml.symm (hb hby d1_6) e0 rfl rfl rfl rfl rfl (by decide)
 obtain ⟨b7, c8_, rfl, N2q, K2q, w9, w10, w11, w12, w13⟩ := hQ2
 have N2 := Fr.app N0 N2q
 have K14 := (Keep.refl h0 [qa1]).trans K2q (allS (Or.inl (mI 0 rfl)) all0)
 have sz_b7 : h0.size ≤ b7 := w9
 have E15_ := E_qa1.keep K2q
 refine own_lvN X2 Bd rfl ⟨b7, c8_, rfl, N2, K14, sz_b7, E15_, w11, w12, w13⟩ rfl (fun fs hr => pre0 _ (by
  show Sx p e below s₁ m 0 #[rv qa1, rv qa2] [] _
  refine zb X0 Bd d1_0 rfl rfl ?_
  refine zb X0 Bd d1_1 rfl rfl ?_
  refine zc X0 Bd d1_2 ?_
  refine zb X0 Bd d1_3 rfl rfl ?_
  refine X0.arraylength hx (by rw [e0]; exact Ar1.1) (State.isArrayOf_alike hZ.alike Ar1.2.1) (g := (mkF m 4 #[rv qa1, rv qa2] [.ref qa2, .int 0, .ref qa2, .ref qa1])) rfl rfl (hb hby d1_4) _ ?_
  rw [len_of S1 N1]
  refine XS.aconstNull X0.here hx rfl (hb hby d1_5) ?_
  refine st2 _ ?_
  exact X2.returnOut hx Bd.returns (hb hby d1_9) hr))
-- java/lang/String.length()I
def Q81 (Z : State)  (h0 : Heap) (n0 : Nat) (v : Option Value) (h : Heap) (L : List Loc) : Prop := v = some (.int 3) ∧ Fr n0 L ∧ h = h0
theorem rm81 (l : Launch) (Z : State) (a0 : Array Value) (hw : HW a0 Z) (G1 : Int32) (qa1 : Addr) (qa2 : Addr) (qk3 : ClassId) (qi4 : Int32) (qi5 : Int32) (qi6 : Int32) (qi7 : Int32) (qi8 : Int32) (qi9 : Int32) (h0 : Heap) (n0 : Nat) (X00 : Old Z n0 h0) (O2 : Sta Z Z.heap "java/lang/String" "COMPACT_STRINGS" "Z" (.int G1)) (P5 : ¬ (G1 = (0 : Int32))) (F_qa1_value : Fld Z h0 qa1 "java/lang/String" "value" "[B" (.ref qa2)) (A_qa2 : Arv Z h0 qa2 qk3 .byte (6 : Int32) [.int qi4, .int qi5, .int qi6, .int qi7, .int qi8, .int qi9] (.int 0)) (E_qa1 : Exa Z h0 qa1 "java/lang/String") (F_qa1_coder : Fld Z h0 qa1 "java/lang/String" "coder" "B" (.int 1)) :
    MF l Z Y9_ jdk_42_method_54_code 1 (some .int) (Rm 1 0 0 13) #[.ref qa1] h0 (Q81 Z  h0 n0) := by
 refine own_sF pn1 rfl (fun m => ef4 m qa1) ?_
 intro p e s m below meth c s₁ Bd hZ hh hx hby hml hown hnm X0 e0 pre0
 have N0 := Fr.nil n0
 obtain ⟨T1, X1, e1, st1⟩ := getF X0 hx hZ hown (host := "") (Or.inl (w26_ hw)) Via.refl e0 F_qa1_value (g := (mkF m 1 #[rv qa1] [.ref qa1])) rfl rfl (hb hby d19_1)
 have av2 := A_qa2
 obtain ⟨cl2, Ar2, q2, S2, N2, H2, Gf2⟩ := av2
 obtain ⟨_, T3, L3, X3, hQ3, st3⟩ := own_cV 0 0 [.int 6] 6 #[rv qa1] X1 hx hZ hown E_qa1 (w53_ hw) (w54_ hw) (notFace_of_selects (args := #[]) (mvT hZ (w56_ hw))) (w56_ hw) (w55_ hw) (w8_ hw) (w57_ hw) (rm23 l Z a0 hw G1 qa1 h0 n0 X00 O2 P5 F_qa1_coder) pd16 hml.symm (hb hby d19_6) e1 rfl rfl rfl rfl (by decide)
 obtain ⟨rfl, N3q, e3q⟩ := hQ3
 have N3 := Fr.app N0 N3q
 refine own_lvF X3 Bd (.int 3) e3q ⟨rfl, N3, rfl⟩ rfl (fun fs hr => pre0 _ (by
  show Sx p e below s₁ m 0 #[rv qa1] [] _
  refine zb X0 Bd d19_0 rfl rfl ?_
  refine st1 _ ?_
  refine X1.arraylength hx (by rw [e1]; exact Ar2.1) (State.isArrayOf_alike hZ.alike Ar2.2.1) (g := (mkF m 4 #[rv qa1] [.ref qa2])) rfl rfl (hb hby d19_4) _ ?_
  rw [len_of S2 N2]
  refine zb X1 Bd d19_5 rfl rfl ?_
  refine st3 _ ?_
  refine XS.ishr X3.here hx rfl (hb hby d19_9) rfl ?_
  exact retI X3 hx Bd.returns (hb hby d19_10) hr))
-- java/lang/Math.min(II)I
def Q82 (Z : State)  (h0 : Heap) (n0 : Nat) (v : Option Value) (h : Heap) (L : List Loc) : Prop := v = some (.int 3) ∧ Fr n0 L ∧ h = h0
theorem rm82 (l : Launch) (Z : State) (a0 : Array Value) (hw : HW a0 Z)  (h0 : Heap) (n0 : Nat) (X00 : Old Z n0 h0)  :
    MF l Z Y6_ jdk_29_method_69_code 2 (some .int) (Rm 0 0 0 0) #[.int 3, .int 3] h0 (Q82 Z  h0 n0) := by
 refine own_sFm (K := "java/lang/Math") (by decide +kernel) rfl (fun m => ef9 m (3 : Int32) (3 : Int32)) ?_
 intro p e s m below meth c s₁ Bd hZ hh hx hby hml hown hnm X0 e0 pre0
 have N0 := Fr.nil n0
 refine own_lvF X0 Bd (.int 3) e0 ⟨rfl, N0, rfl⟩ rfl (fun fs hr => pre0 _ (by
  show Sx p e below s₁ m 0 #[iv 3, iv 3] [] _
  refine zj X0 Bd d10_0 rfl ?_
  refine zj X0 Bd d10_1 rfl ?_
  refine zn X0 Bd d10_2 (XT.ii_gt_f ((by decide) : ¬ ((3 : Int32) < (3 : Int32)))) ?_
  refine zj X0 Bd d10_5 rfl ?_
  refine zg (pc' := 10) X0 Bd d10_6 rfl ?_
  exact retI X0 hx Bd.returns (hb hby d10_10) hr))
-- java/lang/StringUTF16.length([B)I
def Q83 (Z : State)  (h0 : Heap) (n0 : Nat) (v : Option Value) (h : Heap) (L : List Loc) : Prop := v = some (.int 3) ∧ Fr n0 L ∧ h = h0
theorem rm83 (l : Launch) (Z : State) (a0 : Array Value) (hw : HW a0 Z) (qa1 : Addr) (qk2 : ClassId) (qi3 : Int32) (qi4 : Int32) (qi5 : Int32) (qi6 : Int32) (qi7 : Int32) (qi8 : Int32) (h0 : Heap) (n0 : Nat) (X00 : Old Z n0 h0) (A_qa1 : Arv Z h0 qa1 qk2 .byte (6 : Int32) [.int qi3, .int qi4, .int qi5, .int qi6, .int qi7, .int qi8] (.int 0)) :
    MF l Z Y21_ jdk_52_method_6_code 1 (some .int) (Rm 0 0 0 0) #[.ref qa1] h0 (Q83 Z  h0 n0) := by
 refine own_sF pn4 rfl (fun m => ef4 m qa1) ?_
 intro p e s m below meth c s₁ Bd hZ hh hx hby hml hown hnm X0 e0 pre0
 have N0 := Fr.nil n0
 have av1 := A_qa1
 obtain ⟨cl1, Ar1, q1, S1, N1, H1, Gf1⟩ := av1
 refine own_lvF X0 Bd (.int 3) e0 ⟨rfl, N0, rfl⟩ rfl (fun fs hr => pre0 _ (by
  show Sx p e below s₁ m 0 #[rv qa1] [] _
  refine zb X0 Bd d24_0 rfl rfl ?_
  refine X0.arraylength hx (by rw [e0]; exact Ar1.1) (State.isArrayOf_alike hZ.alike Ar1.2.1) (g := (mkF m 1 #[rv qa1] [.ref qa1])) rfl rfl (hb hby d24_1) _ ?_
  rw [len_of S1 N1]
  refine zc X0 Bd d24_2 ?_
  refine XS.ishr X0.here hx rfl (hb hby d24_3) rfl ?_
  exact retI X0 hx Bd.returns (hb hby d24_4) hr))
-- jdk/internal/util/Preconditions.checkFromToIndex(IIILjava/util/function/BiFunction;)I
def Q84 (Z : State)  (h0 : Heap) (n0 : Nat) (v : Option Value) (h : Heap) (L : List Loc) : Prop := v = some (.int 0) ∧ Fr n0 L ∧ h = h0
theorem rm84 (l : Launch) (Z : State) (a0 : Array Value) (hw : HW a0 Z) (G3 : Value) (h0 : Heap) (n0 : Nat) (X00 : Old Z n0 h0) (O4 : Sta Z Z.heap "jdk/internal/util/Preconditions" "SIOOBE_FORMATTER" "Ljava/util/function/BiFunction;" G3) (rG3 : G3.isRef = true) :
    MF l Z Y22_ jdk_41_method_12_code 4 (some .int) (Rm 0 0 0 0) #[.int 0, .int 3, .int 3, G3] h0 (Q84 Z  h0 n0) := by
 refine own_sF pn5 rfl (fun m => ef15 m (0 : Int32) (3 : Int32) (3 : Int32) G3 rG3) ?_
 intro p e s m below meth c s₁ Bd hZ hh hx hby hml hown hnm X0 e0 pre0
 have N0 := Fr.nil n0
 refine own_lvF X0 Bd (.int 0) e0 ⟨rfl, N0, rfl⟩ rfl (fun fs hr => pre0 _ (by
  show Sx p e below s₁ m 0 #[iv 0, iv 3, iv 3, .val G3] [] _
  refine zj X0 Bd d26_0 rfl ?_
  refine zo X0 Bd d26_1 (XT.i0_lt_f ((by decide) : ¬ ((0 : Int32) < (0 : Int32)))) ?_
  refine zj X0 Bd d26_4 rfl ?_
  refine zj X0 Bd d26_5 rfl ?_
  refine zn X0 Bd d26_6 (XT.ii_gt_f ((by decide) : ¬ ((3 : Int32) < (0 : Int32)))) ?_
  refine zj X0 Bd d26_9 rfl ?_
  refine zj X0 Bd d26_10 rfl ?_
  refine zy (pc' := 22) X0 Bd d26_11 (XT.ii_le_t ((by decide) : ¬ ((3 : Int32) < (3 : Int32)))) rfl ?_
  refine zj X0 Bd d26_22 rfl ?_
  exact retI X0 hx Bd.returns (hb hby d26_23) hr))
-- java/lang/String.checkBoundsBeginEnd(III)V
def Q85 (Z : State)  (h0 : Heap) (n0 : Nat) (v : Option Value) (h : Heap) (L : List Loc) : Prop := v = none ∧ Fr n0 L ∧ h = h0
theorem rm85 (l : Launch) (Z : State) (a0 : Array Value) (hw : HW a0 Z) (G3 : Value) (h0 : Heap) (n0 : Nat) (X00 : Old Z n0 h0) (O4 : Sta Z Z.heap "jdk/internal/util/Preconditions" "SIOOBE_FORMATTER" "Ljava/util/function/BiFunction;" G3) (rG3 : G3.isRef = true) :
    MF l Z Y23_ jdk_42_method_158_code 3 none (Rm 1 0 0 15) #[.int 0, .int 3, .int 3] h0 (Q85 Z  h0 n0) := by
 refine own_sF pn1 rfl (fun m => ef14 m (0 : Int32) (3 : Int32) (3 : Int32)) ?_
 intro p e s m below meth c s₁ Bd hZ hh hx hby hml hown hnm X0 e0 pre0
 have N0 := Fr.nil n0
 obtain ⟨T1, X1, e1, st1⟩ := getS2 X0 hx hZ hown (host := "") (Or.inl (w122_ hw)) Via.refl e0 (O4.ext X00.2) (g := (mkF m 3 #[iv 0, iv 3, iv 3] [.int 3, .int 3, .int 0])) rfl (hb hby d25_3)
 obtain ⟨_, T2, L2, X2, hQ2, st2⟩ := own_cS 0 0 [] 6 #[iv 0, iv 3, iv 3] X1 hx hZ hown (w124_ hw) (w125_ hw) (w123_ hw) (w126_ hw) (rm84 l Z a0 hw G3  h0 n0 X00 O4 rG3) pd18 hml.symm (hb hby d25_6) e1 rfl rfl rfl rfl (by decide)
 obtain ⟨rfl, N2q, e2q⟩ := hQ2
 have N2 := Fr.app N0 N2q
 refine own_lvN X2 Bd e2q ⟨rfl, N2, rfl⟩ rfl (fun fs hr => pre0 _ (by
  show Sx p e below s₁ m 0 #[iv 0, iv 3, iv 3] [] _
  refine zj X0 Bd d25_0 rfl ?_
  refine zj X0 Bd d25_1 rfl ?_
  refine zj X0 Bd d25_2 rfl ?_
  refine st1 _ ?_
  refine st2 _ ?_
  refine XS.pop X2.here hx rfl (hb hby d25_9) rfl rfl ?_
  exact X2.returnOut hx Bd.returns (hb hby d25_10) hr))
-- java/lang/StringUTF16.checkBoundsBeginEnd(II[B)V
def Q86 (Z : State)  (h0 : Heap) (n0 : Nat) (v : Option Value) (h : Heap) (L : List Loc) : Prop := v = none ∧ Fr n0 L ∧ h = h0
theorem rm86 (l : Launch) (Z : State) (a0 : Array Value) (hw : HW a0 Z) (G3 : Value) (qa1 : Addr) (qk2 : ClassId) (qi3 : Int32) (qi4 : Int32) (qi5 : Int32) (qi6 : Int32) (qi7 : Int32) (qi8 : Int32) (h0 : Heap) (n0 : Nat) (X00 : Old Z n0 h0) (O4 : Sta Z Z.heap "jdk/internal/util/Preconditions" "SIOOBE_FORMATTER" "Ljava/util/function/BiFunction;" G3) (rG3 : G3.isRef = true) (A_qa1 : Arv Z h0 qa1 qk2 .byte (6 : Int32) [.int qi3, .int qi4, .int qi5, .int qi6, .int qi7, .int qi8] (.int 0)) :
    MF l Z Y24_ jdk_52_method_93_code 3 none (Rm 2 0 0 29) #[.int 0, .int 3, .ref qa1] h0 (Q86 Z  h0 n0) := by
 refine own_sF pn4 rfl (fun m => ef13 m (0 : Int32) (3 : Int32) qa1) ?_
 intro p e s m below meth c s₁ Bd hZ hh hx hby hml hown hnm X0 e0 pre0
 have N0 := Fr.nil n0
 obtain ⟨_, T1, L1, X1, hQ1, st1⟩ := own_cS 0 0 [.int 3, .int 0] 3 #[iv 0, iv 3, rv qa1] X0 hx hZ hown (w116_ hw) (w117_ hw) (w74_ hw) (w118_ hw) (rm83 l Z a0 hw  qa1 qk2 qi3 qi4 qi5 qi6 qi7 qi8 h0 n0 X00 A_qa1) pd17 hml.symm (hb hby d23_3) e0 rfl rfl rfl rfl (by decide)
 obtain ⟨rfl, N1q, e1q⟩ := hQ1
 have N1 := Fr.app N0 N1q
 obtain ⟨_, T2, L2, X2, hQ2, st2⟩ := own_cS 0 0 [] 6 #[iv 0, iv 3, rv qa1] X1 hx hZ hown (w119_ hw) (w120_ hw) (w8_ hw) (w121_ hw) (rm85 l Z a0 hw G3  h0 n0 X00 O4 rG3) pd19 hml.symm (hb hby d23_6) e1q rfl rfl rfl rfl (by decide)
 obtain ⟨rfl, N2q, e2q⟩ := hQ2
 have N2 := Fr.app N1 N2q
 refine own_lvN X2 Bd e2q ⟨rfl, N2, rfl⟩ rfl (fun fs hr => pre0 _ (by
  show Sx p e below s₁ m 0 #[iv 0, iv 3, rv qa1] [] _
  refine zj X0 Bd d23_0 rfl ?_
  refine zj X0 Bd d23_1 rfl ?_
  refine zb X0 Bd d23_2 rfl rfl ?_
  refine st1 _ ?_
  refine st2 _ ?_
  exact X2.returnOut hx Bd.returns (hb hby d23_9) hr))
-- java/lang/StringUTF16.indexOfCharUnsafe([BIII)I
def Q87 (Z : State) (qi2 : Int32) (qi4 : Int32) (qi5 : Int32) (qi6 : Int32) (qi7 : Int32) (qi8 : Int32) (qi9 : Int32) (h0 : Heap) (n0 : Nat) (v : Option Value) (h : Heap) (L : List Loc) : Prop := v = some (.int (own_ix qi2 (own_L3 qi4 qi5 qi6 qi7 qi8 qi9) (0 : Int32))) ∧ Fr n0 L ∧ h = h0
theorem rm87 (l : Launch) (Z : State) (a0 : Array Value) (hw : HW a0 Z) (qa1 : Addr) (qi2 : Int32) (qk3 : ClassId) (qi4 : Int32) (qi5 : Int32) (qi6 : Int32) (qi7 : Int32) (qi8 : Int32) (qi9 : Int32) (h0 : Heap) (n0 : Nat) (X00 : Old Z n0 h0) (uS12 : Sta Z Z.heap "java/lang/StringUTF16" "$assertionsDisabled" "Z" (.int 1)) (uS15 : Sta Z Z.heap "java/lang/StringUTF16" "HI_BYTE_SHIFT" "I" (.int 0)) (uS18 : Sta Z Z.heap "java/lang/StringUTF16" "LO_BYTE_SHIFT" "I" (.int 8)) (A_qa1 : Arv Z h0 qa1 qk3 .byte (6 : Int32) [.int qi4, .int qi5, .int qi6, .int qi7, .int qi8, .int qi9] (.int 0)) :
    MF l Z Y25_ jdk_52_method_48_code 5 (some .int) (Rm 1 0 0 13) #[.ref qa1, .int qi2, .int 0, .int 3] h0 (Q87 Z qi2 qi4 qi5 qi6 qi7 qi8 qi9 h0 n0) := by
 refine own_sF pn4 rfl (fun m => ef16 m qa1 qi2 (0 : Int32) (3 : Int32)) ?_
 intro p e s m below meth c s₁ Bd hZ hh hx hby hml hown hnm X0 e0 pre0
 have N0 := Fr.nil n0
 obtain ⟨_, T1, L1, X1, hQ1, st1⟩ := own_cS 0 0 [] 12 #[rv qa1, iv qi2, iv 0, iv 3, iv 0] X0 hx hZ hown (w101_ hw) (w102_ hw) (w74_ hw) (w103_ hw) (rm74 l Z a0 hw  qa1 (0 : Int32) qk3 qi4 qi5 qi6 qi7 qi8 qi9 h0 n0 X00 uS12 uS15 uS18 A_qa1 (by decide) (by decide)) pd14 hml.symm (hb hby d27_12) e0 rfl rfl rfl rfl (by decide)
 obtain ⟨rfl, N1q, e1q⟩ := hQ1
 have N1 := Fr.app N0 N1q
 have pr2 : Pr p e below T1 m 16 #[rv qa1, iv qi2, iv 0, iv 3, iv 0] [.int qi2, (.int ((((((qi4 &&& (255 : Int32)) <<< ((0 : Int32) &&& 31))) ||| (((qi5 &&& (255 : Int32)) <<< ((8 : Int32) &&& 31))))).toUInt32.toUInt16.toUInt32.toInt32))] s₁ (entryFrame m #[.ref qa1, .int qi2, .int 0, .int 3] 5) := fun t k => pre0 t (by
  show Sx p e below s₁ m 0 #[rv qa1, iv qi2, iv 0, iv 3, .unset] [] _
  refine zj X0 Bd d27_0 rfl ?_
  refine zs X0 Bd d27_1 (l' := #[rv qa1, iv qi2, iv 0, iv 3, iv 0]) rfl ?_
  refine zi X0 Bd d27_3 rfl ?_
  refine zj X0 Bd d27_5 rfl ?_
  refine zn X0 Bd d27_6 (XT.ii_ge_f ((by decide) : (0 : Int32) < (3 : Int32))) ?_
  refine zb X0 Bd d27_9 rfl rfl ?_
  refine zi X0 Bd d27_10 rfl ?_
  refine st1 _ ?_
  refine zj X1 Bd d27_15 rfl ?_
  exact k)
 by_cases hc3 : ((((((qi4 &&& (255 : Int32)) <<< ((0 : Int32) &&& 31))) ||| (((qi5 &&& (255 : Int32)) <<< ((8 : Int32) &&& 31))))).toUInt32.toUInt16.toUInt32.toInt32) = qi2
 ·
  skip
  refine own_lvF X1 Bd (.int 0) e1q ⟨(by rw [own_ix, if_pos hc3] <;> rfl), N1, rfl⟩ rfl (fun fs hr => pr2 _ (by
   show Sx p e below T1 m 16 #[rv qa1, iv qi2, iv 0, iv 3, iv 0] [.int qi2, (.int ((((((qi4 &&& (255 : Int32)) <<< ((0 : Int32) &&& 31))) ||| (((qi5 &&& (255 : Int32)) <<< ((8 : Int32) &&& 31))))).toUInt32.toUInt16.toUInt32.toInt32))] _
   refine zn X1 Bd d27_16 (XT.ii_ne_f (hc3 : ((((((qi4 &&& (255 : Int32)) <<< ((0 : Int32) &&& 31))) ||| (((qi5 &&& (255 : Int32)) <<< ((8 : Int32) &&& 31))))).toUInt32.toUInt16.toUInt32.toInt32) = qi2)) ?_
   refine zi X1 Bd d27_19 rfl ?_
   exact retI X1 hx Bd.returns (hb hby d27_21) hr))
 ·
  skip
  obtain ⟨_, T4, L4, X4, hQ4, st4⟩ := own_cS 0 0 [] 12 #[rv qa1, iv qi2, iv 0, iv 3, iv 1] X1 hx hZ hown (w101_ hw) (w102_ hw) (w74_ hw) (w103_ hw) (rm74 l Z a0 hw  qa1 (1 : Int32) qk3 qi4 qi5 qi6 qi7 qi8 qi9 h0 n0 X00 uS12 uS15 uS18 A_qa1 (by decide) (by decide)) pd14 hml.symm (hb hby d27_12) e1q rfl rfl rfl rfl (by decide)
  obtain ⟨rfl, N4q, e4q⟩ := hQ4
  have N4 := Fr.app N1 N4q
  have pr5 : Pr p e below T4 m 16 #[rv qa1, iv qi2, iv 0, iv 3, iv 1] [.int qi2, (.int ((((((qi6 &&& (255 : Int32)) <<< ((0 : Int32) &&& 31))) ||| (((qi7 &&& (255 : Int32)) <<< ((8 : Int32) &&& 31))))).toUInt32.toUInt16.toUInt32.toInt32))] s₁ (entryFrame m #[.ref qa1, .int qi2, .int 0, .int 3] 5) := fun t k => pr2 t (by
   show Sx p e below T1 m 16 #[rv qa1, iv qi2, iv 0, iv 3, iv 0] [.int qi2, (.int ((((((qi4 &&& (255 : Int32)) <<< ((0 : Int32) &&& 31))) ||| (((qi5 &&& (255 : Int32)) <<< ((8 : Int32) &&& 31))))).toUInt32.toUInt16.toUInt32.toInt32))] _
   refine zy (pc' := 22) X1 Bd d27_16 (XT.ii_ne_t (hc3 : ¬ (((((((qi4 &&& (255 : Int32)) <<< ((0 : Int32) &&& 31))) ||| (((qi5 &&& (255 : Int32)) <<< ((8 : Int32) &&& 31))))).toUInt32.toUInt16.toUInt32.toInt32) = qi2))) rfl ?_
   refine XS.iinc X1.here hx rfl (hb hby d27_22) rfl (l' := #[rv qa1, iv qi2, iv 0, iv 3, iv 1]) rfl ?_
   refine zg (pc' := 3) X1 Bd d27_25 rfl ?_
   refine zi X1 Bd d27_3 rfl ?_
   refine zj X1 Bd d27_5 rfl ?_
   refine zn X1 Bd d27_6 (XT.ii_ge_f ((by decide) : (1 : Int32) < (3 : Int32))) ?_
   refine zb X1 Bd d27_9 rfl rfl ?_
   refine zi X1 Bd d27_10 rfl ?_
   refine st4 _ ?_
   refine zj X4 Bd d27_15 rfl ?_
   exact k)
  by_cases hc6 : ((((((qi6 &&& (255 : Int32)) <<< ((0 : Int32) &&& 31))) ||| (((qi7 &&& (255 : Int32)) <<< ((8 : Int32) &&& 31))))).toUInt32.toUInt16.toUInt32.toInt32) = qi2
  ·
   skip
   refine own_lvF X4 Bd (.int 1) e4q ⟨(by rw [own_ix, if_neg hc3, own_ix, if_pos hc6] <;> rfl), N4, rfl⟩ rfl (fun fs hr => pr5 _ (by
    show Sx p e below T4 m 16 #[rv qa1, iv qi2, iv 0, iv 3, iv 1] [.int qi2, (.int ((((((qi6 &&& (255 : Int32)) <<< ((0 : Int32) &&& 31))) ||| (((qi7 &&& (255 : Int32)) <<< ((8 : Int32) &&& 31))))).toUInt32.toUInt16.toUInt32.toInt32))] _
    refine zn X4 Bd d27_16 (XT.ii_ne_f (hc6 : ((((((qi6 &&& (255 : Int32)) <<< ((0 : Int32) &&& 31))) ||| (((qi7 &&& (255 : Int32)) <<< ((8 : Int32) &&& 31))))).toUInt32.toUInt16.toUInt32.toInt32) = qi2)) ?_
    refine zi X4 Bd d27_19 rfl ?_
    exact retI X4 hx Bd.returns (hb hby d27_21) hr))
  ·
   skip
   obtain ⟨_, T7, L7, X7, hQ7, st7⟩ := own_cS 0 0 [] 12 #[rv qa1, iv qi2, iv 0, iv 3, iv 2] X4 hx hZ hown (w101_ hw) (w102_ hw) (w74_ hw) (w103_ hw) (rm74 l Z a0 hw  qa1 (2 : Int32) qk3 qi4 qi5 qi6 qi7 qi8 qi9 h0 n0 X00 uS12 uS15 uS18 A_qa1 (by decide) (by decide)) pd14 hml.symm (hb hby d27_12) e4q rfl rfl rfl rfl (by decide)
   obtain ⟨rfl, N7q, e7q⟩ := hQ7
   have N7 := Fr.app N4 N7q
   have pr8 : Pr p e below T7 m 16 #[rv qa1, iv qi2, iv 0, iv 3, iv 2] [.int qi2, (.int ((((((qi8 &&& (255 : Int32)) <<< ((0 : Int32) &&& 31))) ||| (((qi9 &&& (255 : Int32)) <<< ((8 : Int32) &&& 31))))).toUInt32.toUInt16.toUInt32.toInt32))] s₁ (entryFrame m #[.ref qa1, .int qi2, .int 0, .int 3] 5) := fun t k => pr5 t (by
    show Sx p e below T4 m 16 #[rv qa1, iv qi2, iv 0, iv 3, iv 1] [.int qi2, (.int ((((((qi6 &&& (255 : Int32)) <<< ((0 : Int32) &&& 31))) ||| (((qi7 &&& (255 : Int32)) <<< ((8 : Int32) &&& 31))))).toUInt32.toUInt16.toUInt32.toInt32))] _
    refine zy (pc' := 22) X4 Bd d27_16 (XT.ii_ne_t (hc6 : ¬ (((((((qi6 &&& (255 : Int32)) <<< ((0 : Int32) &&& 31))) ||| (((qi7 &&& (255 : Int32)) <<< ((8 : Int32) &&& 31))))).toUInt32.toUInt16.toUInt32.toInt32) = qi2))) rfl ?_
    refine XS.iinc X4.here hx rfl (hb hby d27_22) rfl (l' := #[rv qa1, iv qi2, iv 0, iv 3, iv 2]) rfl ?_
    refine zg (pc' := 3) X4 Bd d27_25 rfl ?_
    refine zi X4 Bd d27_3 rfl ?_
    refine zj X4 Bd d27_5 rfl ?_
    refine zn X4 Bd d27_6 (XT.ii_ge_f ((by decide) : (2 : Int32) < (3 : Int32))) ?_
    refine zb X4 Bd d27_9 rfl rfl ?_
    refine zi X4 Bd d27_10 rfl ?_
    refine st7 _ ?_
    refine zj X7 Bd d27_15 rfl ?_
    exact k)
   by_cases hc9 : ((((((qi8 &&& (255 : Int32)) <<< ((0 : Int32) &&& 31))) ||| (((qi9 &&& (255 : Int32)) <<< ((8 : Int32) &&& 31))))).toUInt32.toUInt16.toUInt32.toInt32) = qi2
   ·
    skip
    refine own_lvF X7 Bd (.int 2) e7q ⟨(by rw [own_ix, if_neg hc3, own_ix, if_neg hc6, own_ix, if_pos hc9] <;> rfl), N7, rfl⟩ rfl (fun fs hr => pr8 _ (by
     show Sx p e below T7 m 16 #[rv qa1, iv qi2, iv 0, iv 3, iv 2] [.int qi2, (.int ((((((qi8 &&& (255 : Int32)) <<< ((0 : Int32) &&& 31))) ||| (((qi9 &&& (255 : Int32)) <<< ((8 : Int32) &&& 31))))).toUInt32.toUInt16.toUInt32.toInt32))] _
     refine zn X7 Bd d27_16 (XT.ii_ne_f (hc9 : ((((((qi8 &&& (255 : Int32)) <<< ((0 : Int32) &&& 31))) ||| (((qi9 &&& (255 : Int32)) <<< ((8 : Int32) &&& 31))))).toUInt32.toUInt16.toUInt32.toInt32) = qi2)) ?_
     refine zi X7 Bd d27_19 rfl ?_
     exact retI X7 hx Bd.returns (hb hby d27_21) hr))
   ·
    skip
    refine own_lvF X7 Bd (.int (-1 : Int32)) e7q ⟨(by rw [own_ix, if_neg hc3, own_ix, if_neg hc6, own_ix, if_neg hc9, own_ix] <;> rfl), N7, rfl⟩ rfl (fun fs hr => pr8 _ (by
     show Sx p e below T7 m 16 #[rv qa1, iv qi2, iv 0, iv 3, iv 2] [.int qi2, (.int ((((((qi8 &&& (255 : Int32)) <<< ((0 : Int32) &&& 31))) ||| (((qi9 &&& (255 : Int32)) <<< ((8 : Int32) &&& 31))))).toUInt32.toUInt16.toUInt32.toInt32))] _
     refine zy (pc' := 22) X7 Bd d27_16 (XT.ii_ne_t (hc9 : ¬ (((((((qi8 &&& (255 : Int32)) <<< ((0 : Int32) &&& 31))) ||| (((qi9 &&& (255 : Int32)) <<< ((8 : Int32) &&& 31))))).toUInt32.toUInt16.toUInt32.toInt32) = qi2))) rfl ?_
     refine XS.iinc X7.here hx rfl (hb hby d27_22) rfl (l' := #[rv qa1, iv qi2, iv 0, iv 3, iv 3]) rfl ?_
     refine zg (pc' := 3) X7 Bd d27_25 rfl ?_
     refine zi X7 Bd d27_3 rfl ?_
     refine zj X7 Bd d27_5 rfl ?_
     refine zy (pc' := 28) X7 Bd d27_6 (XT.ii_ge_t ((by decide) : ¬ ((3 : Int32) < (3 : Int32)))) rfl ?_
     refine zc X7 Bd d27_28 ?_
     exact retI X7 hx Bd.returns (hb hby d27_29) hr))
-- java/lang/StringUTF16.indexOfChar([BIII)I
def Q88 (Z : State) (qi2 : Int32) (qi4 : Int32) (qi5 : Int32) (qi6 : Int32) (qi7 : Int32) (qi8 : Int32) (qi9 : Int32) (h0 : Heap) (n0 : Nat) (v : Option Value) (h : Heap) (L : List Loc) : Prop := v = some (.int (own_ix qi2 (own_L3 qi4 qi5 qi6 qi7 qi8 qi9) (0 : Int32))) ∧ Fr n0 L ∧ h = h0
theorem rm88 (l : Launch) (Z : State) (a0 : Array Value) (hw : HW a0 Z) (G3 : Value) (qa1 : Addr) (qi2 : Int32) (qk3 : ClassId) (qi4 : Int32) (qi5 : Int32) (qi6 : Int32) (qi7 : Int32) (qi8 : Int32) (qi9 : Int32) (h0 : Heap) (n0 : Nat) (X00 : Old Z n0 h0) (O4 : Sta Z Z.heap "jdk/internal/util/Preconditions" "SIOOBE_FORMATTER" "Ljava/util/function/BiFunction;" G3) (rG3 : G3.isRef = true) (uS12 : Sta Z Z.heap "java/lang/StringUTF16" "$assertionsDisabled" "Z" (.int 1)) (uS15 : Sta Z Z.heap "java/lang/StringUTF16" "HI_BYTE_SHIFT" "I" (.int 0)) (uS18 : Sta Z Z.heap "java/lang/StringUTF16" "LO_BYTE_SHIFT" "I" (.int 8)) (A_qa1 : Arv Z h0 qa1 qk3 .byte (6 : Int32) [.int qi4, .int qi5, .int qi6, .int qi7, .int qi8, .int qi9] (.int 0)) :
    MF l Z Y26_ jdk_52_method_47_code 4 (some .int) (Rm 3 0 0 43) #[.ref qa1, .int qi2, .int 0, .int 3] h0 (Q88 Z qi2 qi4 qi5 qi6 qi7 qi8 qi9 h0 n0) := by
 refine own_sF pn4 rfl (fun m => ef7 m qa1 qi2 (0 : Int32) (3 : Int32)) ?_
 intro p e s m below meth c s₁ Bd hZ hh hx hby hml hown hnm X0 e0 pre0
 have N0 := Fr.nil n0
 obtain ⟨_, T1, L1, X1, hQ1, st1⟩ := own_cS 0 0 [] 3 #[rv qa1, iv qi2, iv 0, iv 3] X0 hx hZ hown (w113_ hw) (w114_ hw) (w74_ hw) (w115_ hw) (rm86 l Z a0 hw G3 qa1 qk3 qi4 qi5 qi6 qi7 qi8 qi9 h0 n0 X00 O4 rG3 A_qa1) pd20 hml.symm (hb hby d22_3) e0 rfl rfl rfl rfl (by decide)
 obtain ⟨rfl, N1q, e1q⟩ := hQ1
 have N1 := Fr.app N0 N1q
 obtain ⟨_, T2, L2, X2, hQ2, st2⟩ := own_cS 0 0 [] 10 #[rv qa1, iv qi2, iv 0, iv 3] X1 hx hZ hown (w127_ hw) (w128_ hw) (w74_ hw) (w129_ hw) (rm87 l Z a0 hw  qa1 qi2 qk3 qi4 qi5 qi6 qi7 qi8 qi9 h0 n0 X00 uS12 uS15 uS18 A_qa1) pd7 hml.symm (hb hby d22_10) e1q rfl rfl rfl rfl (by decide)
 obtain ⟨rfl, N2q, e2q⟩ := hQ2
 have N2 := Fr.app N1 N2q
 refine own_lvF X2 Bd (.int (own_ix qi2 (own_L3 qi4 qi5 qi6 qi7 qi8 qi9) (0 : Int32))) e2q ⟨rfl, N2, rfl⟩ rfl (fun fs hr => pre0 _ (by
  show Sx p e below s₁ m 0 #[rv qa1, iv qi2, iv 0, iv 3] [] _
  refine zj X0 Bd d22_0 rfl ?_
  refine zj X0 Bd d22_1 rfl ?_
  refine zb X0 Bd d22_2 rfl rfl ?_
  refine st1 _ ?_
  refine zb X1 Bd d22_6 rfl rfl ?_
  refine zj X1 Bd d22_7 rfl ?_
  refine zj X1 Bd d22_8 rfl ?_
  refine zj X1 Bd d22_9 rfl ?_
  refine st2 _ ?_
  exact retI X2 hx Bd.returns (hb hby d22_13) hr))
-- java/lang/StringUTF16.indexOf([BIII)I
def Q89 (Z : State) (qi2 : Int32) (qi4 : Int32) (qi5 : Int32) (qi6 : Int32) (qi7 : Int32) (qi8 : Int32) (qi9 : Int32) (h0 : Heap) (n0 : Nat) (v : Option Value) (h : Heap) (L : List Loc) : Prop := v = some (.int (own_ix qi2 (own_L3 qi4 qi5 qi6 qi7 qi8 qi9) (0 : Int32))) ∧ Fr n0 L ∧ h = h0
theorem rm89 (l : Launch) (Z : State) (a0 : Array Value) (hw : HW a0 Z) (G3 : Value) (qa1 : Addr) (qi2 : Int32) (qk3 : ClassId) (qi4 : Int32) (qi5 : Int32) (qi6 : Int32) (qi7 : Int32) (qi8 : Int32) (qi9 : Int32) (h0 : Heap) (n0 : Nat) (X00 : Old Z n0 h0) (O4 : Sta Z Z.heap "jdk/internal/util/Preconditions" "SIOOBE_FORMATTER" "Ljava/util/function/BiFunction;" G3) (rG3 : G3.isRef = true) (uS12 : Sta Z Z.heap "java/lang/StringUTF16" "$assertionsDisabled" "Z" (.int 1)) (uS15 : Sta Z Z.heap "java/lang/StringUTF16" "HI_BYTE_SHIFT" "I" (.int 0)) (uS18 : Sta Z Z.heap "java/lang/StringUTF16" "LO_BYTE_SHIFT" "I" (.int 8)) (A_qa1 : Arv Z h0 qa1 qk3 .byte (6 : Int32) [.int qi4, .int qi5, .int qi6, .int qi7, .int qi8, .int qi9] (.int 0)) (hc4 : qi2 < (65536 : Int32)) :
    MF l Z Y27_ jdk_52_method_40_code 4 (some .int) (Rm 4 0 0 58) #[.ref qa1, .int qi2, .int 0, .int 3] h0 (Q89 Z qi2 qi4 qi5 qi6 qi7 qi8 qi9 h0 n0) := by
 refine own_sF pn4 rfl (fun m => ef7 m qa1 qi2 (0 : Int32) (3 : Int32)) ?_
 intro p e s m below meth c s₁ Bd hZ hh hx hby hml hown hnm X0 e0 pre0
 have N0 := Fr.nil n0
 obtain ⟨_, T1, L1, X1, hQ1, st1⟩ := own_cS 0 0 [] 2 #[rv qa1, iv qi2, iv 0, iv 3] X0 hx hZ hown (w107_ hw) (w66_ hw) (w67_ hw) (w68_ hw) (rm6 l Z a0 hw   h0 n0 X00 ) pd6 hml.symm (hb hby d21_2) e0 rfl rfl rfl rfl (by decide)
 obtain ⟨rfl, N1q, e1q⟩ := hQ1
 have N1 := Fr.app N0 N1q
 have av2 := A_qa1
 obtain ⟨cl2, Ar2, q2, S2, N2, H2, Gf2⟩ := av2
 obtain ⟨_, T3, L3, X3, hQ3, st3⟩ := own_cS 0 0 [] 11 #[rv qa1, iv qi2, iv 0, iv 3] X1 hx hZ hown (w108_ hw) (w70_ hw) (w67_ hw) (w71_ hw) (rm82 l Z a0 hw   h0 n0 X00 ) pd6 hml.symm (hb hby d21_11) e1q rfl rfl rfl rfl (by decide)
 obtain ⟨rfl, N3q, e3q⟩ := hQ3
 have N3 := Fr.app N1 N3q
 obtain ⟨_, T5, L5, X5, hQ5, st5⟩ := own_cS 0 0 [] 32 #[rv qa1, iv qi2, iv 0, iv 3] X3 hx hZ hown (w110_ hw) (w111_ hw) (w74_ hw) (w112_ hw) (rm88 l Z a0 hw G3 qa1 qi2 qk3 qi4 qi5 qi6 qi7 qi8 qi9 h0 n0 X00 O4 rG3 uS12 uS15 uS18 A_qa1) pd7 hml.symm (hb hby d21_32) e3q rfl rfl rfl rfl (by decide)
 obtain ⟨rfl, N5q, e5q⟩ := hQ5
 have N5 := Fr.app N3 N5q
 refine own_lvF X5 Bd (.int (own_ix qi2 (own_L3 qi4 qi5 qi6 qi7 qi8 qi9) (0 : Int32))) e5q ⟨rfl, N5, rfl⟩ rfl (fun fs hr => pre0 _ (by
  show Sx p e below s₁ m 0 #[rv qa1, iv qi2, iv 0, iv 3] [] _
  refine zj X0 Bd d21_0 rfl ?_
  refine zc X0 Bd d21_1 ?_
  refine st1 _ ?_
  refine zt X1 Bd d21_5 (l' := #[rv qa1, iv qi2, iv 0, iv 3]) rfl ?_
  refine zj X1 Bd d21_6 rfl ?_
  refine zb X1 Bd d21_7 rfl rfl ?_
  refine X1.arraylength hx (by rw [e1q]; exact Ar2.1) (State.isArrayOf_alike hZ.alike Ar2.2.1) (g := (mkF m 8 #[rv qa1, iv qi2, iv 0, iv 3] [.ref qa1, .int 3])) rfl rfl (hb hby d21_8) _ ?_
  rw [len_of S2 N2]
  refine zc X1 Bd d21_9 ?_
  refine XS.ishr X1.here hx rfl (hb hby d21_10) rfl ?_
  refine st3 _ ?_
  refine zt X3 Bd d21_14 (l' := #[rv qa1, iv qi2, iv 0, iv 3]) rfl ?_
  refine zj X3 Bd d21_15 rfl ?_
  refine zj X3 Bd d21_16 rfl ?_
  refine zy (pc' := 22) X3 Bd d21_17 (XT.ii_lt_t ((by decide) : (0 : Int32) < (3 : Int32))) rfl ?_
  refine zj X3 Bd d21_22 rfl ?_
  refine X3.ldcInt hx hown (mvT hZ (w109_ hw)) (g := (mkF m 23 #[rv qa1, iv qi2, iv 0, iv 3] [.int qi2])) rfl (hb hby d21_23) _ ?_
  refine zn X3 Bd d21_25 (XT.ii_ge_f (hc4 : qi2 < (65536 : Int32))) ?_
  refine zb X3 Bd d21_28 rfl rfl ?_
  refine zj X3 Bd d21_29 rfl ?_
  refine zj X3 Bd d21_30 rfl ?_
  refine zj X3 Bd d21_31 rfl ?_
  refine st5 _ ?_
  exact retI X5 hx Bd.returns (hb hby d21_35) hr))
-- java/lang/String.indexOf(II)I
def Q90 (Z : State) (qi2 : Int32) (qi5 : Int32) (qi6 : Int32) (qi7 : Int32) (qi8 : Int32) (qi9 : Int32) (qi10 : Int32) (h0 : Heap) (n0 : Nat) (v : Option Value) (h : Heap) (L : List Loc) : Prop := v = some (.int (own_ix qi2 (own_L3 qi5 qi6 qi7 qi8 qi9 qi10) (0 : Int32))) ∧ Fr n0 L ∧ h = h0
theorem rm90 (l : Launch) (Z : State) (a0 : Array Value) (hw : HW a0 Z) (G1 : Int32) (G3 : Value) (qa1 : Addr) (qi2 : Int32) (qa3 : Addr) (qk4 : ClassId) (qi5 : Int32) (qi6 : Int32) (qi7 : Int32) (qi8 : Int32) (qi9 : Int32) (qi10 : Int32) (h0 : Heap) (n0 : Nat) (X00 : Old Z n0 h0) (O2 : Sta Z Z.heap "java/lang/String" "COMPACT_STRINGS" "Z" (.int G1)) (P5 : ¬ (G1 = (0 : Int32))) (O4 : Sta Z Z.heap "jdk/internal/util/Preconditions" "SIOOBE_FORMATTER" "Ljava/util/function/BiFunction;" G3) (rG3 : G3.isRef = true) (uS12 : Sta Z Z.heap "java/lang/StringUTF16" "$assertionsDisabled" "Z" (.int 1)) (uS15 : Sta Z Z.heap "java/lang/StringUTF16" "HI_BYTE_SHIFT" "I" (.int 0)) (uS18 : Sta Z Z.heap "java/lang/StringUTF16" "LO_BYTE_SHIFT" "I" (.int 8)) (E_qa1 : Exa Z h0 qa1 "java/lang/String") (F_qa1_coder : Fld Z h0 qa1 "java/lang/String" "coder" "B" (.int 1)) (F_qa1_value : Fld Z h0 qa1 "java/lang/String" "value" "[B" (.ref qa3)) (A_qa3 : Arv Z h0 qa3 qk4 .byte (6 : Int32) [.int qi5, .int qi6, .int qi7, .int qi8, .int qi9, .int qi10] (.int 0)) (hc5 : qi2 < (65536 : Int32)) :
    MF l Z Y8_ jdk_42_method_80_code 3 (some .int) (Rm 5 0 0 73) #[.ref qa1, .int qi2, .int 0] h0 (Q90 Z qi2 qi5 qi6 qi7 qi8 qi9 qi10 h0 n0) := by
 refine own_sF pn1 rfl (fun m => ef6 m qa1 qi2 (0 : Int32)) ?_
 intro p e s m below meth c s₁ Bd hZ hh hx hby hml hown hnm X0 e0 pre0
 have N0 := Fr.nil n0
 obtain ⟨_, T1, L1, X1, hQ1, st1⟩ := own_cV 0 0 [] 1 #[rv qa1, iv qi2, iv 0] X0 hx hZ hown E_qa1 (w42_ hw) (w43_ hw) (notFace_of_selects (args := #[]) (mvT hZ (w45_ hw))) (w45_ hw) (w44_ hw) (w8_ hw) (w46_ hw) (rm22 l Z a0 hw G1 qa1 h0 n0 X00 O2 P5 F_qa1_coder) pd3 hml.symm (hb hby d5_1) e0 rfl rfl rfl rfl (by decide)
 obtain ⟨rfl, N1q, e1q⟩ := hQ1
 have N1 := Fr.app N0 N1q
 obtain ⟨T2, X2, e2, st2⟩ := getF X1 hx hZ hown (host := "") (Or.inl (w26_ hw)) Via.refl e1q F_qa1_value (g := (mkF m 24 #[rv qa1, iv qi2, iv 0] [.ref qa1])) rfl rfl (hb hby d5_24)
 obtain ⟨_, T3, L3, X3, hQ3, st3⟩ := own_cV 0 0 [.int 0, .int qi2, .ref qa3] 30 #[rv qa1, iv qi2, iv 0] X2 hx hZ hown E_qa1 (w48_ hw) (w49_ hw) (notFace_of_selects (args := #[]) (mvT hZ (w51_ hw))) (w51_ hw) (w50_ hw) (w8_ hw) (w52_ hw) (rm81 l Z a0 hw G1 qa1 qa3 qk4 qi5 qi6 qi7 qi8 qi9 qi10 h0 n0 X00 O2 P5 F_qa1_value A_qa3 E_qa1 F_qa1_coder) pd4 hml.symm (hb hby d5_30) e2 rfl rfl rfl rfl (by decide)
 obtain ⟨rfl, N3q, e3q⟩ := hQ3
 have N3 := Fr.app N1 N3q
 obtain ⟨_, T4, L4, X4, hQ4, st4⟩ := own_cS 0 0 [] 33 #[rv qa1, iv qi2, iv 0] X3 hx hZ hown (w104_ hw) (w105_ hw) (w74_ hw) (w106_ hw) (rm89 l Z a0 hw G3 qa3 qi2 qk4 qi5 qi6 qi7 qi8 qi9 qi10 h0 n0 X00 O4 rG3 uS12 uS15 uS18 A_qa3 hc5) pd7 hml.symm (hb hby d5_33) e3q rfl rfl rfl rfl (by decide)
 obtain ⟨rfl, N4q, e4q⟩ := hQ4
 have N4 := Fr.app N3 N4q
 refine own_lvF X4 Bd (.int (own_ix qi2 (own_L3 qi5 qi6 qi7 qi8 qi9 qi10) (0 : Int32))) e4q ⟨rfl, N4, rfl⟩ rfl (fun fs hr => pre0 _ (by
  show Sx p e below s₁ m 0 #[rv qa1, iv qi2, iv 0] [] _
  refine zb X0 Bd d5_0 rfl rfl ?_
  refine st1 _ ?_
  refine zp (pc' := 23) X1 Bd d5_4 (XT.i0_eq_t ((by decide) : (0 : Int32) = (0 : Int32))) rfl ?_
  refine zb X1 Bd d5_23 rfl rfl ?_
  refine st2 _ ?_
  refine zj X2 Bd d5_27 rfl ?_
  refine zj X2 Bd d5_28 rfl ?_
  refine zb X2 Bd d5_29 rfl rfl ?_
  refine st3 _ ?_
  refine st4 _ ?_
  exact retI X4 hx Bd.returns (hb hby d5_36) hr))
-- java/lang/String.indexOf(I)I
def Q91 (Z : State) (qi2 : Int32) (qi5 : Int32) (qi6 : Int32) (qi7 : Int32) (qi8 : Int32) (qi9 : Int32) (qi10 : Int32) (h0 : Heap) (n0 : Nat) (v : Option Value) (h : Heap) (L : List Loc) : Prop := v = some (.int (own_ix qi2 (own_L3 qi5 qi6 qi7 qi8 qi9 qi10) (0 : Int32))) ∧ Fr n0 L ∧ h = h0
theorem rm91 (l : Launch) (Z : State) (a0 : Array Value) (hw : HW a0 Z) (G1 : Int32) (G3 : Value) (qa1 : Addr) (qi2 : Int32) (qa3 : Addr) (qk4 : ClassId) (qi5 : Int32) (qi6 : Int32) (qi7 : Int32) (qi8 : Int32) (qi9 : Int32) (qi10 : Int32) (h0 : Heap) (n0 : Nat) (X00 : Old Z n0 h0) (O2 : Sta Z Z.heap "java/lang/String" "COMPACT_STRINGS" "Z" (.int G1)) (P5 : ¬ (G1 = (0 : Int32))) (O4 : Sta Z Z.heap "jdk/internal/util/Preconditions" "SIOOBE_FORMATTER" "Ljava/util/function/BiFunction;" G3) (rG3 : G3.isRef = true) (uS12 : Sta Z Z.heap "java/lang/StringUTF16" "$assertionsDisabled" "Z" (.int 1)) (uS15 : Sta Z Z.heap "java/lang/StringUTF16" "HI_BYTE_SHIFT" "I" (.int 0)) (uS18 : Sta Z Z.heap "java/lang/StringUTF16" "LO_BYTE_SHIFT" "I" (.int 8)) (E_qa1 : Exa Z h0 qa1 "java/lang/String") (F_qa1_coder : Fld Z h0 qa1 "java/lang/String" "coder" "B" (.int 1)) (F_qa1_value : Fld Z h0 qa1 "java/lang/String" "value" "[B" (.ref qa3)) (A_qa3 : Arv Z h0 qa3 qk4 .byte (6 : Int32) [.int qi5, .int qi6, .int qi7, .int qi8, .int qi9, .int qi10] (.int 0)) (hc2 : qi2 < (65536 : Int32)) :
    MF l Z Y10_ jdk_42_method_79_code 2 (some .int) (Rm 6 0 0 87) #[.ref qa1, .int qi2] h0 (Q91 Z qi2 qi5 qi6 qi7 qi8 qi9 qi10 h0 n0) := by
 refine own_sF pn1 rfl (fun m => ef5 m qa1 qi2) ?_
 intro p e s m below meth c s₁ Bd hZ hh hx hby hml hown hnm X0 e0 pre0
 have N0 := Fr.nil n0
 obtain ⟨_, T1, L1, X1, hQ1, st1⟩ := own_cV 0 0 [] 3 #[rv qa1, iv qi2] X0 hx hZ hown E_qa1 (w37_ hw) (w38_ hw) (notFace_of_selects (args := #[]) (mvT hZ (w40_ hw))) (w40_ hw) (w39_ hw) (w8_ hw) (w41_ hw) (rm90 l Z a0 hw G1 G3 qa1 qi2 qa3 qk4 qi5 qi6 qi7 qi8 qi9 qi10 h0 n0 X00 O2 P5 O4 rG3 uS12 uS15 uS18 E_qa1 F_qa1_coder F_qa1_value A_qa3 hc2) pd6 hml.symm (hb hby d4_3) e0 rfl rfl rfl rfl (by decide)
 obtain ⟨rfl, N1q, e1q⟩ := hQ1
 have N1 := Fr.app N0 N1q
 refine own_lvF X1 Bd (.int (own_ix qi2 (own_L3 qi5 qi6 qi7 qi8 qi9 qi10) (0 : Int32))) e1q ⟨rfl, N1, rfl⟩ rfl (fun fs hr => pre0 _ (by
  show Sx p e below s₁ m 0 #[rv qa1, iv qi2] [] _
  refine zb X0 Bd d4_0 rfl rfl ?_
  refine zj X0 Bd d4_1 rfl ?_
  refine zc X0 Bd d4_2 ?_
  refine st1 _ ?_
  exact retI X1 hx Bd.returns (hb hby d4_6) hr))
-- com/example/echoes_to_canon/echoestocanon/HttpUrl.separator(Ljava/lang/String;)C
def Q92 (Z : State) (qi4 : Int32) (qi5 : Int32) (qi6 : Int32) (qi7 : Int32) (qi8 : Int32) (qi9 : Int32) (h0 : Heap) (n0 : Nat) (v : Option Value) (h : Heap) (L : List Loc) : Prop := v = some (.int (own_sep (own_L3 qi4 qi5 qi6 qi7 qi8 qi9))) ∧ Fr n0 L ∧ h = h0
theorem rm92 (l : Launch) (Z : State) (a0 : Array Value) (hw : HW a0 Z) (G1 : Int32) (G3 : Value) (qa1 : Addr) (qa2 : Addr) (qk3 : ClassId) (qi4 : Int32) (qi5 : Int32) (qi6 : Int32) (qi7 : Int32) (qi8 : Int32) (qi9 : Int32) (h0 : Heap) (n0 : Nat) (X00 : Old Z n0 h0) (O2 : Sta Z Z.heap "java/lang/String" "COMPACT_STRINGS" "Z" (.int G1)) (P5 : ¬ (G1 = (0 : Int32))) (O4 : Sta Z Z.heap "jdk/internal/util/Preconditions" "SIOOBE_FORMATTER" "Ljava/util/function/BiFunction;" G3) (rG3 : G3.isRef = true) (uS12 : Sta Z Z.heap "java/lang/StringUTF16" "$assertionsDisabled" "Z" (.int 1)) (uS15 : Sta Z Z.heap "java/lang/StringUTF16" "HI_BYTE_SHIFT" "I" (.int 0)) (uS18 : Sta Z Z.heap "java/lang/StringUTF16" "LO_BYTE_SHIFT" "I" (.int 8)) (E_qa1 : Exa Z h0 qa1 "java/lang/String") (F_qa1_coder : Fld Z h0 qa1 "java/lang/String" "coder" "B" (.int 1)) (F_qa1_value : Fld Z h0 qa1 "java/lang/String" "value" "[B" (.ref qa2)) (A_qa2 : Arv Z h0 qa2 qk3 .byte (6 : Int32) [.int qi4, .int qi5, .int qi6, .int qi7, .int qi8, .int qi9] (.int 0)) :
    MF l Z Y11_ prog_2_method_30_code 1 (some .char) (Rm 7 0 0 100) #[.ref qa1] h0 (Q92 Z qi4 qi5 qi6 qi7 qi8 qi9 h0 n0) := by
 refine own_sF pn2 rfl (fun m => ef4 m qa1) ?_
 intro p e s m below meth c s₁ Bd hZ hh hx hby hml hown hnm X0 e0 pre0
 have N0 := Fr.nil n0
 obtain ⟨_, T1, L1, X1, hQ1, st1⟩ := own_cV 0 0 [] 3 #[rv qa1] X0 hx hZ hown E_qa1 (w32_ hw) (w33_ hw) (notFace_of_selects (args := #[]) (mvT hZ (w35_ hw))) (w35_ hw) (w34_ hw) (w8_ hw) (w36_ hw) (rm91 l Z a0 hw G1 G3 qa1 (59 : Int32) qa2 qk3 qi4 qi5 qi6 qi7 qi8 qi9 h0 n0 X00 O2 P5 O4 rG3 uS12 uS15 uS18 E_qa1 F_qa1_coder F_qa1_value A_qa2 (by decide)) pd8 hml.symm (hb hby d3_3) e0 rfl rfl rfl rfl (by decide)
 obtain ⟨rfl, N1q, e1q⟩ := hQ1
 have N1 := Fr.app N0 N1q
 have pr2 : Pr p e below T1 m 6 #[rv qa1] [(.int (own_ix (59 : Int32) (own_L3 qi4 qi5 qi6 qi7 qi8 qi9) (0 : Int32)))] s₁ (entryFrame m #[.ref qa1] 1) := fun t k => pre0 t (by
  show Sx p e below s₁ m 0 #[rv qa1] [] _
  refine zb X0 Bd d3_0 rfl rfl ?_
  refine zd X0 Bd d3_1 ?_
  refine st1 _ ?_
  exact k)
 by_cases hc3 : (own_ix (59 : Int32) (own_L3 qi4 qi5 qi6 qi7 qi8 qi9) (0 : Int32)) < (0 : Int32)
 ·
  skip
  refine own_lvF X1 Bd (.int 38) e1q ⟨(by rw [own_sep, if_pos (show own_ix (59 : Int32) (own_L3 qi4 qi5 qi6 qi7 qi8 qi9) (0 : Int32) < (0 : Int32) from hc3)] <;> rfl), N1, rfl⟩ rfl (fun fs hr => pr2 _ (by
   show Sx p e below T1 m 6 #[rv qa1] [(.int (own_ix (59 : Int32) (own_L3 qi4 qi5 qi6 qi7 qi8 qi9) (0 : Int32)))] _
   refine zp (pc' := 23) X1 Bd d3_6 (XT.i0_lt_t (hc3 : (own_ix (59 : Int32) (own_L3 qi4 qi5 qi6 qi7 qi8 qi9) (0 : Int32)) < (0 : Int32))) rfl ?_
   refine zd X1 Bd d3_23 ?_
   exact retN X1 hx (t := .char) Bd.returns (by simp) (hb hby d3_25) hr))
 ·
  skip
  obtain ⟨_, T4, L4, X4, hQ4, st4⟩ := own_cV 0 0 [] 12 #[rv qa1] X1 hx hZ hown E_qa1 (w32_ hw) (w33_ hw) (notFace_of_selects (args := #[]) (mvT hZ (w35_ hw))) (w35_ hw) (w34_ hw) (w8_ hw) (w36_ hw) (rm91 l Z a0 hw G1 G3 qa1 (38 : Int32) qa2 qk3 qi4 qi5 qi6 qi7 qi8 qi9 h0 n0 X00 O2 P5 O4 rG3 uS12 uS15 uS18 E_qa1 F_qa1_coder F_qa1_value A_qa2 (by decide)) pd8 hml.symm (hb hby d3_12) e1q rfl rfl rfl rfl (by decide)
  obtain ⟨rfl, N4q, e4q⟩ := hQ4
  have N4 := Fr.app N1 N4q
  have pr5 : Pr p e below T4 m 15 #[rv qa1] [(.int (own_ix (38 : Int32) (own_L3 qi4 qi5 qi6 qi7 qi8 qi9) (0 : Int32)))] s₁ (entryFrame m #[.ref qa1] 1) := fun t k => pr2 t (by
   show Sx p e below T1 m 6 #[rv qa1] [(.int (own_ix (59 : Int32) (own_L3 qi4 qi5 qi6 qi7 qi8 qi9) (0 : Int32)))] _
   refine zo X1 Bd d3_6 (XT.i0_lt_f (hc3 : ¬ ((own_ix (59 : Int32) (own_L3 qi4 qi5 qi6 qi7 qi8 qi9) (0 : Int32)) < (0 : Int32)))) ?_
   refine zb X1 Bd d3_9 rfl rfl ?_
   refine zd X1 Bd d3_10 ?_
   refine st4 _ ?_
   exact k)
  by_cases hc6 : (own_ix (38 : Int32) (own_L3 qi4 qi5 qi6 qi7 qi8 qi9) (0 : Int32)) < (0 : Int32)
  ·
   skip
   refine own_lvF X4 Bd (.int 59) e4q ⟨(by rw [own_sep, if_neg (show ¬ own_ix (59 : Int32) (own_L3 qi4 qi5 qi6 qi7 qi8 qi9) (0 : Int32) < (0 : Int32) from hc3), if_pos (show own_ix (38 : Int32) (own_L3 qi4 qi5 qi6 qi7 qi8 qi9) (0 : Int32) < (0 : Int32) from hc6)] <;> rfl), N4, rfl⟩ rfl (fun fs hr => pr5 _ (by
    show Sx p e below T4 m 15 #[rv qa1] [(.int (own_ix (38 : Int32) (own_L3 qi4 qi5 qi6 qi7 qi8 qi9) (0 : Int32)))] _
    refine zo X4 Bd d3_15 (XT.i0_ge_f (hc6 : (own_ix (38 : Int32) (own_L3 qi4 qi5 qi6 qi7 qi8 qi9) (0 : Int32)) < (0 : Int32))) ?_
    refine zd X4 Bd d3_18 ?_
    refine zg (pc' := 25) X4 Bd d3_20 rfl ?_
    exact retN X4 hx (t := .char) Bd.returns (by simp) (hb hby d3_25) hr))
  ·
   skip
   refine own_lvF X4 Bd (.int 38) e4q ⟨(by rw [own_sep, if_neg (show ¬ own_ix (59 : Int32) (own_L3 qi4 qi5 qi6 qi7 qi8 qi9) (0 : Int32) < (0 : Int32) from hc3), if_neg (show ¬ own_ix (38 : Int32) (own_L3 qi4 qi5 qi6 qi7 qi8 qi9) (0 : Int32) < (0 : Int32) from hc6)] <;> rfl), N4, rfl⟩ rfl (fun fs hr => pr5 _ (by
    show Sx p e below T4 m 15 #[rv qa1] [(.int (own_ix (38 : Int32) (own_L3 qi4 qi5 qi6 qi7 qi8 qi9) (0 : Int32)))] _
    refine zp (pc' := 23) X4 Bd d3_15 (XT.i0_ge_t (hc6 : ¬ ((own_ix (38 : Int32) (own_L3 qi4 qi5 qi6 qi7 qi8 qi9) (0 : Int32)) < (0 : Int32)))) rfl ?_
    refine zd X4 Bd d3_23 ?_
    exact retN X4 hx (t := .char) Bd.returns (by simp) (hb hby d3_25) hr))
-- java/lang/StringLatin1.indexOfChar([BIII)I
def Q93 (Z : State) (qi2 : Int32) (qi4 : Int32) (qi5 : Int32) (qi6 : Int32) (h0 : Heap) (n0 : Nat) (v : Option Value) (h : Heap) (L : List Loc) : Prop := v = some (.int (own_ix ((qi2).toInt8.toInt32) ([((qi4).toInt8.toInt32), ((qi5).toInt8.toInt32), ((qi6).toInt8.toInt32)] : List Int32) (0 : Int32))) ∧ Fr n0 L ∧ h = h0
theorem rm93 (l : Launch) (Z : State) (a0 : Array Value) (hw : HW a0 Z) (qa1 : Addr) (qi2 : Int32) (qk3 : ClassId) (qi4 : Int32) (qi5 : Int32) (qi6 : Int32) (h0 : Heap) (n0 : Nat) (X00 : Old Z n0 h0) (A_qa1 : Arv Z h0 qa1 qk3 .byte (3 : Int32) ((([qi4, qi5, qi6] : List Int32).map (fun c => c.toInt8.toInt32)).map Value.int) (.int 0)) :
    MF l Z Y28_ jdk_43_method_23_code 6 (some .int) (Rm 0 0 0 0) #[.ref qa1, .int qi2, .int 0, .int 3] h0 (Q93 Z qi2 qi4 qi5 qi6 h0 n0) := by
 refine own_sF pn3 rfl (fun m => ef17 m qa1 qi2 (0 : Int32) (3 : Int32)) ?_
 intro p e s m below meth c s₁ Bd hZ hh hx hby hml hown hnm X0 e0 pre0
 have N0 := Fr.nil n0
 have av1 := A_qa1
 obtain ⟨cl1, Ar1, q1, S1, N1, H1, Gf1⟩ := av1
 have hin2 : ¬ ((0 : Int32) < 0 ∨ cl1.slots.size ≤ ((0 : Int32) : Int32).toNatClampNeg) := inb_of S1 (by decide)
 have hat2 : cl1.slots[((0 : Int32) : Int32).toNatClampNeg]? = some (.int ((qi4).toInt8.toInt32)) := Has.at H1 hin2 rfl
 have pr3 : Pr p e below s₁ m 19 #[rv qa1, iv qi2, iv 0, iv 3, iv ((qi2).toInt8.toInt32), iv 0] [(.int ((qi2).toInt8.toInt32)), (.int ((qi4).toInt8.toInt32))] s₁ (entryFrame m #[.ref qa1, .int qi2, .int 0, .int 3] 6) := fun t k => pre0 t (by
  show Sx p e below s₁ m 0 #[rv qa1, iv qi2, iv 0, iv 3, .unset, .unset] [] _
  refine zj X0 Bd d28_0 rfl ?_
  refine XS.i2b X0.here hx rfl (hb hby d28_1) rfl ?_
  refine zs X0 Bd d28_2 (l' := #[rv qa1, iv qi2, iv 0, iv 3, iv ((qi2).toInt8.toInt32), .unset]) rfl ?_
  refine zj X0 Bd d28_4 rfl ?_
  refine zs X0 Bd d28_5 (l' := #[rv qa1, iv qi2, iv 0, iv 3, iv ((qi2).toInt8.toInt32), iv 0]) rfl ?_
  refine zi X0 Bd d28_7 rfl ?_
  refine zj X0 Bd d28_9 rfl ?_
  refine zn X0 Bd d28_10 (XT.ii_ge_f ((by decide) : (0 : Int32) < (3 : Int32))) ?_
  refine zb X0 Bd d28_13 rfl rfl ?_
  refine zi X0 Bd d28_14 rfl ?_
  refine X0.baloadBytes hx (j := (0 : Int32)) (v := (.int ((qi4).toInt8.toInt32))) (by rw [e0]; exact Ar1.1) (State.isArrayOf_alike hZ.alike Ar1.2.1) Ar1.2.2 hin2 hat2 (g := (mkF m 16 #[rv qa1, iv qi2, iv 0, iv 3, iv ((qi2).toInt8.toInt32), iv 0] [.int 0, .ref qa1])) rfl rfl (hb hby d28_16) _ ?_
  refine zi X0 Bd d28_17 rfl ?_
  exact k)
 by_cases hc4 : ((qi4).toInt8.toInt32) = ((qi2).toInt8.toInt32)
 ·
  skip
  refine own_lvF X0 Bd (.int 0) e0 ⟨(by rw [own_ix, if_pos hc4] <;> rfl), N0, rfl⟩ rfl (fun fs hr => pr3 _ (by
   show Sx p e below s₁ m 19 #[rv qa1, iv qi2, iv 0, iv 3, iv ((qi2).toInt8.toInt32), iv 0] [(.int ((qi2).toInt8.toInt32)), (.int ((qi4).toInt8.toInt32))] _
   refine zn X0 Bd d28_19 (XT.ii_ne_f (hc4 : ((qi4).toInt8.toInt32) = ((qi2).toInt8.toInt32))) ?_
   refine zi X0 Bd d28_22 rfl ?_
   exact retI X0 hx Bd.returns (hb hby d28_24) hr))
 ·
  skip
  have av5 := A_qa1
  obtain ⟨cl5, Ar5, q5, S5, N5, H5, Gf5⟩ := av5
  have hin6 : ¬ ((1 : Int32) < 0 ∨ cl5.slots.size ≤ ((1 : Int32) : Int32).toNatClampNeg) := inb_of S5 (by decide)
  have hat6 : cl5.slots[((1 : Int32) : Int32).toNatClampNeg]? = some (.int ((qi5).toInt8.toInt32)) := Has.at H5 hin6 rfl
  have pr7 : Pr p e below s₁ m 19 #[rv qa1, iv qi2, iv 0, iv 3, iv ((qi2).toInt8.toInt32), iv 1] [(.int ((qi2).toInt8.toInt32)), (.int ((qi5).toInt8.toInt32))] s₁ (entryFrame m #[.ref qa1, .int qi2, .int 0, .int 3] 6) := fun t k => pr3 t (by
   show Sx p e below s₁ m 19 #[rv qa1, iv qi2, iv 0, iv 3, iv ((qi2).toInt8.toInt32), iv 0] [(.int ((qi2).toInt8.toInt32)), (.int ((qi4).toInt8.toInt32))] _
   refine zy (pc' := 25) X0 Bd d28_19 (XT.ii_ne_t (hc4 : ¬ (((qi4).toInt8.toInt32) = ((qi2).toInt8.toInt32)))) rfl ?_
   refine XS.iinc X0.here hx rfl (hb hby d28_25) rfl (l' := #[rv qa1, iv qi2, iv 0, iv 3, iv ((qi2).toInt8.toInt32), iv 1]) rfl ?_
   refine zg (pc' := 7) X0 Bd d28_28 rfl ?_
   refine zi X0 Bd d28_7 rfl ?_
   refine zj X0 Bd d28_9 rfl ?_
   refine zn X0 Bd d28_10 (XT.ii_ge_f ((by decide) : (1 : Int32) < (3 : Int32))) ?_
   refine zb X0 Bd d28_13 rfl rfl ?_
   refine zi X0 Bd d28_14 rfl ?_
   refine X0.baloadBytes hx (j := (1 : Int32)) (v := (.int ((qi5).toInt8.toInt32))) (by rw [e0]; exact Ar5.1) (State.isArrayOf_alike hZ.alike Ar5.2.1) Ar5.2.2 hin6 hat6 (g := (mkF m 16 #[rv qa1, iv qi2, iv 0, iv 3, iv ((qi2).toInt8.toInt32), iv 1] [.int 1, .ref qa1])) rfl rfl (hb hby d28_16) _ ?_
   refine zi X0 Bd d28_17 rfl ?_
   exact k)
  by_cases hc8 : ((qi5).toInt8.toInt32) = ((qi2).toInt8.toInt32)
  ·
   skip
   refine own_lvF X0 Bd (.int 1) e0 ⟨(by rw [own_ix, if_neg hc4, own_ix, if_pos hc8] <;> rfl), N0, rfl⟩ rfl (fun fs hr => pr7 _ (by
    show Sx p e below s₁ m 19 #[rv qa1, iv qi2, iv 0, iv 3, iv ((qi2).toInt8.toInt32), iv 1] [(.int ((qi2).toInt8.toInt32)), (.int ((qi5).toInt8.toInt32))] _
    refine zn X0 Bd d28_19 (XT.ii_ne_f (hc8 : ((qi5).toInt8.toInt32) = ((qi2).toInt8.toInt32))) ?_
    refine zi X0 Bd d28_22 rfl ?_
    exact retI X0 hx Bd.returns (hb hby d28_24) hr))
  ·
   skip
   have av9 := A_qa1
   obtain ⟨cl9, Ar9, q9, S9, N9, H9, Gf9⟩ := av9
   have hin10 : ¬ ((2 : Int32) < 0 ∨ cl9.slots.size ≤ ((2 : Int32) : Int32).toNatClampNeg) := inb_of S9 (by decide)
   have hat10 : cl9.slots[((2 : Int32) : Int32).toNatClampNeg]? = some (.int ((qi6).toInt8.toInt32)) := Has.at H9 hin10 rfl
   have pr11 : Pr p e below s₁ m 19 #[rv qa1, iv qi2, iv 0, iv 3, iv ((qi2).toInt8.toInt32), iv 2] [(.int ((qi2).toInt8.toInt32)), (.int ((qi6).toInt8.toInt32))] s₁ (entryFrame m #[.ref qa1, .int qi2, .int 0, .int 3] 6) := fun t k => pr7 t (by
    show Sx p e below s₁ m 19 #[rv qa1, iv qi2, iv 0, iv 3, iv ((qi2).toInt8.toInt32), iv 1] [(.int ((qi2).toInt8.toInt32)), (.int ((qi5).toInt8.toInt32))] _
    refine zy (pc' := 25) X0 Bd d28_19 (XT.ii_ne_t (hc8 : ¬ (((qi5).toInt8.toInt32) = ((qi2).toInt8.toInt32)))) rfl ?_
    refine XS.iinc X0.here hx rfl (hb hby d28_25) rfl (l' := #[rv qa1, iv qi2, iv 0, iv 3, iv ((qi2).toInt8.toInt32), iv 2]) rfl ?_
    refine zg (pc' := 7) X0 Bd d28_28 rfl ?_
    refine zi X0 Bd d28_7 rfl ?_
    refine zj X0 Bd d28_9 rfl ?_
    refine zn X0 Bd d28_10 (XT.ii_ge_f ((by decide) : (2 : Int32) < (3 : Int32))) ?_
    refine zb X0 Bd d28_13 rfl rfl ?_
    refine zi X0 Bd d28_14 rfl ?_
    refine X0.baloadBytes hx (j := (2 : Int32)) (v := (.int ((qi6).toInt8.toInt32))) (by rw [e0]; exact Ar9.1) (State.isArrayOf_alike hZ.alike Ar9.2.1) Ar9.2.2 hin10 hat10 (g := (mkF m 16 #[rv qa1, iv qi2, iv 0, iv 3, iv ((qi2).toInt8.toInt32), iv 2] [.int 2, .ref qa1])) rfl rfl (hb hby d28_16) _ ?_
    refine zi X0 Bd d28_17 rfl ?_
    exact k)
   by_cases hc12 : ((qi6).toInt8.toInt32) = ((qi2).toInt8.toInt32)
   ·
    skip
    refine own_lvF X0 Bd (.int 2) e0 ⟨(by rw [own_ix, if_neg hc4, own_ix, if_neg hc8, own_ix, if_pos hc12] <;> rfl), N0, rfl⟩ rfl (fun fs hr => pr11 _ (by
     show Sx p e below s₁ m 19 #[rv qa1, iv qi2, iv 0, iv 3, iv ((qi2).toInt8.toInt32), iv 2] [(.int ((qi2).toInt8.toInt32)), (.int ((qi6).toInt8.toInt32))] _
     refine zn X0 Bd d28_19 (XT.ii_ne_f (hc12 : ((qi6).toInt8.toInt32) = ((qi2).toInt8.toInt32))) ?_
     refine zi X0 Bd d28_22 rfl ?_
     exact retI X0 hx Bd.returns (hb hby d28_24) hr))
   ·
    skip
    refine own_lvF X0 Bd (.int (-1 : Int32)) e0 ⟨(by rw [own_ix, if_neg hc4, own_ix, if_neg hc8, own_ix, if_neg hc12, own_ix] <;> rfl), N0, rfl⟩ rfl (fun fs hr => pr11 _ (by
     show Sx p e below s₁ m 19 #[rv qa1, iv qi2, iv 0, iv 3, iv ((qi2).toInt8.toInt32), iv 2] [(.int ((qi2).toInt8.toInt32)), (.int ((qi6).toInt8.toInt32))] _
     refine zy (pc' := 25) X0 Bd d28_19 (XT.ii_ne_t (hc12 : ¬ (((qi6).toInt8.toInt32) = ((qi2).toInt8.toInt32)))) rfl ?_
     refine XS.iinc X0.here hx rfl (hb hby d28_25) rfl (l' := #[rv qa1, iv qi2, iv 0, iv 3, iv ((qi2).toInt8.toInt32), iv 3]) rfl ?_
     refine zg (pc' := 7) X0 Bd d28_28 rfl ?_
     refine zi X0 Bd d28_7 rfl ?_
     refine zj X0 Bd d28_9 rfl ?_
     refine zy (pc' := 31) X0 Bd d28_10 (XT.ii_ge_t ((by decide) : ¬ ((3 : Int32) < (3 : Int32)))) rfl ?_
     refine zc X0 Bd d28_31 ?_
     exact retI X0 hx Bd.returns (hb hby d28_32) hr))
-- java/lang/StringLatin1.indexOf([BIII)I
def Q94 (Z : State) (qi2 : Int32) (qi4 : Int32) (qi5 : Int32) (qi6 : Int32) (h0 : Heap) (n0 : Nat) (v : Option Value) (h : Heap) (L : List Loc) : Prop := v = some (.int (own_ix ((qi2).toInt8.toInt32) ([((qi4).toInt8.toInt32), ((qi5).toInt8.toInt32), ((qi6).toInt8.toInt32)] : List Int32) (0 : Int32))) ∧ Fr n0 L ∧ h = h0
theorem rm94 (l : Launch) (Z : State) (a0 : Array Value) (hw : HW a0 Z) (qa1 : Addr) (qi2 : Int32) (qk3 : ClassId) (qi4 : Int32) (qi5 : Int32) (qi6 : Int32) (h0 : Heap) (n0 : Nat) (X00 : Old Z n0 h0) (hc2 : ¬ (qi2 < (0 : Int32))) (hc3 : ¬ ((255 : Int32) < qi2)) (A_qa1 : Arv Z h0 qa1 qk3 .byte (3 : Int32) ((([qi4, qi5, qi6] : List Int32).map (fun c => c.toInt8.toInt32)).map Value.int) (.int 0)) :
    MF l Z Y7_ jdk_43_method_22_code 4 (some .int) (Rm 1 0 0 17) #[.ref qa1, .int qi2, .int 0, .int 3] h0 (Q94 Z qi2 qi4 qi5 qi6 h0 n0) := by
 refine own_sF pn3 rfl (fun m => ef7 m qa1 qi2 (0 : Int32) (3 : Int32)) ?_
 intro p e s m below meth c s₁ Bd hZ hh hx hby hml hown hnm X0 e0 pre0
 have N0 := Fr.nil n0
 obtain ⟨_, T1, L1, X1, hQ1, st1⟩ := own_cS 0 0 [] 1 #[rv qa1, iv qi2, iv 0, iv 3] X0 hx hZ hown (w62_ hw) (w63_ hw) (w60_ hw) (w64_ hw) (rm5 l Z a0 hw  qi2 h0 n0 X00 hc2 hc3) pd5 hml.symm (hb hby d7_1) e0 rfl rfl rfl rfl (by decide)
 obtain ⟨rfl, N1q, e1q⟩ := hQ1
 have N1 := Fr.app N0 N1q
 obtain ⟨_, T4, L4, X4, hQ4, st4⟩ := own_cS 0 0 [] 11 #[rv qa1, iv qi2, iv 0, iv 3] X1 hx hZ hown (w65_ hw) (w66_ hw) (w67_ hw) (w68_ hw) (rm6 l Z a0 hw   h0 n0 X00 ) pd6 hml.symm (hb hby d7_11) e1q rfl rfl rfl rfl (by decide)
 obtain ⟨rfl, N4q, e4q⟩ := hQ4
 have N4 := Fr.app N1 N4q
 have av5 := A_qa1
 obtain ⟨cl5, Ar5, q5, S5, N5, H5, Gf5⟩ := av5
 obtain ⟨_, T6, L6, X6, hQ6, st6⟩ := own_cS 0 0 [] 18 #[rv qa1, iv qi2, iv 0, iv 3] X4 hx hZ hown (w69_ hw) (w70_ hw) (w67_ hw) (w71_ hw) (rm82 l Z a0 hw   h0 n0 X00 ) pd6 hml.symm (hb hby d7_18) e4q rfl rfl rfl rfl (by decide)
 obtain ⟨rfl, N6q, e6q⟩ := hQ6
 have N6 := Fr.app N4 N6q
 obtain ⟨_, T7, L7, X7, hQ7, st7⟩ := own_cS 0 0 [] 33 #[rv qa1, iv qi2, iv 0, iv 3] X6 hx hZ hown (w82_ hw) (w83_ hw) (w60_ hw) (w84_ hw) (rm93 l Z a0 hw  qa1 qi2 qk3 qi4 qi5 qi6 h0 n0 X00 A_qa1) pd7 hml.symm (hb hby d7_33) e6q rfl rfl rfl rfl (by decide)
 obtain ⟨rfl, N7q, e7q⟩ := hQ7
 have N7 := Fr.app N6 N7q
 refine own_lvF X7 Bd (.int (own_ix ((qi2).toInt8.toInt32) ([((qi4).toInt8.toInt32), ((qi5).toInt8.toInt32), ((qi6).toInt8.toInt32)] : List Int32) (0 : Int32))) e7q ⟨rfl, N7, rfl⟩ rfl (fun fs hr => pre0 _ (by
  show Sx p e below s₁ m 0 #[rv qa1, iv qi2, iv 0, iv 3] [] _
  refine zj X0 Bd d7_0 rfl ?_
  refine st1 _ ?_
  refine zp (pc' := 9) X1 Bd d7_4 (XT.i0_ne_t ((by decide) : ¬ ((1 : Int32) = (0 : Int32)))) rfl ?_
  refine zj X1 Bd d7_9 rfl ?_
  refine zc X1 Bd d7_10 ?_
  refine st4 _ ?_
  refine zt X4 Bd d7_14 (l' := #[rv qa1, iv qi2, iv 0, iv 3]) rfl ?_
  refine zj X4 Bd d7_15 rfl ?_
  refine zb X4 Bd d7_16 rfl rfl ?_
  refine X4.arraylength hx (by rw [e4q]; exact Ar5.1) (State.isArrayOf_alike hZ.alike Ar5.2.1) (g := (mkF m 17 #[rv qa1, iv qi2, iv 0, iv 3] [.ref qa1, .int 3])) rfl rfl (hb hby d7_17) _ ?_
  rw [len_of S5 N5]
  refine st6 _ ?_
  refine zt X6 Bd d7_21 (l' := #[rv qa1, iv qi2, iv 0, iv 3]) rfl ?_
  refine zj X6 Bd d7_22 rfl ?_
  refine zj X6 Bd d7_23 rfl ?_
  refine zy (pc' := 29) X6 Bd d7_24 (XT.ii_lt_t ((by decide) : (0 : Int32) < (3 : Int32))) rfl ?_
  refine zb X6 Bd d7_29 rfl rfl ?_
  refine zj X6 Bd d7_30 rfl ?_
  refine zj X6 Bd d7_31 rfl ?_
  refine zj X6 Bd d7_32 rfl ?_
  refine st7 _ ?_
  exact retI X7 hx Bd.returns (hb hby d7_36) hr))
-- java/lang/String.indexOf(II)I
def Q95 (Z : State) (qi2 : Int32) (qi4 : Int32) (qi5 : Int32) (qi6 : Int32) (h0 : Heap) (n0 : Nat) (v : Option Value) (h : Heap) (L : List Loc) : Prop := v = some (.int (own_ix ((qi2).toInt8.toInt32) ([((qi4).toInt8.toInt32), ((qi5).toInt8.toInt32), ((qi6).toInt8.toInt32)] : List Int32) (0 : Int32))) ∧ Fr n0 L ∧ h = h0
theorem rm95 (l : Launch) (Z : State) (a0 : Array Value) (hw : HW a0 Z) (G1 : Int32) (qa1 : Addr) (qi2 : Int32) (qa3 : Addr) (qi4 : Int32) (qi5 : Int32) (qi6 : Int32) (qk7 : ClassId) (h0 : Heap) (n0 : Nat) (X00 : Old Z n0 h0) (O2 : Sta Z Z.heap "java/lang/String" "COMPACT_STRINGS" "Z" (.int G1)) (P5 : ¬ (G1 = (0 : Int32))) (E_qa1 : Exa Z h0 qa1 "java/lang/String") (F_qa1_coder : Fld Z h0 qa1 "java/lang/String" "coder" "B" (.int 0)) (F_qa1_value : Fld Z h0 qa1 "java/lang/String" "value" "[B" (.ref qa3)) (hp_qa1 : ∀ c ∈ ([qi4, qi5, qi6] : List Int32), ¬ c < 0 ∧ ¬ (255 : Int32) < c) (A_qa3 : Arv Z h0 qa3 qk7 .byte (3 : Int32) ((([qi4, qi5, qi6] : List Int32).map (fun c => c.toInt8.toInt32)).map Value.int) (.int 0)) (hc6 : ¬ (qi2 < (0 : Int32))) (hc7 : ¬ ((255 : Int32) < qi2)) :
    MF l Z Y8_ jdk_42_method_80_code 3 (some .int) (Rm 2 0 0 32) #[.ref qa1, .int qi2, .int 0] h0 (Q95 Z qi2 qi4 qi5 qi6 h0 n0) := by
 refine own_sF pn1 rfl (fun m => ef6 m qa1 qi2 (0 : Int32)) ?_
 intro p e s m below meth c s₁ Bd hZ hh hx hby hml hown hnm X0 e0 pre0
 have N0 := Fr.nil n0
 obtain ⟨_, T1, L1, X1, hQ1, st1⟩ := own_cV 0 0 [] 1 #[rv qa1, iv qi2, iv 0] X0 hx hZ hown E_qa1 (w42_ hw) (w43_ hw) (notFace_of_selects (args := #[]) (mvT hZ (w45_ hw))) (w45_ hw) (w44_ hw) (w8_ hw) (w46_ hw) (rm4 l Z a0 hw G1 qa1 h0 n0 X00 O2 P5 F_qa1_coder) pd3 hml.symm (hb hby d5_1) e0 rfl rfl rfl rfl (by decide)
 obtain ⟨rfl, N1q, e1q⟩ := hQ1
 have N1 := Fr.app N0 N1q
 obtain ⟨T2, X2, e2, st2⟩ := getF X1 hx hZ hown (host := "") (Or.inl (w26_ hw)) Via.refl e1q F_qa1_value (g := (mkF m 8 #[rv qa1, iv qi2, iv 0] [.ref qa1])) rfl rfl (hb hby d5_8)
 have hcd4 : StrChars.Road.CodA ([qi4, qi5, qi6] : List Int32) 0 (3 : Int32) ((([qi4, qi5, qi6] : List Int32).map (fun c => c.toInt8.toInt32)).map Value.int) := StrChars.Road.codOf (n := 3) rfl (fun x hx => (hp_qa1 x hx).2)
 have hbd4 : ∀ x ∈ ([qi4, qi5, qi6] : List Int32), ¬ x < 0 ∧ ¬ (65535 : Int32) < x := own_up _ hp_qa1
 obtain ⟨cq3, kq3, q3a, q3b, q3c⟩ := isOf hZ e2 E_qa1
 obtain ⟨_, T3, L3, X3, hQ3, st3⟩ := own_cb0 0 0 0 0 0 0 (X2.virtualBack hx (y := Y9_) (z := Y9_) hown (mvT hZ (w48_ hw)) (mvT hZ (w49_ hw)) (notFace_of_selects (args := #[]) (mvT hZ (w51_ hw))) (mvT hZ (w51_ hw)) (mvT hZ (w50_ hw)) (by decide) (StrChars.Road.lenW (W := 3) hZ (own_wl hw) (kI := 4) (w7_ hw) E_qa1 F_qa1_value F_qa1_coder A_qa3 hcd4 hbd4 (O2.ext X00.2) P5 (lE rfl) (lE rfl) (lE rfl)) q3a q3c (g := (mkF m 14 #[rv qa1, iv qi2, iv 0] [.ref qa1, .int 0, .int qi2, .ref qa3])) rfl hml.symm (Steps.refl _) (argsL := []) (rest := [.int 0, .int qi2, .ref qa3]) (lenOf pd4 rfl) rfl (own_hw rfl) (hb hby d5_14) (fun _ _ => ⟨rfl, e2, (lE rfl : 0 + 0 ≤ _), (lE rfl : 0 + 0 ≤ _)⟩)) rfl rfl
 dsimp only [Pt.U, Pt.locs, Pt.cells, Pt.slots] at hQ3
 obtain ⟨rfl, rfl, e3q⟩ := hQ3
 have N3 := Fr.app N1 (Fr.nil n0)
 obtain ⟨_, T5, L5, X5, hQ5, st5⟩ := own_cS 0 0 [] 17 #[rv qa1, iv qi2, iv 0] X3 hx hZ hown (w58_ hw) (w59_ hw) (w60_ hw) (w61_ hw) (rm94 l Z a0 hw  qa3 qi2 qk7 qi4 qi5 qi6 h0 n0 X00 hc6 hc7 A_qa3) pd7 hml.symm (hb hby d5_17) e3q rfl rfl rfl rfl (by decide)
 obtain ⟨rfl, N5q, e5q⟩ := hQ5
 have N5 := Fr.app N3 N5q
 refine own_lvF X5 Bd (.int (own_ix ((qi2).toInt8.toInt32) ([((qi4).toInt8.toInt32), ((qi5).toInt8.toInt32), ((qi6).toInt8.toInt32)] : List Int32) (0 : Int32))) e5q ⟨rfl, N5, rfl⟩ rfl (fun fs hr => pre0 _ (by
  show Sx p e below s₁ m 0 #[rv qa1, iv qi2, iv 0] [] _
  refine zb X0 Bd d5_0 rfl rfl ?_
  refine st1 _ ?_
  refine zo X1 Bd d5_4 (XT.i0_eq_f ((by decide) : ¬ ((1 : Int32) = (0 : Int32)))) ?_
  refine zb X1 Bd d5_7 rfl rfl ?_
  refine st2 _ ?_
  refine zj X2 Bd d5_11 rfl ?_
  refine zj X2 Bd d5_12 rfl ?_
  refine zb X2 Bd d5_13 rfl rfl ?_
  refine st3.trans ?_
  refine st5 _ ?_
  refine zg (pc' := 36) X5 Bd d5_20 rfl ?_
  exact retI X5 hx Bd.returns (hb hby d5_36) hr))
-- java/lang/String.indexOf(I)I
def Q96 (Z : State) (qi2 : Int32) (qi4 : Int32) (qi5 : Int32) (qi6 : Int32) (h0 : Heap) (n0 : Nat) (v : Option Value) (h : Heap) (L : List Loc) : Prop := v = some (.int (own_ix ((qi2).toInt8.toInt32) ([((qi4).toInt8.toInt32), ((qi5).toInt8.toInt32), ((qi6).toInt8.toInt32)] : List Int32) (0 : Int32))) ∧ Fr n0 L ∧ h = h0
theorem rm96 (l : Launch) (Z : State) (a0 : Array Value) (hw : HW a0 Z) (G1 : Int32) (qa1 : Addr) (qi2 : Int32) (qa3 : Addr) (qi4 : Int32) (qi5 : Int32) (qi6 : Int32) (qk7 : ClassId) (h0 : Heap) (n0 : Nat) (X00 : Old Z n0 h0) (O2 : Sta Z Z.heap "java/lang/String" "COMPACT_STRINGS" "Z" (.int G1)) (P5 : ¬ (G1 = (0 : Int32))) (E_qa1 : Exa Z h0 qa1 "java/lang/String") (F_qa1_coder : Fld Z h0 qa1 "java/lang/String" "coder" "B" (.int 0)) (F_qa1_value : Fld Z h0 qa1 "java/lang/String" "value" "[B" (.ref qa3)) (hp_qa1 : ∀ c ∈ ([qi4, qi5, qi6] : List Int32), ¬ c < 0 ∧ ¬ (255 : Int32) < c) (A_qa3 : Arv Z h0 qa3 qk7 .byte (3 : Int32) ((([qi4, qi5, qi6] : List Int32).map (fun c => c.toInt8.toInt32)).map Value.int) (.int 0)) (hc2 : ¬ (qi2 < (0 : Int32))) (hc3 : ¬ ((255 : Int32) < qi2)) :
    MF l Z Y10_ jdk_42_method_79_code 2 (some .int) (Rm 3 0 0 46) #[.ref qa1, .int qi2] h0 (Q96 Z qi2 qi4 qi5 qi6 h0 n0) := by
 refine own_sF pn1 rfl (fun m => ef5 m qa1 qi2) ?_
 intro p e s m below meth c s₁ Bd hZ hh hx hby hml hown hnm X0 e0 pre0
 have N0 := Fr.nil n0
 obtain ⟨_, T1, L1, X1, hQ1, st1⟩ := own_cV 0 0 [] 3 #[rv qa1, iv qi2] X0 hx hZ hown E_qa1 (w37_ hw) (w38_ hw) (notFace_of_selects (args := #[]) (mvT hZ (w40_ hw))) (w40_ hw) (w39_ hw) (w8_ hw) (w41_ hw) (rm95 l Z a0 hw G1 qa1 qi2 qa3 qi4 qi5 qi6 qk7 h0 n0 X00 O2 P5 E_qa1 F_qa1_coder F_qa1_value hp_qa1 A_qa3 hc2 hc3) pd6 hml.symm (hb hby d4_3) e0 rfl rfl rfl rfl (by decide)
 obtain ⟨rfl, N1q, e1q⟩ := hQ1
 have N1 := Fr.app N0 N1q
 refine own_lvF X1 Bd (.int (own_ix ((qi2).toInt8.toInt32) ([((qi4).toInt8.toInt32), ((qi5).toInt8.toInt32), ((qi6).toInt8.toInt32)] : List Int32) (0 : Int32))) e1q ⟨rfl, N1, rfl⟩ rfl (fun fs hr => pre0 _ (by
  show Sx p e below s₁ m 0 #[rv qa1, iv qi2] [] _
  refine zb X0 Bd d4_0 rfl rfl ?_
  refine zj X0 Bd d4_1 rfl ?_
  refine zc X0 Bd d4_2 ?_
  refine st1 _ ?_
  exact retI X1 hx Bd.returns (hb hby d4_6) hr))
-- com/example/echoes_to_canon/echoestocanon/HttpUrl.separator(Ljava/lang/String;)C
def Q97 (Z : State) (qi3 : Int32) (qi4 : Int32) (qi5 : Int32) (h0 : Heap) (n0 : Nat) (v : Option Value) (h : Heap) (L : List Loc) : Prop := v = some (.int (own_sep ([((qi3).toInt8.toInt32), ((qi4).toInt8.toInt32), ((qi5).toInt8.toInt32)] : List Int32))) ∧ Fr n0 L ∧ h = h0
theorem rm97 (l : Launch) (Z : State) (a0 : Array Value) (hw : HW a0 Z) (G1 : Int32) (qa1 : Addr) (qa2 : Addr) (qi3 : Int32) (qi4 : Int32) (qi5 : Int32) (qk6 : ClassId) (h0 : Heap) (n0 : Nat) (X00 : Old Z n0 h0) (O2 : Sta Z Z.heap "java/lang/String" "COMPACT_STRINGS" "Z" (.int G1)) (P5 : ¬ (G1 = (0 : Int32))) (E_qa1 : Exa Z h0 qa1 "java/lang/String") (F_qa1_coder : Fld Z h0 qa1 "java/lang/String" "coder" "B" (.int 0)) (F_qa1_value : Fld Z h0 qa1 "java/lang/String" "value" "[B" (.ref qa2)) (hp_qa1 : ∀ c ∈ ([qi3, qi4, qi5] : List Int32), ¬ c < 0 ∧ ¬ (255 : Int32) < c) (A_qa2 : Arv Z h0 qa2 qk6 .byte (3 : Int32) ((([qi3, qi4, qi5] : List Int32).map (fun c => c.toInt8.toInt32)).map Value.int) (.int 0)) :
    MF l Z Y11_ prog_2_method_30_code 1 (some .char) (Rm 4 0 0 59) #[.ref qa1] h0 (Q97 Z qi3 qi4 qi5 h0 n0) := by
 refine own_sF pn2 rfl (fun m => ef4 m qa1) ?_
 intro p e s m below meth c s₁ Bd hZ hh hx hby hml hown hnm X0 e0 pre0
 have N0 := Fr.nil n0
 obtain ⟨_, T1, L1, X1, hQ1, st1⟩ := own_cV 0 0 [] 3 #[rv qa1] X0 hx hZ hown E_qa1 (w32_ hw) (w33_ hw) (notFace_of_selects (args := #[]) (mvT hZ (w35_ hw))) (w35_ hw) (w34_ hw) (w8_ hw) (w36_ hw) (rm96 l Z a0 hw G1 qa1 (59 : Int32) qa2 qi3 qi4 qi5 qk6 h0 n0 X00 O2 P5 E_qa1 F_qa1_coder F_qa1_value hp_qa1 A_qa2 (by decide) (by decide)) pd8 hml.symm (hb hby d3_3) e0 rfl rfl rfl rfl (by decide)
 obtain ⟨rfl, N1q, e1q⟩ := hQ1
 have N1 := Fr.app N0 N1q
 have pr2 : Pr p e below T1 m 6 #[rv qa1] [(.int (own_ix (((59 : Int32)).toInt8.toInt32) ([((qi3).toInt8.toInt32), ((qi4).toInt8.toInt32), ((qi5).toInt8.toInt32)] : List Int32) (0 : Int32)))] s₁ (entryFrame m #[.ref qa1] 1) := fun t k => pre0 t (by
  show Sx p e below s₁ m 0 #[rv qa1] [] _
  refine zb X0 Bd d3_0 rfl rfl ?_
  refine zd X0 Bd d3_1 ?_
  refine st1 _ ?_
  exact k)
 by_cases hc3 : (own_ix (((59 : Int32)).toInt8.toInt32) ([((qi3).toInt8.toInt32), ((qi4).toInt8.toInt32), ((qi5).toInt8.toInt32)] : List Int32) (0 : Int32)) < (0 : Int32)
 ·
  skip
  refine own_lvF X1 Bd (.int 38) e1q ⟨(by rw [own_sep, if_pos (show own_ix (59 : Int32) ([((qi3).toInt8.toInt32), ((qi4).toInt8.toInt32), ((qi5).toInt8.toInt32)] : List Int32) (0 : Int32) < (0 : Int32) from hc3)] <;> rfl), N1, rfl⟩ rfl (fun fs hr => pr2 _ (by
   show Sx p e below T1 m 6 #[rv qa1] [(.int (own_ix (((59 : Int32)).toInt8.toInt32) ([((qi3).toInt8.toInt32), ((qi4).toInt8.toInt32), ((qi5).toInt8.toInt32)] : List Int32) (0 : Int32)))] _
   refine zp (pc' := 23) X1 Bd d3_6 (XT.i0_lt_t (hc3 : (own_ix (((59 : Int32)).toInt8.toInt32) ([((qi3).toInt8.toInt32), ((qi4).toInt8.toInt32), ((qi5).toInt8.toInt32)] : List Int32) (0 : Int32)) < (0 : Int32))) rfl ?_
   refine zd X1 Bd d3_23 ?_
   exact retN X1 hx (t := .char) Bd.returns (by simp) (hb hby d3_25) hr))
 ·
  skip
  obtain ⟨_, T4, L4, X4, hQ4, st4⟩ := own_cV 0 0 [] 12 #[rv qa1] X1 hx hZ hown E_qa1 (w32_ hw) (w33_ hw) (notFace_of_selects (args := #[]) (mvT hZ (w35_ hw))) (w35_ hw) (w34_ hw) (w8_ hw) (w36_ hw) (rm96 l Z a0 hw G1 qa1 (38 : Int32) qa2 qi3 qi4 qi5 qk6 h0 n0 X00 O2 P5 E_qa1 F_qa1_coder F_qa1_value hp_qa1 A_qa2 (by decide) (by decide)) pd8 hml.symm (hb hby d3_12) e1q rfl rfl rfl rfl (by decide)
  obtain ⟨rfl, N4q, e4q⟩ := hQ4
  have N4 := Fr.app N1 N4q
  have pr5 : Pr p e below T4 m 15 #[rv qa1] [(.int (own_ix (((38 : Int32)).toInt8.toInt32) ([((qi3).toInt8.toInt32), ((qi4).toInt8.toInt32), ((qi5).toInt8.toInt32)] : List Int32) (0 : Int32)))] s₁ (entryFrame m #[.ref qa1] 1) := fun t k => pr2 t (by
   show Sx p e below T1 m 6 #[rv qa1] [(.int (own_ix (((59 : Int32)).toInt8.toInt32) ([((qi3).toInt8.toInt32), ((qi4).toInt8.toInt32), ((qi5).toInt8.toInt32)] : List Int32) (0 : Int32)))] _
   refine zo X1 Bd d3_6 (XT.i0_lt_f (hc3 : ¬ ((own_ix (((59 : Int32)).toInt8.toInt32) ([((qi3).toInt8.toInt32), ((qi4).toInt8.toInt32), ((qi5).toInt8.toInt32)] : List Int32) (0 : Int32)) < (0 : Int32)))) ?_
   refine zb X1 Bd d3_9 rfl rfl ?_
   refine zd X1 Bd d3_10 ?_
   refine st4 _ ?_
   exact k)
  by_cases hc6 : (own_ix (((38 : Int32)).toInt8.toInt32) ([((qi3).toInt8.toInt32), ((qi4).toInt8.toInt32), ((qi5).toInt8.toInt32)] : List Int32) (0 : Int32)) < (0 : Int32)
  ·
   skip
   refine own_lvF X4 Bd (.int 59) e4q ⟨(by rw [own_sep, if_neg (show ¬ own_ix (59 : Int32) ([((qi3).toInt8.toInt32), ((qi4).toInt8.toInt32), ((qi5).toInt8.toInt32)] : List Int32) (0 : Int32) < (0 : Int32) from hc3), if_pos (show own_ix (38 : Int32) ([((qi3).toInt8.toInt32), ((qi4).toInt8.toInt32), ((qi5).toInt8.toInt32)] : List Int32) (0 : Int32) < (0 : Int32) from hc6)] <;> rfl), N4, rfl⟩ rfl (fun fs hr => pr5 _ (by
    show Sx p e below T4 m 15 #[rv qa1] [(.int (own_ix (((38 : Int32)).toInt8.toInt32) ([((qi3).toInt8.toInt32), ((qi4).toInt8.toInt32), ((qi5).toInt8.toInt32)] : List Int32) (0 : Int32)))] _
    refine zo X4 Bd d3_15 (XT.i0_ge_f (hc6 : (own_ix (((38 : Int32)).toInt8.toInt32) ([((qi3).toInt8.toInt32), ((qi4).toInt8.toInt32), ((qi5).toInt8.toInt32)] : List Int32) (0 : Int32)) < (0 : Int32))) ?_
    refine zd X4 Bd d3_18 ?_
    refine zg (pc' := 25) X4 Bd d3_20 rfl ?_
    exact retN X4 hx (t := .char) Bd.returns (by simp) (hb hby d3_25) hr))
  ·
   skip
   refine own_lvF X4 Bd (.int 38) e4q ⟨(by rw [own_sep, if_neg (show ¬ own_ix (59 : Int32) ([((qi3).toInt8.toInt32), ((qi4).toInt8.toInt32), ((qi5).toInt8.toInt32)] : List Int32) (0 : Int32) < (0 : Int32) from hc3), if_neg (show ¬ own_ix (38 : Int32) ([((qi3).toInt8.toInt32), ((qi4).toInt8.toInt32), ((qi5).toInt8.toInt32)] : List Int32) (0 : Int32) < (0 : Int32) from hc6)] <;> rfl), N4, rfl⟩ rfl (fun fs hr => pr5 _ (by
    show Sx p e below T4 m 15 #[rv qa1] [(.int (own_ix (((38 : Int32)).toInt8.toInt32) ([((qi3).toInt8.toInt32), ((qi4).toInt8.toInt32), ((qi5).toInt8.toInt32)] : List Int32) (0 : Int32)))] _
    refine zp (pc' := 23) X4 Bd d3_15 (XT.i0_ge_t (hc6 : ¬ ((own_ix (((38 : Int32)).toInt8.toInt32) ([((qi3).toInt8.toInt32), ((qi4).toInt8.toInt32), ((qi5).toInt8.toInt32)] : List Int32) (0 : Int32)) < (0 : Int32)))) rfl ?_
    refine zd X4 Bd d3_23 ?_
    exact retN X4 hx (t := .char) Bd.returns (by simp) (hb hby d3_25) hr))
-- java/lang/StringUTF16.compress([CI[BII)I
def Q98 (Z : State)  (h0 : Heap) (n0 : Nat) (v : Option Value) (h : Heap) (L : List Loc) : Prop := v = some (.int 0) ∧ Fr n0 L ∧ h = h0
theorem rm98 (l : Launch) (Z : State) (a0 : Array Value) (hw : HW a0 Z) (qa1 : Addr) (qa2 : Addr) (qk3 : ClassId) (qi4 : Int32) (qi5 : Int32) (qi6 : Int32) (qi7 : Int32) (h0 : Heap) (n0 : Nat) (X00 : Old Z n0 h0) (A_qa1 : Arv Z h0 qa1 qk3 .char (4 : Int32) [.int qi4, .int qi5, .int qi6, .int qi7] (.int 0)) (hc3 : (255 : Int32) < qi4) :
    MF l Z Y12_ jdk_52_method_21_code 7 (some .int) (Rm 0 0 0 0) #[.ref qa1, .int 0, .ref qa2, .int 0, .int 4] h0 (Q98 Z  h0 n0) := by
 refine own_sF pn4 rfl (fun m => ef11 m qa1 (0 : Int32) qa2 (0 : Int32) (4 : Int32)) ?_
 intro p e s m below meth c s₁ Bd hZ hh hx hby hml hown hnm X0 e0 pre0
 have N0 := Fr.nil n0
 have av1 := A_qa1
 obtain ⟨cl1, Ar1, q1, S1, N1, H1, Gf1⟩ := av1
 have hin2 : ¬ ((0 : Int32) < 0 ∨ cl1.slots.size ≤ ((0 : Int32) : Int32).toNatClampNeg) := inb_of S1 (by decide)
 have hat2 : cl1.slots[((0 : Int32) : Int32).toNatClampNeg]? = some (.int qi4) := Has.at H1 hin2 rfl
 refine own_lvF X0 Bd (.int 0) e0 ⟨rfl, N0, rfl⟩ rfl (fun fs hr => pre0 _ (by
  show Sx p e below s₁ m 0 #[rv qa1, iv 0, rv qa2, iv 0, iv 4, .unset, .unset] [] _
  refine zc X0 Bd d12_0 ?_
  refine zs X0 Bd d12_1 (l' := #[rv qa1, iv 0, rv qa2, iv 0, iv 4, iv 0, .unset]) rfl ?_
  refine zi X0 Bd d12_3 rfl ?_
  refine zi X0 Bd d12_5 rfl ?_
  refine zn X0 Bd d12_7 (XT.ii_ge_f ((by decide) : (0 : Int32) < (4 : Int32))) ?_
  refine zb X0 Bd d12_10 rfl rfl ?_
  refine zj X0 Bd d12_11 rfl ?_
  refine X0.caload hx (j := (0 : Int32)) (v := (.int qi4)) (by rw [e0]; exact Ar1.1) (State.isArrayOf_alike hZ.alike Ar1.2.1) Ar1.2.2 hin2 hat2 (g := (mkF m 12 #[rv qa1, iv 0, rv qa2, iv 0, iv 4, iv 0, .unset] [.int 0, .ref qa1])) rfl rfl (hb hby d12_12) _ ?_
  refine zs X0 Bd d12_13 (l' := #[rv qa1, iv 0, rv qa2, iv 0, iv 4, iv 0, iv qi4]) rfl ?_
  refine zi X0 Bd d12_15 rfl ?_
  refine XS.sipush X0.here hx rfl (hb hby d12_17) ?_
  refine zn X0 Bd d12_20 (XT.ii_le_f (hc3 : (255 : Int32) < qi4)) ?_
  refine zi X0 Bd d12_23 rfl ?_
  exact retI X0 hx Bd.returns (hb hby d12_25) hr))
-- java/lang/StringUTF16.newBytesLength(I)I
def Q99 (Z : State)  (h0 : Heap) (n0 : Nat) (v : Option Value) (h : Heap) (L : List Loc) : Prop := v = some (.int 8) ∧ Fr n0 L ∧ h = h0
theorem rm99 (l : Launch) (Z : State) (a0 : Array Value) (hw : HW a0 Z)  (h0 : Heap) (n0 : Nat) (X00 : Old Z n0 h0)  :
    MF l Z Y13_ jdk_52_method_3_code 1 (some .int) (Rm 0 0 0 0) #[.int 4] h0 (Q99 Z  h0 n0) := by
 refine own_sF pn4 rfl (fun m => ef8 m (4 : Int32)) ?_
 intro p e s m below meth c s₁ Bd hZ hh hx hby hml hown hnm X0 e0 pre0
 have N0 := Fr.nil n0
 refine own_lvF X0 Bd (.int 8) e0 ⟨rfl, N0, rfl⟩ rfl (fun fs hr => pre0 _ (by
  show Sx p e below s₁ m 0 #[iv 4] [] _
  refine zj X0 Bd d15_0 rfl ?_
  refine zp (pc' := 12) X0 Bd d15_1 (XT.i0_ge_t ((by decide) : ¬ ((4 : Int32) < (0 : Int32)))) rfl ?_
  refine zj X0 Bd d15_12 rfl ?_
  refine X0.ldcInt hx hown (mvT hZ (w94_ hw)) (g := (mkF m 13 #[iv 4] [.int 4])) rfl (hb hby d15_13) _ ?_
  refine zy (pc' := 55) X0 Bd d15_15 (XT.ii_lt_t ((by decide) : (4 : Int32) < (1073741823 : Int32))) rfl ?_
  refine zj X0 Bd d15_55 rfl ?_
  refine zc X0 Bd d15_56 ?_
  refine XS.ishl X0.here hx rfl (hb hby d15_57) rfl ?_
  exact retI X0 hx Bd.returns (hb hby d15_58) hr))
-- java/lang/StringUTF16.newBytesFor(I)[B
def Q100 (Z : State)  (h0 : Heap) (n0 : Nat) (v : Option Value) (h : Heap) (L : List Loc) : Prop := ∃ b2 : Addr, ∃ c2 : ClassId, v = some (.ref b2) ∧ Fr n0 L ∧ Keep h0 h [] ∧ h0.size ≤ b2 ∧ Arv Z h b2 c2 .byte (8 : Int32) [.int 0, .int 0, .int 0, .int 0, .int 0, .int 0, .int 0, .int 0] (.int 0)
theorem rm100 (l : Launch) (Z : State) (a0 : Array Value) (hw : HW a0 Z)  (h0 : Heap) (n0 : Nat) (X00 : Old Z n0 h0)  :
    MF l Z Y14_ jdk_52_method_2_code 1 (some (.array .byte)) (Rm 1 1 8 12) #[.int 4] h0 (Q100 Z  h0 n0) := by
 refine own_sF pn4 rfl (fun m => ef8 m (4 : Int32)) ?_
 intro p e s m below meth c s₁ Bd hZ hh hx hby hml hown hnm X0 e0 pre0
 have N0 := Fr.nil n0
 obtain ⟨_, T1, L1, X1, hQ1, st1⟩ := own_cS 0 0 [] 1 #[iv 4] X0 hx hZ hown (w91_ hw) (w92_ hw) (w74_ hw) (w93_ hw) (rm99 l Z a0 hw   h0 n0 X00 ) pd8 hml.symm (hb hby d14_1) e0 rfl rfl rfl rfl (by decide)
 obtain ⟨rfl, N1q, e1q⟩ := hQ1
 have N1 := Fr.app N0 N1q
 obtain ⟨T2, h2, c2, X2, e2, E2, A2, st2⟩ := newP (aty := .byte) X1 hx hZ (w21_ hw) e1q (g := (mkF m 4 #[iv 4] [.int 8])) rfl (hb hby d14_4) rfl (by decide) (cap := 8) (by decide) (lE rfl) (lE rfl) (lE rfl)
 obtain ⟨b2, g2⟩ : ∃ z, z = h0.size := ⟨_, rfl⟩
 rw [← g2] at A2 st2
 replace X2 : Stand p l e (Rm 1 1 8 12) s m #[.int 4] below meth c T2 _ 1 8 := X2
 have K3 := (Keep.refl h0 []).ext E2
 have A4_ : Arv Z h2 b2 c2 .byte (8 : Int32) [.int 0, .int 0, .int 0, .int 0, .int 0, .int 0, .int 0, .int 0] (.int 0) := (Arv.new A2 (by decide)).pad (pad_rep [] (.int 0) 8)
 have sz_b2 : h0.size ≤ b2 := (Nat.le_of_eq g2.symm)
 refine own_lvF X2 Bd (.ref b2) e2 ⟨b2, c2, rfl, N1, K3, sz_b2, A4_⟩ rfl (fun fs hr => pre0 _ (by
  show Sx p e below s₁ m 0 #[iv 4] [] _
  refine zj X0 Bd d14_0 rfl ?_
  refine st1 _ ?_
  refine st2 _ ?_
  exact retOut X2 hx Bd.returns rfl (Or.inr (Or.inr (Or.inr (Or.inr ⟨rfl, rfl, rfl⟩)))) (hb hby d14_6) hr))
-- java/lang/StringUTF16.putChar([BII)V
def Q101 (Z : State) (qa1 : Addr) (qi2 : Int32) (qi3 : Int32) (qk4 : ClassId) (qi5 : Int32) (qi6 : Int32) (qi7 : Int32) (qi8 : Int32) (qi9 : Int32) (qi10 : Int32) (qi11 : Int32) (qi12 : Int32) (h0 : Heap) (n0 : Nat) (v : Option Value) (h : Heap) (L : List Loc) : Prop := v = none ∧ Fr n0 L ∧ Keep h0 h [qa1] ∧ Arv Z h qa1 qk4 .byte (8 : Int32) (((([qi5, qi6, qi7, qi8, qi9, qi10, qi11, qi12] : List Int32).set (((qi2 <<< ((1 : Int32) &&& 31)))).toNatClampNeg ((((qi3 >>> ((0 : Int32) &&& 31)))).toInt8.toInt32)).set ((((qi2 <<< ((1 : Int32) &&& 31))) + (1 : Int32))).toNatClampNeg ((((qi3 >>> ((8 : Int32) &&& 31)))).toInt8.toInt32)).map Value.int) (.int 0)
theorem rm101 (l : Launch) (Z : State) (a0 : Array Value) (hw : HW a0 Z) (qa1 : Addr) (qi2 : Int32) (qi3 : Int32) (qk4 : ClassId) (qi5 : Int32) (qi6 : Int32) (qi7 : Int32) (qi8 : Int32) (qi9 : Int32) (qi10 : Int32) (qi11 : Int32) (qi12 : Int32) (h0 : Heap) (n0 : Nat) (X00 : Old Z n0 h0) (uS12 : Sta Z Z.heap "java/lang/StringUTF16" "$assertionsDisabled" "Z" (.int 1)) (uS15 : Sta Z Z.heap "java/lang/StringUTF16" "HI_BYTE_SHIFT" "I" (.int 0)) (uS18 : Sta Z Z.heap "java/lang/StringUTF16" "LO_BYTE_SHIFT" "I" (.int 8)) (A_qa1 : Arv Z h0 qa1 qk4 .byte (8 : Int32) [.int qi5, .int qi6, .int qi7, .int qi8, .int qi9, .int qi10, .int qi11, .int qi12] (.int 0)) (hc4 : ¬ (qi2 < (0 : Int32))) (hc5 : qi2 < (4 : Int32)) (g_qa1 : n0 ≤ qa1) :
    MF l Z Y15_ jdk_52_method_4_code 3 none (Rm 0 0 0 0) #[.ref qa1, .int qi2, .int qi3] h0 (Q101 Z qa1 qi2 qi3 qk4 qi5 qi6 qi7 qi8 qi9 qi10 qi11 qi12 h0 n0) := by
 refine own_sF pn4 rfl (fun m => ef6 m qa1 qi2 qi3) ?_
 intro p e s m below meth c s₁ Bd hZ hh hx hby hml hown hnm X0 e0 pre0
 have N0 := Fr.nil n0
 obtain ⟨T1, X1, e1, st1⟩ := getS2 X0 hx hZ hown (host := "") (Or.inl (w98_ hw)) Via.refl e0 (uS12.ext X00.2) (g := (mkF m 0 #[rv qa1, iv qi2, iv qi3] [])) rfl (hb hby d16_0)
 obtain ⟨T2, X2, e2, st2⟩ := getS2 X1 hx hZ hown (host := "") (Or.inl (w99_ hw)) Via.refl e1 (uS15.ext X00.2) (g := (mkF m 38 #[rv qa1, iv (((qi2 <<< ((1 : Int32) &&& 31))) + (1 : Int32)), iv qi3] [.int qi3, (.int ((qi2 <<< ((1 : Int32) &&& 31)))), .ref qa1])) rfl (hb hby d16_38)
 have A3_ : Arv Z h0 qa1 qk4 .byte (8 : Int32) (([qi5, qi6, qi7, qi8, qi9, qi10, qi11, qi12] : List Int32).map Value.int) (.int 0) := A_qa1
 have av6 := A3_
 obtain ⟨cl6, Ar6, q6, S6, N6, H6, Gf6⟩ := av6
 have hin7 : ¬ (((qi2 <<< ((1 : Int32) &&& 31))) < 0 ∨ cl6.slots.size ≤ (((qi2 <<< ((1 : Int32) &&& 31))) : Int32).toNatClampNeg) := inb_of S6 (own_shla4 hc4 hc5)
 obtain ⟨T7, h7, X7, e7, W7, st7⟩ := stB X2 hx hZ e2 Ar6 (j := ((qi2 <<< ((1 : Int32) &&& 31)))) hin7 (g := (mkF m 43 #[rv qa1, iv (((qi2 <<< ((1 : Int32) &&& 31))) + (1 : Int32)), iv qi3] [(.int ((((qi3 >>> ((0 : Int32) &&& 31)))).toInt8.toInt32)), (.int ((qi2 <<< ((1 : Int32) &&& 31)))), .ref qa1])) rfl rfl (hb hby d16_43)
 have N7_ := Fr.snoc X7 N0 g_qa1
 have K8 := (Keep.refl h0 [qa1]).wr W7 (Or.inl (mI 0 rfl))
 have A9_ : Arv Z h7 qa1 qk4 .byte (8 : Int32) ((([qi5, qi6, qi7, qi8, qi9, qi10, qi11, qi12] : List Int32).set (((qi2 <<< ((1 : Int32) &&& 31)))).toNatClampNeg ((((qi3 >>> ((0 : Int32) &&& 31)))).toInt8.toInt32)).map Value.int) (.int 0) := by rw [List.map_set]; have q := Arv.set (v := .int (nar .byte ((((qi3 >>> ((0 : Int32) &&& 31)))).toInt8.toInt32))) Ar6 q6 S6 N6 H6 Gf6 (fits_nar_byte _) W7 _ rfl (by rw [List.length_map]; exact own_ltn (k := 8) (by decide) (own_shla4 hc4 hc5)); rw [((own_nar_i2b _) : nar .byte ((((qi3 >>> ((0 : Int32) &&& 31)))).toInt8.toInt32) = ((((qi3 >>> ((0 : Int32) &&& 31)))).toInt8.toInt32))] at q; exact q
 have O11 := X00.wr W7 g_qa1
 obtain ⟨T10, X10, e10, st10⟩ := getS2 X7 hx hZ hown (host := "") (Or.inl (w100_ hw)) Via.refl e7 (uS18.ext O11.2) (g := (mkF m 47 #[rv qa1, iv (((qi2 <<< ((1 : Int32) &&& 31))) + (1 : Int32)), iv qi3] [.int qi3, (.int (((qi2 <<< ((1 : Int32) &&& 31))) + (1 : Int32))), .ref qa1])) rfl (hb hby d16_47)
 have av12 := A9_
 obtain ⟨cl12, Ar12, q12, S12, N12, H12, Gf12⟩ := av12
 have hin13 : ¬ ((((qi2 <<< ((1 : Int32) &&& 31))) + (1 : Int32)) < 0 ∨ cl12.slots.size ≤ ((((qi2 <<< ((1 : Int32) &&& 31))) + (1 : Int32)) : Int32).toNatClampNeg) := inb_of S12 (own_shlb4 hc4 hc5)
 obtain ⟨T13, h13, X13, e13, W13, st13⟩ := stB X10 hx hZ e10 Ar12 (j := (((qi2 <<< ((1 : Int32) &&& 31))) + (1 : Int32))) hin13 (g := (mkF m 52 #[rv qa1, iv (((qi2 <<< ((1 : Int32) &&& 31))) + (1 : Int32)), iv qi3] [(.int ((((qi3 >>> ((8 : Int32) &&& 31)))).toInt8.toInt32)), (.int (((qi2 <<< ((1 : Int32) &&& 31))) + (1 : Int32))), .ref qa1])) rfl rfl (hb hby d16_52)
 have N13_ := Fr.snoc X13 N7_ g_qa1
 have K14 := K8.wr W13 (Or.inl (mI 0 rfl))
 have A15_ : Arv Z h13 qa1 qk4 .byte (8 : Int32) (((([qi5, qi6, qi7, qi8, qi9, qi10, qi11, qi12] : List Int32).set (((qi2 <<< ((1 : Int32) &&& 31)))).toNatClampNeg ((((qi3 >>> ((0 : Int32) &&& 31)))).toInt8.toInt32)).set ((((qi2 <<< ((1 : Int32) &&& 31))) + (1 : Int32))).toNatClampNeg ((((qi3 >>> ((8 : Int32) &&& 31)))).toInt8.toInt32)).map Value.int) (.int 0) := by rw [List.map_set]; have q := Arv.set (v := .int (nar .byte ((((qi3 >>> ((8 : Int32) &&& 31)))).toInt8.toInt32))) Ar12 q12 S12 N12 H12 Gf12 (fits_nar_byte _) W13 _ rfl (by rw [List.length_map, List.length_set]; exact own_ltn (k := 8) (by decide) (own_shlb4 hc4 hc5)); rw [((own_nar_i2b _) : nar .byte ((((qi3 >>> ((8 : Int32) &&& 31)))).toInt8.toInt32) = ((((qi3 >>> ((8 : Int32) &&& 31)))).toInt8.toInt32))] at q; exact q
 refine own_lvN X13 Bd e13 ⟨rfl, N13_, K14, A15_⟩ rfl (fun fs hr => pre0 _ (by
  show Sx p e below s₁ m 0 #[rv qa1, iv qi2, iv qi3] [] _
  refine st1 _ ?_
  refine zp (pc' := 28) X1 Bd d16_3 (XT.i0_ne_t ((by decide) : ¬ ((1 : Int32) = (0 : Int32)))) rfl ?_
  refine zj X1 Bd d16_28 rfl ?_
  refine zc X1 Bd d16_29 ?_
  refine XS.ishl X1.here hx rfl (hb hby d16_30) rfl ?_
  refine zt X1 Bd d16_31 (l' := #[rv qa1, iv ((qi2 <<< ((1 : Int32) &&& 31))), iv qi3]) rfl ?_
  refine zb X1 Bd d16_32 rfl rfl ?_
  refine zj X1 Bd d16_33 rfl ?_
  refine XS.iinc X1.here hx rfl (hb hby d16_34) rfl (l' := #[rv qa1, iv (((qi2 <<< ((1 : Int32) &&& 31))) + (1 : Int32)), iv qi3]) rfl ?_
  refine zj X1 Bd d16_37 rfl ?_
  refine st2 _ ?_
  refine XS.ishr X2.here hx rfl (hb hby d16_41) rfl ?_
  refine XS.i2b X2.here hx rfl (hb hby d16_42) rfl ?_
  refine st7 _ ?_
  refine zb X7 Bd d16_44 rfl rfl ?_
  refine zj X7 Bd d16_45 rfl ?_
  refine zj X7 Bd d16_46 rfl ?_
  refine st10 _ ?_
  refine XS.ishr X10.here hx rfl (hb hby d16_50) rfl ?_
  refine XS.i2b X10.here hx rfl (hb hby d16_51) rfl ?_
  refine st13 _ ?_
  exact X13.returnOut hx Bd.returns (hb hby d16_53) hr))
-- java/lang/StringUTF16.toBytes([CII)[B
def Q102 (Z : State) (qi3 : Int32) (qi4 : Int32) (qi5 : Int32) (qi6 : Int32) (h0 : Heap) (n0 : Nat) (v : Option Value) (h : Heap) (L : List Loc) : Prop := ∃ b2 : Addr, ∃ c3_ : ClassId, v = some (.ref b2) ∧ Fr n0 L ∧ Keep h0 h [] ∧ h0.size ≤ b2 ∧ Arv Z h b2 c3_ .byte (8 : Int32) [(.int ((((qi3 >>> ((0 : Int32) &&& 31)))).toInt8.toInt32)), (.int ((((qi3 >>> ((8 : Int32) &&& 31)))).toInt8.toInt32)), (.int ((((qi4 >>> ((0 : Int32) &&& 31)))).toInt8.toInt32)), (.int ((((qi4 >>> ((8 : Int32) &&& 31)))).toInt8.toInt32)), (.int ((((qi5 >>> ((0 : Int32) &&& 31)))).toInt8.toInt32)), (.int ((((qi5 >>> ((8 : Int32) &&& 31)))).toInt8.toInt32)), (.int ((((qi6 >>> ((0 : Int32) &&& 31)))).toInt8.toInt32)), (.int ((((qi6 >>> ((8 : Int32) &&& 31)))).toInt8.toInt32))] (.int 0)
theorem rm102 (l : Launch) (Z : State) (a0 : Array Value) (hw : HW a0 Z) (qa1 : Addr) (qk2 : ClassId) (qi3 : Int32) (qi4 : Int32) (qi5 : Int32) (qi6 : Int32) (h0 : Heap) (n0 : Nat) (X00 : Old Z n0 h0) (uS12 : Sta Z Z.heap "java/lang/StringUTF16" "$assertionsDisabled" "Z" (.int 1)) (uS15 : Sta Z Z.heap "java/lang/StringUTF16" "HI_BYTE_SHIFT" "I" (.int 0)) (uS18 : Sta Z Z.heap "java/lang/StringUTF16" "LO_BYTE_SHIFT" "I" (.int 8)) (A_qa1 : Arv Z h0 qa1 qk2 .char (4 : Int32) [.int qi3, .int qi4, .int qi5, .int qi6] (.int 0)) :
    MF l Z Y16_ jdk_52_method_14_code 5 (some (.array .byte)) (Rm 2 1 8 24) #[.ref qa1, .int 0, .int 4] h0 (Q102 Z qi3 qi4 qi5 qi6 h0 n0) := by
 refine own_sF pn4 rfl (fun m => ef12 m qa1 (0 : Int32) (4 : Int32)) ?_
 intro p e s m below meth c s₁ Bd hZ hh hx hby hml hown hnm X0 e0 pre0
 have N0 := Fr.nil n0
 obtain ⟨_, T1, L1, X1, hQ1, st1⟩ := own_cS 1 8 [] 1 #[rv qa1, iv 0, iv 4, .unset, .unset] X0 hx hZ hown (w88_ hw) (w89_ hw) (w74_ hw) (w90_ hw) (rm100 l Z a0 hw   h0 n0 X00 ) pd11 hml.symm (hb hby d13_1) e0 rfl rfl rfl rfl (by decide)
 obtain ⟨b2, c3_, rfl, N1q, K1q, w4, w5⟩ := hQ1
 have N1 := Fr.app N0 N1q
 have K6 := (Keep.refl h0 []).trans K1q (fun x q => nomatch q)
 have A8_ := A_qa1.keep K1q nin0
 have av7 := A8_
 obtain ⟨cl7, Ar7, q7, S7, N7, H7, Gf7⟩ := av7
 have hin9 : ¬ ((0 : Int32) < 0 ∨ cl7.slots.size ≤ ((0 : Int32) : Int32).toNatClampNeg) := inb_of S7 (by decide)
 have hat9 : cl7.slots[((0 : Int32) : Int32).toNatClampNeg]? = some (.int qi3) := Has.at H7 hin9 rfl
 have g_b2 : n0 ≤ b2 := Nat.le_trans (Nat.le_trans (Nat.le_of_eq X00.1.symm) X00.2.1) w4
 have O11 := X00.keep K1q all0
 obtain ⟨_, T10, L10, X10, hQ10, st10⟩ := own_cS 1 8 [] 20 #[rv qa1, iv 0, iv 4, rv b2, iv 0] X1 hx hZ hown (w95_ hw) (w96_ hw) (w74_ hw) (w97_ hw) (rm101 l Z a0 hw  b2 (0 : Int32) qi3 c3_ (0 : Int32) (0 : Int32) (0 : Int32) (0 : Int32) (0 : Int32) (0 : Int32) (0 : Int32) (0 : Int32) T1.heap n0 O11 uS12 uS15 uS18 w5 (by decide) (by decide) g_b2) pd12 hml.symm (hb hby d13_20) rfl rfl rfl rfl rfl (by decide)
 obtain ⟨rfl, N10q, K10q, w12⟩ := hQ10
 have N10 := Fr.app N1 N10q
 have sz_b2 : h0.size ≤ b2 := w4
 have K13 := K6.trans K10q (allS (Or.inr sz_b2) all0)
 have A14_ : Arv Z T10.heap b2 c3_ .byte (8 : Int32) [(.int ((((qi3 >>> ((0 : Int32) &&& 31)))).toInt8.toInt32)), (.int ((((qi3 >>> ((8 : Int32) &&& 31)))).toInt8.toInt32)), .int 0, .int 0, .int 0, .int 0, .int 0, .int 0] (.int 0) := w12
 have A16_ := A8_.keep K10q (ninS (Nat.ne_of_lt (Nat.lt_of_lt_of_le A_qa1.lt w4)) nin0)
 have av15 := A16_
 obtain ⟨cl15, Ar15, q15, S15, N15, H15, Gf15⟩ := av15
 have hin17 : ¬ ((1 : Int32) < 0 ∨ cl15.slots.size ≤ ((1 : Int32) : Int32).toNatClampNeg) := inb_of S15 (by decide)
 have hat17 : cl15.slots[((1 : Int32) : Int32).toNatClampNeg]? = some (.int qi4) := Has.at H15 hin17 rfl
 have O19 := O11.keep K10q (allS g_b2 all0)
 obtain ⟨_, T18, L18, X18, hQ18, st18⟩ := own_cS 1 8 [] 20 #[rv qa1, iv 1, iv 4, rv b2, iv 1] X10 hx hZ hown (w95_ hw) (w96_ hw) (w74_ hw) (w97_ hw) (rm101 l Z a0 hw  b2 (1 : Int32) qi4 c3_ ((((qi3 >>> ((0 : Int32) &&& 31)))).toInt8.toInt32) ((((qi3 >>> ((8 : Int32) &&& 31)))).toInt8.toInt32) (0 : Int32) (0 : Int32) (0 : Int32) (0 : Int32) (0 : Int32) (0 : Int32) T10.heap n0 O19 uS12 uS15 uS18 A14_ (by decide) (by decide) g_b2) pd12 hml.symm (hb hby d13_20) rfl rfl rfl rfl rfl (by decide)
 obtain ⟨rfl, N18q, K18q, w20⟩ := hQ18
 have N18 := Fr.app N10 N18q
 have K21 := K13.trans K18q (allS (Or.inr sz_b2) all0)
 have A22_ : Arv Z T18.heap b2 c3_ .byte (8 : Int32) [(.int ((((qi3 >>> ((0 : Int32) &&& 31)))).toInt8.toInt32)), (.int ((((qi3 >>> ((8 : Int32) &&& 31)))).toInt8.toInt32)), (.int ((((qi4 >>> ((0 : Int32) &&& 31)))).toInt8.toInt32)), (.int ((((qi4 >>> ((8 : Int32) &&& 31)))).toInt8.toInt32)), .int 0, .int 0, .int 0, .int 0] (.int 0) := w20
 have A24_ := A16_.keep K18q (ninS (Nat.ne_of_lt (Nat.lt_of_lt_of_le A_qa1.lt w4)) nin0)
 have av23 := A24_
 obtain ⟨cl23, Ar23, q23, S23, N23, H23, Gf23⟩ := av23
 have hin25 : ¬ ((2 : Int32) < 0 ∨ cl23.slots.size ≤ ((2 : Int32) : Int32).toNatClampNeg) := inb_of S23 (by decide)
 have hat25 : cl23.slots[((2 : Int32) : Int32).toNatClampNeg]? = some (.int qi5) := Has.at H23 hin25 rfl
 have O27 := O19.keep K18q (allS g_b2 all0)
 obtain ⟨_, T26, L26, X26, hQ26, st26⟩ := own_cS 1 8 [] 20 #[rv qa1, iv 2, iv 4, rv b2, iv 2] X18 hx hZ hown (w95_ hw) (w96_ hw) (w74_ hw) (w97_ hw) (rm101 l Z a0 hw  b2 (2 : Int32) qi5 c3_ ((((qi3 >>> ((0 : Int32) &&& 31)))).toInt8.toInt32) ((((qi3 >>> ((8 : Int32) &&& 31)))).toInt8.toInt32) ((((qi4 >>> ((0 : Int32) &&& 31)))).toInt8.toInt32) ((((qi4 >>> ((8 : Int32) &&& 31)))).toInt8.toInt32) (0 : Int32) (0 : Int32) (0 : Int32) (0 : Int32) T18.heap n0 O27 uS12 uS15 uS18 A22_ (by decide) (by decide) g_b2) pd12 hml.symm (hb hby d13_20) rfl rfl rfl rfl rfl (by decide)
 obtain ⟨rfl, N26q, K26q, w28⟩ := hQ26
 have N26 := Fr.app N18 N26q
 have K29 := K21.trans K26q (allS (Or.inr sz_b2) all0)
 have A30_ : Arv Z T26.heap b2 c3_ .byte (8 : Int32) [(.int ((((qi3 >>> ((0 : Int32) &&& 31)))).toInt8.toInt32)), (.int ((((qi3 >>> ((8 : Int32) &&& 31)))).toInt8.toInt32)), (.int ((((qi4 >>> ((0 : Int32) &&& 31)))).toInt8.toInt32)), (.int ((((qi4 >>> ((8 : Int32) &&& 31)))).toInt8.toInt32)), (.int ((((qi5 >>> ((0 : Int32) &&& 31)))).toInt8.toInt32)), (.int ((((qi5 >>> ((8 : Int32) &&& 31)))).toInt8.toInt32)), .int 0, .int 0] (.int 0) := w28
 have A32_ := A24_.keep K26q (ninS (Nat.ne_of_lt (Nat.lt_of_lt_of_le A_qa1.lt w4)) nin0)
 have av31 := A32_
 obtain ⟨cl31, Ar31, q31, S31, N31, H31, Gf31⟩ := av31
 have hin33 : ¬ ((3 : Int32) < 0 ∨ cl31.slots.size ≤ ((3 : Int32) : Int32).toNatClampNeg) := inb_of S31 (by decide)
 have hat33 : cl31.slots[((3 : Int32) : Int32).toNatClampNeg]? = some (.int qi6) := Has.at H31 hin33 rfl
 have O35 := O27.keep K26q (allS g_b2 all0)
 obtain ⟨_, T34, L34, X34, hQ34, st34⟩ := own_cS 1 8 [] 20 #[rv qa1, iv 3, iv 4, rv b2, iv 3] X26 hx hZ hown (w95_ hw) (w96_ hw) (w74_ hw) (w97_ hw) (rm101 l Z a0 hw  b2 (3 : Int32) qi6 c3_ ((((qi3 >>> ((0 : Int32) &&& 31)))).toInt8.toInt32) ((((qi3 >>> ((8 : Int32) &&& 31)))).toInt8.toInt32) ((((qi4 >>> ((0 : Int32) &&& 31)))).toInt8.toInt32) ((((qi4 >>> ((8 : Int32) &&& 31)))).toInt8.toInt32) ((((qi5 >>> ((0 : Int32) &&& 31)))).toInt8.toInt32) ((((qi5 >>> ((8 : Int32) &&& 31)))).toInt8.toInt32) (0 : Int32) (0 : Int32) T26.heap n0 O35 uS12 uS15 uS18 A30_ (by decide) (by decide) g_b2) pd12 hml.symm (hb hby d13_20) rfl rfl rfl rfl rfl (by decide)
 obtain ⟨rfl, N34q, K34q, w36⟩ := hQ34
 have N34 := Fr.app N26 N34q
 have K37 := K29.trans K34q (allS (Or.inr sz_b2) all0)
 have A38_ : Arv Z T34.heap b2 c3_ .byte (8 : Int32) [(.int ((((qi3 >>> ((0 : Int32) &&& 31)))).toInt8.toInt32)), (.int ((((qi3 >>> ((8 : Int32) &&& 31)))).toInt8.toInt32)), (.int ((((qi4 >>> ((0 : Int32) &&& 31)))).toInt8.toInt32)), (.int ((((qi4 >>> ((8 : Int32) &&& 31)))).toInt8.toInt32)), (.int ((((qi5 >>> ((0 : Int32) &&& 31)))).toInt8.toInt32)), (.int ((((qi5 >>> ((8 : Int32) &&& 31)))).toInt8.toInt32)), (.int ((((qi6 >>> ((0 : Int32) &&& 31)))).toInt8.toInt32)), (.int ((((qi6 >>> ((8 : Int32) &&& 31)))).toInt8.toInt32))] (.int 0) := w36
 refine own_lvF X34 Bd (.ref b2) rfl ⟨b2, c3_, rfl, N34, K37, sz_b2, A38_⟩ rfl (fun fs hr => pre0 _ (by
  show Sx p e below s₁ m 0 #[rv qa1, iv 0, iv 4, .unset, .unset] [] _
  refine zj X0 Bd d13_0 rfl ?_
  refine st1 _ ?_
  refine XS.astoreN X1.here hx rfl (hb hby d13_4) rfl rfl (l' := #[rv qa1, iv 0, iv 4, rv b2, .unset]) rfl ?_
  refine zc X1 Bd d13_5 ?_
  refine zs X1 Bd d13_6 (l' := #[rv qa1, iv 0, iv 4, rv b2, iv 0]) rfl ?_
  refine zi X1 Bd d13_8 rfl ?_
  refine zj X1 Bd d13_10 rfl ?_
  refine zn X1 Bd d13_11 (XT.ii_ge_f ((by decide) : (0 : Int32) < (4 : Int32))) ?_
  refine zb X1 Bd d13_14 rfl rfl ?_
  refine zi X1 Bd d13_15 rfl ?_
  refine zb X1 Bd d13_17 rfl rfl ?_
  refine zj X1 Bd d13_18 rfl ?_
  refine X1.caload hx (j := (0 : Int32)) (v := (.int qi3)) Ar7.1 (State.isArrayOf_alike hZ.alike Ar7.2.1) Ar7.2.2 hin9 hat9 (g := (mkF m 19 #[rv qa1, iv 0, iv 4, rv b2, iv 0] [.int 0, .ref qa1, .int 0, .ref b2])) rfl rfl (hb hby d13_19) _ ?_
  refine st10 _ ?_
  refine XS.iinc X10.here hx rfl (hb hby d13_23) rfl (l' := #[rv qa1, iv 1, iv 4, rv b2, iv 0]) rfl ?_
  refine XS.iinc X10.here hx rfl (hb hby d13_26) rfl (l' := #[rv qa1, iv 1, iv 4, rv b2, iv 1]) rfl ?_
  refine zg (pc' := 8) X10 Bd d13_29 rfl ?_
  refine zi X10 Bd d13_8 rfl ?_
  refine zj X10 Bd d13_10 rfl ?_
  refine zn X10 Bd d13_11 (XT.ii_ge_f ((by decide) : (1 : Int32) < (4 : Int32))) ?_
  refine zb X10 Bd d13_14 rfl rfl ?_
  refine zi X10 Bd d13_15 rfl ?_
  refine zb X10 Bd d13_17 rfl rfl ?_
  refine zj X10 Bd d13_18 rfl ?_
  refine X10.caload hx (j := (1 : Int32)) (v := (.int qi4)) Ar15.1 (State.isArrayOf_alike hZ.alike Ar15.2.1) Ar15.2.2 hin17 hat17 (g := (mkF m 19 #[rv qa1, iv 1, iv 4, rv b2, iv 1] [.int 1, .ref qa1, .int 1, .ref b2])) rfl rfl (hb hby d13_19) _ ?_
  show Sx p e below T10 m 20 #[rv qa1, iv 1, iv 4, rv b2, iv 1] [.int qi4, .int 1, .ref b2] _
  refine st18 _ ?_
  refine XS.iinc X18.here hx rfl (hb hby d13_23) rfl (l' := #[rv qa1, iv 2, iv 4, rv b2, iv 1]) rfl ?_
  refine XS.iinc X18.here hx rfl (hb hby d13_26) rfl (l' := #[rv qa1, iv 2, iv 4, rv b2, iv 2]) rfl ?_
  refine zg (pc' := 8) X18 Bd d13_29 rfl ?_
  refine zi X18 Bd d13_8 rfl ?_
  refine zj X18 Bd d13_10 rfl ?_
  refine zn X18 Bd d13_11 (XT.ii_ge_f ((by decide) : (2 : Int32) < (4 : Int32))) ?_
  refine zb X18 Bd d13_14 rfl rfl ?_
  refine zi X18 Bd d13_15 rfl ?_
  refine zb X18 Bd d13_17 rfl rfl ?_
  refine zj X18 Bd d13_18 rfl ?_
  refine X18.caload hx (j := (2 : Int32)) (v := (.int qi5)) Ar23.1 (State.isArrayOf_alike hZ.alike Ar23.2.1) Ar23.2.2 hin25 hat25 (g := (mkF m 19 #[rv qa1, iv 2, iv 4, rv b2, iv 2] [.int 2, .ref qa1, .int 2, .ref b2])) rfl rfl (hb hby d13_19) _ ?_
  refine st26 _ ?_
  refine XS.iinc X26.here hx rfl (hb hby d13_23) rfl (l' := #[rv qa1, iv 3, iv 4, rv b2, iv 2]) rfl ?_
  refine XS.iinc X26.here hx rfl (hb hby d13_26) rfl (l' := #[rv qa1, iv 3, iv 4, rv b2, iv 3]) rfl ?_
  refine zg (pc' := 8) X26 Bd d13_29 rfl ?_
  refine zi X26 Bd d13_8 rfl ?_
  refine zj X26 Bd d13_10 rfl ?_
  refine zn X26 Bd d13_11 (XT.ii_ge_f ((by decide) : (3 : Int32) < (4 : Int32))) ?_
  refine zb X26 Bd d13_14 rfl rfl ?_
  refine zi X26 Bd d13_15 rfl ?_
  refine zb X26 Bd d13_17 rfl rfl ?_
  refine zj X26 Bd d13_18 rfl ?_
  refine X26.caload hx (j := (3 : Int32)) (v := (.int qi6)) Ar31.1 (State.isArrayOf_alike hZ.alike Ar31.2.1) Ar31.2.2 hin33 hat33 (g := (mkF m 19 #[rv qa1, iv 3, iv 4, rv b2, iv 3] [.int 3, .ref qa1, .int 3, .ref b2])) rfl rfl (hb hby d13_19) _ ?_
  refine st34 _ ?_
  show Sx p e below T34 m 23 #[rv qa1, iv 3, iv 4, rv b2, iv 3] [] _
  refine XS.iinc X34.here hx rfl (hb hby d13_23) rfl (l' := #[rv qa1, iv 4, iv 4, rv b2, iv 3]) rfl ?_
  refine XS.iinc X34.here hx rfl (hb hby d13_26) rfl (l' := #[rv qa1, iv 4, iv 4, rv b2, iv 4]) rfl ?_
  refine zg (pc' := 8) X34 Bd d13_29 rfl ?_
  refine zi X34 Bd d13_8 rfl ?_
  refine zj X34 Bd d13_10 rfl ?_
  refine zy (pc' := 32) X34 Bd d13_11 (XT.ii_ge_t ((by decide) : ¬ ((4 : Int32) < (4 : Int32)))) rfl ?_
  refine zb X34 Bd d13_32 rfl rfl ?_
  exact retOut X34 hx Bd.returns rfl (Or.inr (Or.inr (Or.inr (Or.inr ⟨rfl, rfl, rfl⟩)))) (hb hby d13_33) hr))
-- java/lang/StringUTF16.getChar([BI)C
def Q103 (Z : State) (qi2 : Int32) (qi4 : Int32) (qi5 : Int32) (qi6 : Int32) (qi7 : Int32) (qi8 : Int32) (qi9 : Int32) (qi10 : Int32) (qi11 : Int32) (h0 : Heap) (n0 : Nat) (v : Option Value) (h : Heap) (L : List Loc) : Prop := v = some (.int (((((((own_at ([qi4, qi5, qi6, qi7, qi8, qi9, qi10, qi11] : List Int32) ((qi2 <<< ((1 : Int32) &&& 31)))) &&& (255 : Int32)) <<< ((0 : Int32) &&& 31))) ||| ((((own_at ([qi4, qi5, qi6, qi7, qi8, qi9, qi10, qi11] : List Int32) (((qi2 <<< ((1 : Int32) &&& 31))) + (1 : Int32))) &&& (255 : Int32)) <<< ((8 : Int32) &&& 31))))).toUInt32.toUInt16.toUInt32.toInt32)) ∧ Fr n0 L ∧ h = h0
theorem rm103 (l : Launch) (Z : State) (a0 : Array Value) (hw : HW a0 Z) (qa1 : Addr) (qi2 : Int32) (qk3 : ClassId) (qi4 : Int32) (qi5 : Int32) (qi6 : Int32) (qi7 : Int32) (qi8 : Int32) (qi9 : Int32) (qi10 : Int32) (qi11 : Int32) (h0 : Heap) (n0 : Nat) (X00 : Old Z n0 h0) (uS12 : Sta Z Z.heap "java/lang/StringUTF16" "$assertionsDisabled" "Z" (.int 1)) (uS15 : Sta Z Z.heap "java/lang/StringUTF16" "HI_BYTE_SHIFT" "I" (.int 0)) (uS18 : Sta Z Z.heap "java/lang/StringUTF16" "LO_BYTE_SHIFT" "I" (.int 8)) (A_qa1 : Arv Z h0 qa1 qk3 .byte (8 : Int32) [.int qi4, .int qi5, .int qi6, .int qi7, .int qi8, .int qi9, .int qi10, .int qi11] (.int 0)) (hc3 : ¬ (qi2 < (0 : Int32))) (hc4 : qi2 < (4 : Int32)) :
    MF l Z Y17_ jdk_52_method_5_code 2 (some .char) (Rm 0 0 0 0) #[.ref qa1, .int qi2] h0 (Q103 Z qi2 qi4 qi5 qi6 qi7 qi8 qi9 qi10 qi11 h0 n0) := by
 refine own_sF pn4 rfl (fun m => ef5 m qa1 qi2) ?_
 intro p e s m below meth c s₁ Bd hZ hh hx hby hml hown hnm X0 e0 pre0
 have N0 := Fr.nil n0
 obtain ⟨T1, X1, e1, st1⟩ := getS2 X0 hx hZ hown (host := "") (Or.inl (w98_ hw)) Via.refl e0 (uS12.ext X00.2) (g := (mkF m 0 #[rv qa1, iv qi2] [])) rfl (hb hby d17_0)
 have A2_ : Arv Z h0 qa1 qk3 .byte (8 : Int32) (([qi4, qi5, qi6, qi7, qi8, qi9, qi10, qi11] : List Int32).map Value.int) (.int 0) := A_qa1
 have av5 := A2_
 obtain ⟨cl5, Ar5, q5, S5, N5, H5, Gf5⟩ := av5
 have hin6 : ¬ (((qi2 <<< ((1 : Int32) &&& 31))) < 0 ∨ cl5.slots.size ≤ (((qi2 <<< ((1 : Int32) &&& 31))) : Int32).toNatClampNeg) := inb_of S5 (own_shla4 hc3 hc4)
 have hat6 : cl5.slots[(((qi2 <<< ((1 : Int32) &&& 31))) : Int32).toNatClampNeg]? = some (.int (own_at ([qi4, qi5, qi6, qi7, qi8, qi9, qi10, qi11] : List Int32) ((qi2 <<< ((1 : Int32) &&& 31))))) := Has.at H5 hin6 (own_atV _ _)
 obtain ⟨T7, X7, e7, st7⟩ := getS2 X1 hx hZ hown (host := "") (Or.inl (w99_ hw)) Via.refl e1 (uS15.ext X00.2) (g := (mkF m 42 #[rv qa1, iv (((qi2 <<< ((1 : Int32) &&& 31))) + (1 : Int32))] [(.int ((own_at ([qi4, qi5, qi6, qi7, qi8, qi9, qi10, qi11] : List Int32) ((qi2 <<< ((1 : Int32) &&& 31)))) &&& (255 : Int32)))])) rfl (hb hby d17_42)
 have av8 := A2_
 obtain ⟨cl8, Ar8, q8, S8, N8, H8, Gf8⟩ := av8
 have hin9 : ¬ ((((qi2 <<< ((1 : Int32) &&& 31))) + (1 : Int32)) < 0 ∨ cl8.slots.size ≤ ((((qi2 <<< ((1 : Int32) &&& 31))) + (1 : Int32)) : Int32).toNatClampNeg) := inb_of S8 (own_shlb4 hc3 hc4)
 have hat9 : cl8.slots[((((qi2 <<< ((1 : Int32) &&& 31))) + (1 : Int32)) : Int32).toNatClampNeg]? = some (.int (own_at ([qi4, qi5, qi6, qi7, qi8, qi9, qi10, qi11] : List Int32) (((qi2 <<< ((1 : Int32) &&& 31))) + (1 : Int32)))) := Has.at H8 hin9 (own_atV _ _)
 obtain ⟨T10, X10, e10, st10⟩ := getS2 X7 hx hZ hown (host := "") (Or.inl (w100_ hw)) Via.refl e7 (uS18.ext X00.2) (g := (mkF m 53 #[rv qa1, iv (((qi2 <<< ((1 : Int32) &&& 31))) + (1 : Int32))] [(.int ((own_at ([qi4, qi5, qi6, qi7, qi8, qi9, qi10, qi11] : List Int32) (((qi2 <<< ((1 : Int32) &&& 31))) + (1 : Int32))) &&& (255 : Int32))), (.int ((((own_at ([qi4, qi5, qi6, qi7, qi8, qi9, qi10, qi11] : List Int32) ((qi2 <<< ((1 : Int32) &&& 31)))) &&& (255 : Int32)) <<< ((0 : Int32) &&& 31))))])) rfl (hb hby d17_53)
 refine own_lvF X10 Bd (.int (nar .char (((((((own_at ([qi4, qi5, qi6, qi7, qi8, qi9, qi10, qi11] : List Int32) ((qi2 <<< ((1 : Int32) &&& 31)))) &&& (255 : Int32)) <<< ((0 : Int32) &&& 31))) ||| ((((own_at ([qi4, qi5, qi6, qi7, qi8, qi9, qi10, qi11] : List Int32) (((qi2 <<< ((1 : Int32) &&& 31))) + (1 : Int32))) &&& (255 : Int32)) <<< ((8 : Int32) &&& 31))))).toUInt32.toUInt16.toUInt32.toInt32))) e10 ⟨(congrArg (fun z => some (Value.int z)) (own_nar_i2c _)), N0, rfl⟩ rfl (fun fs hr => pre0 _ (by
  show Sx p e below s₁ m 0 #[rv qa1, iv qi2] [] _
  refine st1 _ ?_
  refine zp (pc' := 28) X1 Bd d17_3 (XT.i0_ne_t ((by decide) : ¬ ((1 : Int32) = (0 : Int32)))) rfl ?_
  refine zj X1 Bd d17_28 rfl ?_
  refine zc X1 Bd d17_29 ?_
  refine XS.ishl X1.here hx rfl (hb hby d17_30) rfl ?_
  refine zt X1 Bd d17_31 (l' := #[rv qa1, iv ((qi2 <<< ((1 : Int32) &&& 31)))]) rfl ?_
  refine zb X1 Bd d17_32 rfl rfl ?_
  refine zj X1 Bd d17_33 rfl ?_
  refine XS.iinc X1.here hx rfl (hb hby d17_34) rfl (l' := #[rv qa1, iv (((qi2 <<< ((1 : Int32) &&& 31))) + (1 : Int32))]) rfl ?_
  refine X1.baloadBytes hx (j := ((qi2 <<< ((1 : Int32) &&& 31)))) (v := (.int (own_at ([qi4, qi5, qi6, qi7, qi8, qi9, qi10, qi11] : List Int32) ((qi2 <<< ((1 : Int32) &&& 31)))))) (by rw [e1]; exact Ar5.1) (State.isArrayOf_alike hZ.alike Ar5.2.1) Ar5.2.2 hin6 hat6 (g := (mkF m 37 #[rv qa1, iv (((qi2 <<< ((1 : Int32) &&& 31))) + (1 : Int32))] [(.int ((qi2 <<< ((1 : Int32) &&& 31)))), .ref qa1])) rfl rfl (hb hby d17_37) _ ?_
  refine XS.sipush X1.here hx rfl (hb hby d17_38) ?_
  refine XS.iand X1.here hx rfl (hb hby d17_41) rfl ?_
  refine st7 _ ?_
  refine XS.ishl X7.here hx rfl (hb hby d17_45) rfl ?_
  refine zb X7 Bd d17_46 rfl rfl ?_
  refine zj X7 Bd d17_47 rfl ?_
  refine X7.baloadBytes hx (j := (((qi2 <<< ((1 : Int32) &&& 31))) + (1 : Int32))) (v := (.int (own_at ([qi4, qi5, qi6, qi7, qi8, qi9, qi10, qi11] : List Int32) (((qi2 <<< ((1 : Int32) &&& 31))) + (1 : Int32))))) (by rw [e7]; exact Ar8.1) (State.isArrayOf_alike hZ.alike Ar8.2.1) Ar8.2.2 hin9 hat9 (g := (mkF m 48 #[rv qa1, iv (((qi2 <<< ((1 : Int32) &&& 31))) + (1 : Int32))] [(.int (((qi2 <<< ((1 : Int32) &&& 31))) + (1 : Int32))), .ref qa1, (.int ((((own_at ([qi4, qi5, qi6, qi7, qi8, qi9, qi10, qi11] : List Int32) ((qi2 <<< ((1 : Int32) &&& 31)))) &&& (255 : Int32)) <<< ((0 : Int32) &&& 31))))])) rfl rfl (hb hby d17_48) _ ?_
  refine XS.sipush X7.here hx rfl (hb hby d17_49) ?_
  refine XS.iand X7.here hx rfl (hb hby d17_52) rfl ?_
  refine st10 _ ?_
  refine XS.ishl X10.here hx rfl (hb hby d17_56) rfl ?_
  refine XS.ior X10.here hx rfl (hb hby d17_57) rfl ?_
  refine XS.i2c X10.here hx rfl (hb hby d17_58) rfl ?_
  exact retN X10 hx (t := .char) Bd.returns (by simp) (hb hby d17_59) hr))
-- java/lang/StringUTF16.compress([CI[BII)I
def Q104 (Z : State) (qa2 : Addr) (qi4 : Int32) (qk8 : ClassId) (h0 : Heap) (n0 : Nat) (v : Option Value) (h : Heap) (L : List Loc) : Prop := v = some (.int 1) ∧ Fr n0 L ∧ Keep h0 h [qa2] ∧ Arv Z h qa2 qk8 .byte (4 : Int32) [(.int ((qi4).toInt8.toInt32)), .int 0, .int 0, .int 0] (.int 0)
theorem rm104 (l : Launch) (Z : State) (a0 : Array Value) (hw : HW a0 Z) (qa1 : Addr) (qa2 : Addr) (qk3 : ClassId) (qi4 : Int32) (qi5 : Int32) (qi6 : Int32) (qi7 : Int32) (qk8 : ClassId) (h0 : Heap) (n0 : Nat) (X00 : Old Z n0 h0) (A_qa1 : Arv Z h0 qa1 qk3 .char (4 : Int32) [.int qi4, .int qi5, .int qi6, .int qi7] (.int 0)) (hc3 : ¬ ((255 : Int32) < qi4)) (A_qa2 : Arv Z h0 qa2 qk8 .byte (4 : Int32) [.int 0, .int 0, .int 0, .int 0] (.int 0)) (g_qa2 : n0 ≤ qa2) (ne_qa1_qa2 : qa1 ≠ qa2) (hc11 : (255 : Int32) < qi5) :
    MF l Z Y12_ jdk_52_method_21_code 7 (some .int) (Rm 0 0 0 0) #[.ref qa1, .int 0, .ref qa2, .int 0, .int 4] h0 (Q104 Z qa2 qi4 qk8 h0 n0) := by
 refine own_sF pn4 rfl (fun m => ef11 m qa1 (0 : Int32) qa2 (0 : Int32) (4 : Int32)) ?_
 intro p e s m below meth c s₁ Bd hZ hh hx hby hml hown hnm X0 e0 pre0
 have N0 := Fr.nil n0
 have av1 := A_qa1
 obtain ⟨cl1, Ar1, q1, S1, N1, H1, Gf1⟩ := av1
 have hin2 : ¬ ((0 : Int32) < 0 ∨ cl1.slots.size ≤ ((0 : Int32) : Int32).toNatClampNeg) := inb_of S1 (by decide)
 have hat2 : cl1.slots[((0 : Int32) : Int32).toNatClampNeg]? = some (.int qi4) := Has.at H1 hin2 rfl
 have av4 := A_qa2
 obtain ⟨cl4, Ar4, q4, S4, N4, H4, Gf4⟩ := av4
 have hin5 : ¬ ((0 : Int32) < 0 ∨ cl4.slots.size ≤ ((0 : Int32) : Int32).toNatClampNeg) := inb_of S4 (by decide)
 obtain ⟨T5, h5, X5, e5, W5, st5⟩ := stB X0 hx hZ e0 Ar4 (j := (0 : Int32)) hin5 (g := (mkF m 31 #[rv qa1, iv 0, rv qa2, iv 0, iv 4, iv 0, iv qi4] [(.int ((qi4).toInt8.toInt32)), .int 0, .ref qa2])) rfl rfl (hb hby d12_31)
 have N5_ := Fr.snoc X5 N0 g_qa2
 have K6 := (Keep.refl h0 [qa2]).wr W5 (Or.inl (mI 0 rfl))
 have A7_ : Arv Z h5 qa2 qk8 .byte (4 : Int32) [(.int ((qi4).toInt8.toInt32)), .int 0, .int 0, .int 0] (.int 0) := by have q := Arv.set (v := .int (nar .byte ((qi4).toInt8.toInt32))) Ar4 q4 S4 N4 H4 Gf4 (fits_nar_byte _) W5 0 (by decide) (lE rfl); rw [((own_nar_i2b _) : nar .byte ((qi4).toInt8.toInt32) = ((qi4).toInt8.toInt32))] at q; exact q
 have A9_ := A_qa1.other W5 ne_qa1_qa2
 have av8 := A9_
 obtain ⟨cl8, Ar8, q8, S8, N8, H8, Gf8⟩ := av8
 have hin10 : ¬ ((1 : Int32) < 0 ∨ cl8.slots.size ≤ ((1 : Int32) : Int32).toNatClampNeg) := inb_of S8 (by decide)
 have hat10 : cl8.slots[((1 : Int32) : Int32).toNatClampNeg]? = some (.int qi5) := Has.at H8 hin10 rfl
 refine own_lvF X5 Bd (.int 1) e5 ⟨rfl, N5_, K6, A7_⟩ rfl (fun fs hr => pre0 _ (by
  show Sx p e below s₁ m 0 #[rv qa1, iv 0, rv qa2, iv 0, iv 4, .unset, .unset] [] _
  refine zc X0 Bd d12_0 ?_
  refine zs X0 Bd d12_1 (l' := #[rv qa1, iv 0, rv qa2, iv 0, iv 4, iv 0, .unset]) rfl ?_
  refine zi X0 Bd d12_3 rfl ?_
  refine zi X0 Bd d12_5 rfl ?_
  refine zn X0 Bd d12_7 (XT.ii_ge_f ((by decide) : (0 : Int32) < (4 : Int32))) ?_
  refine zb X0 Bd d12_10 rfl rfl ?_
  refine zj X0 Bd d12_11 rfl ?_
  refine X0.caload hx (j := (0 : Int32)) (v := (.int qi4)) (by rw [e0]; exact Ar1.1) (State.isArrayOf_alike hZ.alike Ar1.2.1) Ar1.2.2 hin2 hat2 (g := (mkF m 12 #[rv qa1, iv 0, rv qa2, iv 0, iv 4, iv 0, .unset] [.int 0, .ref qa1])) rfl rfl (hb hby d12_12) _ ?_
  refine zs X0 Bd d12_13 (l' := #[rv qa1, iv 0, rv qa2, iv 0, iv 4, iv 0, iv qi4]) rfl ?_
  refine zi X0 Bd d12_15 rfl ?_
  refine XS.sipush X0.here hx rfl (hb hby d12_17) ?_
  refine zy (pc' := 26) X0 Bd d12_20 (XT.ii_le_t (hc3 : ¬ ((255 : Int32) < qi4))) rfl ?_
  refine zb X0 Bd d12_26 rfl rfl ?_
  refine zj X0 Bd d12_27 rfl ?_
  refine zi X0 Bd d12_28 rfl ?_
  refine XS.i2b X0.here hx rfl (hb hby d12_30) rfl ?_
  refine st5 _ ?_
  refine XS.iinc X5.here hx rfl (hb hby d12_32) rfl (l' := #[rv qa1, iv 1, rv qa2, iv 0, iv 4, iv 0, iv qi4]) rfl ?_
  refine XS.iinc X5.here hx rfl (hb hby d12_35) rfl (l' := #[rv qa1, iv 1, rv qa2, iv 1, iv 4, iv 0, iv qi4]) rfl ?_
  refine XS.iinc X5.here hx rfl (hb hby d12_38) rfl (l' := #[rv qa1, iv 1, rv qa2, iv 1, iv 4, iv 1, iv qi4]) rfl ?_
  refine zg (pc' := 3) X5 Bd d12_41 rfl ?_
  refine zi X5 Bd d12_3 rfl ?_
  refine zi X5 Bd d12_5 rfl ?_
  refine zn X5 Bd d12_7 (XT.ii_ge_f ((by decide) : (1 : Int32) < (4 : Int32))) ?_
  refine zb X5 Bd d12_10 rfl rfl ?_
  show Sx p e below T5 m 11 #[rv qa1, iv 1, rv qa2, iv 1, iv 4, iv 1, iv qi4] [.ref qa1] _
  refine zj X5 Bd d12_11 rfl ?_
  refine X5.caload hx (j := (1 : Int32)) (v := (.int qi5)) (by rw [e5]; exact Ar8.1) (State.isArrayOf_alike hZ.alike Ar8.2.1) Ar8.2.2 hin10 hat10 (g := (mkF m 12 #[rv qa1, iv 1, rv qa2, iv 1, iv 4, iv 1, iv qi4] [.int 1, .ref qa1])) rfl rfl (hb hby d12_12) _ ?_
  refine zs X5 Bd d12_13 (l' := #[rv qa1, iv 1, rv qa2, iv 1, iv 4, iv 1, iv qi5]) rfl ?_
  refine zi X5 Bd d12_15 rfl ?_
  refine XS.sipush X5.here hx rfl (hb hby d12_17) ?_
  refine zn X5 Bd d12_20 (XT.ii_le_f (hc11 : (255 : Int32) < qi5)) ?_
  refine zi X5 Bd d12_23 rfl ?_
  exact retI X5 hx Bd.returns (hb hby d12_25) hr))
-- java/lang/StringUTF16.compress([CI[BII)I
def Q105 (Z : State) (qa2 : Addr) (qi4 : Int32) (qi5 : Int32) (qk8 : ClassId) (h0 : Heap) (n0 : Nat) (v : Option Value) (h : Heap) (L : List Loc) : Prop := v = some (.int 2) ∧ Fr n0 L ∧ Keep h0 h [qa2] ∧ Arv Z h qa2 qk8 .byte (4 : Int32) [(.int ((qi4).toInt8.toInt32)), (.int ((qi5).toInt8.toInt32)), .int 0, .int 0] (.int 0)
theorem rm105 (l : Launch) (Z : State) (a0 : Array Value) (hw : HW a0 Z) (qa1 : Addr) (qa2 : Addr) (qk3 : ClassId) (qi4 : Int32) (qi5 : Int32) (qi6 : Int32) (qi7 : Int32) (qk8 : ClassId) (h0 : Heap) (n0 : Nat) (X00 : Old Z n0 h0) (A_qa1 : Arv Z h0 qa1 qk3 .char (4 : Int32) [.int qi4, .int qi5, .int qi6, .int qi7] (.int 0)) (hc3 : ¬ ((255 : Int32) < qi4)) (A_qa2 : Arv Z h0 qa2 qk8 .byte (4 : Int32) [.int 0, .int 0, .int 0, .int 0] (.int 0)) (g_qa2 : n0 ≤ qa2) (ne_qa1_qa2 : qa1 ≠ qa2) (hc11 : ¬ ((255 : Int32) < qi5)) (hc19 : (255 : Int32) < qi6) :
    MF l Z Y12_ jdk_52_method_21_code 7 (some .int) (Rm 0 0 0 0) #[.ref qa1, .int 0, .ref qa2, .int 0, .int 4] h0 (Q105 Z qa2 qi4 qi5 qk8 h0 n0) := by
 refine own_sF pn4 rfl (fun m => ef11 m qa1 (0 : Int32) qa2 (0 : Int32) (4 : Int32)) ?_
 intro p e s m below meth c s₁ Bd hZ hh hx hby hml hown hnm X0 e0 pre0
 have N0 := Fr.nil n0
 have av1 := A_qa1
 obtain ⟨cl1, Ar1, q1, S1, N1, H1, Gf1⟩ := av1
 have hin2 : ¬ ((0 : Int32) < 0 ∨ cl1.slots.size ≤ ((0 : Int32) : Int32).toNatClampNeg) := inb_of S1 (by decide)
 have hat2 : cl1.slots[((0 : Int32) : Int32).toNatClampNeg]? = some (.int qi4) := Has.at H1 hin2 rfl
 have av4 := A_qa2
 obtain ⟨cl4, Ar4, q4, S4, N4, H4, Gf4⟩ := av4
 have hin5 : ¬ ((0 : Int32) < 0 ∨ cl4.slots.size ≤ ((0 : Int32) : Int32).toNatClampNeg) := inb_of S4 (by decide)
 obtain ⟨T5, h5, X5, e5, W5, st5⟩ := stB X0 hx hZ e0 Ar4 (j := (0 : Int32)) hin5 (g := (mkF m 31 #[rv qa1, iv 0, rv qa2, iv 0, iv 4, iv 0, iv qi4] [(.int ((qi4).toInt8.toInt32)), .int 0, .ref qa2])) rfl rfl (hb hby d12_31)
 have N5_ := Fr.snoc X5 N0 g_qa2
 have K6 := (Keep.refl h0 [qa2]).wr W5 (Or.inl (mI 0 rfl))
 have A7_ : Arv Z h5 qa2 qk8 .byte (4 : Int32) [(.int ((qi4).toInt8.toInt32)), .int 0, .int 0, .int 0] (.int 0) := by have q := Arv.set (v := .int (nar .byte ((qi4).toInt8.toInt32))) Ar4 q4 S4 N4 H4 Gf4 (fits_nar_byte _) W5 0 (by decide) (lE rfl); rw [((own_nar_i2b _) : nar .byte ((qi4).toInt8.toInt32) = ((qi4).toInt8.toInt32))] at q; exact q
 have A9_ := A_qa1.other W5 ne_qa1_qa2
 have av8 := A9_
 obtain ⟨cl8, Ar8, q8, S8, N8, H8, Gf8⟩ := av8
 have hin10 : ¬ ((1 : Int32) < 0 ∨ cl8.slots.size ≤ ((1 : Int32) : Int32).toNatClampNeg) := inb_of S8 (by decide)
 have hat10 : cl8.slots[((1 : Int32) : Int32).toNatClampNeg]? = some (.int qi5) := Has.at H8 hin10 rfl
 have av12 := A7_
 obtain ⟨cl12, Ar12, q12, S12, N12, H12, Gf12⟩ := av12
 have hin13 : ¬ ((1 : Int32) < 0 ∨ cl12.slots.size ≤ ((1 : Int32) : Int32).toNatClampNeg) := inb_of S12 (by decide)
 obtain ⟨T13, h13, X13, e13, W13, st13⟩ := stB X5 hx hZ e5 Ar12 (j := (1 : Int32)) hin13 (g := (mkF m 31 #[rv qa1, iv 1, rv qa2, iv 1, iv 4, iv 1, iv qi5] [(.int ((qi5).toInt8.toInt32)), .int 1, .ref qa2])) rfl rfl (hb hby d12_31)
 have N13_ := Fr.snoc X13 N5_ g_qa2
 have K14 := K6.wr W13 (Or.inl (mI 0 rfl))
 have A15_ : Arv Z h13 qa2 qk8 .byte (4 : Int32) [(.int ((qi4).toInt8.toInt32)), (.int ((qi5).toInt8.toInt32)), .int 0, .int 0] (.int 0) := by have q := Arv.set (v := .int (nar .byte ((qi5).toInt8.toInt32))) Ar12 q12 S12 N12 H12 Gf12 (fits_nar_byte _) W13 1 (by decide) (lE rfl); rw [((own_nar_i2b _) : nar .byte ((qi5).toInt8.toInt32) = ((qi5).toInt8.toInt32))] at q; exact q
 have A17_ := A9_.other W13 ne_qa1_qa2
 have av16 := A17_
 obtain ⟨cl16, Ar16, q16, S16, N16, H16, Gf16⟩ := av16
 have hin18 : ¬ ((2 : Int32) < 0 ∨ cl16.slots.size ≤ ((2 : Int32) : Int32).toNatClampNeg) := inb_of S16 (by decide)
 have hat18 : cl16.slots[((2 : Int32) : Int32).toNatClampNeg]? = some (.int qi6) := Has.at H16 hin18 rfl
 refine own_lvF X13 Bd (.int 2) e13 ⟨rfl, N13_, K14, A15_⟩ rfl (fun fs hr => pre0 _ (by
  show Sx p e below s₁ m 0 #[rv qa1, iv 0, rv qa2, iv 0, iv 4, .unset, .unset] [] _
  refine zc X0 Bd d12_0 ?_
  refine zs X0 Bd d12_1 (l' := #[rv qa1, iv 0, rv qa2, iv 0, iv 4, iv 0, .unset]) rfl ?_
  refine zi X0 Bd d12_3 rfl ?_
  refine zi X0 Bd d12_5 rfl ?_
  refine zn X0 Bd d12_7 (XT.ii_ge_f ((by decide) : (0 : Int32) < (4 : Int32))) ?_
  refine zb X0 Bd d12_10 rfl rfl ?_
  refine zj X0 Bd d12_11 rfl ?_
  refine X0.caload hx (j := (0 : Int32)) (v := (.int qi4)) (by rw [e0]; exact Ar1.1) (State.isArrayOf_alike hZ.alike Ar1.2.1) Ar1.2.2 hin2 hat2 (g := (mkF m 12 #[rv qa1, iv 0, rv qa2, iv 0, iv 4, iv 0, .unset] [.int 0, .ref qa1])) rfl rfl (hb hby d12_12) _ ?_
  refine zs X0 Bd d12_13 (l' := #[rv qa1, iv 0, rv qa2, iv 0, iv 4, iv 0, iv qi4]) rfl ?_
  refine zi X0 Bd d12_15 rfl ?_
  refine XS.sipush X0.here hx rfl (hb hby d12_17) ?_
  refine zy (pc' := 26) X0 Bd d12_20 (XT.ii_le_t (hc3 : ¬ ((255 : Int32) < qi4))) rfl ?_
  refine zb X0 Bd d12_26 rfl rfl ?_
  refine zj X0 Bd d12_27 rfl ?_
  refine zi X0 Bd d12_28 rfl ?_
  refine XS.i2b X0.here hx rfl (hb hby d12_30) rfl ?_
  refine st5 _ ?_
  refine XS.iinc X5.here hx rfl (hb hby d12_32) rfl (l' := #[rv qa1, iv 1, rv qa2, iv 0, iv 4, iv 0, iv qi4]) rfl ?_
  refine XS.iinc X5.here hx rfl (hb hby d12_35) rfl (l' := #[rv qa1, iv 1, rv qa2, iv 1, iv 4, iv 0, iv qi4]) rfl ?_
  refine XS.iinc X5.here hx rfl (hb hby d12_38) rfl (l' := #[rv qa1, iv 1, rv qa2, iv 1, iv 4, iv 1, iv qi4]) rfl ?_
  refine zg (pc' := 3) X5 Bd d12_41 rfl ?_
  refine zi X5 Bd d12_3 rfl ?_
  refine zi X5 Bd d12_5 rfl ?_
  refine zn X5 Bd d12_7 (XT.ii_ge_f ((by decide) : (1 : Int32) < (4 : Int32))) ?_
  refine zb X5 Bd d12_10 rfl rfl ?_
  show Sx p e below T5 m 11 #[rv qa1, iv 1, rv qa2, iv 1, iv 4, iv 1, iv qi4] [.ref qa1] _
  refine zj X5 Bd d12_11 rfl ?_
  refine X5.caload hx (j := (1 : Int32)) (v := (.int qi5)) (by rw [e5]; exact Ar8.1) (State.isArrayOf_alike hZ.alike Ar8.2.1) Ar8.2.2 hin10 hat10 (g := (mkF m 12 #[rv qa1, iv 1, rv qa2, iv 1, iv 4, iv 1, iv qi4] [.int 1, .ref qa1])) rfl rfl (hb hby d12_12) _ ?_
  refine zs X5 Bd d12_13 (l' := #[rv qa1, iv 1, rv qa2, iv 1, iv 4, iv 1, iv qi5]) rfl ?_
  refine zi X5 Bd d12_15 rfl ?_
  refine XS.sipush X5.here hx rfl (hb hby d12_17) ?_
  refine zy (pc' := 26) X5 Bd d12_20 (XT.ii_le_t (hc11 : ¬ ((255 : Int32) < qi5))) rfl ?_
  refine zb X5 Bd d12_26 rfl rfl ?_
  refine zj X5 Bd d12_27 rfl ?_
  refine zi X5 Bd d12_28 rfl ?_
  refine XS.i2b X5.here hx rfl (hb hby d12_30) rfl ?_
  refine st13 _ ?_
  refine XS.iinc X13.here hx rfl (hb hby d12_32) rfl (l' := #[rv qa1, iv 2, rv qa2, iv 1, iv 4, iv 1, iv qi5]) rfl ?_
  refine XS.iinc X13.here hx rfl (hb hby d12_35) rfl (l' := #[rv qa1, iv 2, rv qa2, iv 2, iv 4, iv 1, iv qi5]) rfl ?_
  refine XS.iinc X13.here hx rfl (hb hby d12_38) rfl (l' := #[rv qa1, iv 2, rv qa2, iv 2, iv 4, iv 2, iv qi5]) rfl ?_
  refine zg (pc' := 3) X13 Bd d12_41 rfl ?_
  refine zi X13 Bd d12_3 rfl ?_
  refine zi X13 Bd d12_5 rfl ?_
  refine zn X13 Bd d12_7 (XT.ii_ge_f ((by decide) : (2 : Int32) < (4 : Int32))) ?_
  refine zb X13 Bd d12_10 rfl rfl ?_
  refine zj X13 Bd d12_11 rfl ?_
  refine X13.caload hx (j := (2 : Int32)) (v := (.int qi6)) (by rw [e13]; exact Ar16.1) (State.isArrayOf_alike hZ.alike Ar16.2.1) Ar16.2.2 hin18 hat18 (g := (mkF m 12 #[rv qa1, iv 2, rv qa2, iv 2, iv 4, iv 2, iv qi5] [.int 2, .ref qa1])) rfl rfl (hb hby d12_12) _ ?_
  refine zs X13 Bd d12_13 (l' := #[rv qa1, iv 2, rv qa2, iv 2, iv 4, iv 2, iv qi6]) rfl ?_
  refine zi X13 Bd d12_15 rfl ?_
  refine XS.sipush X13.here hx rfl (hb hby d12_17) ?_
  refine zn X13 Bd d12_20 (XT.ii_le_f (hc19 : (255 : Int32) < qi6)) ?_
  show Sx p e below T13 m 23 #[rv qa1, iv 2, rv qa2, iv 2, iv 4, iv 2, iv qi6] [] _
  refine zi X13 Bd d12_23 rfl ?_
  exact retI X13 hx Bd.returns (hb hby d12_25) hr))
-- java/lang/StringUTF16.compress([CI[BII)I
def Q106 (Z : State) (qa2 : Addr) (qi4 : Int32) (qi5 : Int32) (qi6 : Int32) (qk8 : ClassId) (h0 : Heap) (n0 : Nat) (v : Option Value) (h : Heap) (L : List Loc) : Prop := v = some (.int 3) ∧ Fr n0 L ∧ Keep h0 h [qa2] ∧ Arv Z h qa2 qk8 .byte (4 : Int32) [(.int ((qi4).toInt8.toInt32)), (.int ((qi5).toInt8.toInt32)), (.int ((qi6).toInt8.toInt32)), .int 0] (.int 0)
theorem rm106 (l : Launch) (Z : State) (a0 : Array Value) (hw : HW a0 Z) (qa1 : Addr) (qa2 : Addr) (qk3 : ClassId) (qi4 : Int32) (qi5 : Int32) (qi6 : Int32) (qi7 : Int32) (qk8 : ClassId) (h0 : Heap) (n0 : Nat) (X00 : Old Z n0 h0) (A_qa1 : Arv Z h0 qa1 qk3 .char (4 : Int32) [.int qi4, .int qi5, .int qi6, .int qi7] (.int 0)) (hc3 : ¬ ((255 : Int32) < qi4)) (A_qa2 : Arv Z h0 qa2 qk8 .byte (4 : Int32) [.int 0, .int 0, .int 0, .int 0] (.int 0)) (g_qa2 : n0 ≤ qa2) (ne_qa1_qa2 : qa1 ≠ qa2) (hc11 : ¬ ((255 : Int32) < qi5)) (hc19 : ¬ ((255 : Int32) < qi6)) (hc27 : (255 : Int32) < qi7) :
    MF l Z Y12_ jdk_52_method_21_code 7 (some .int) (Rm 0 0 0 0) #[.ref qa1, .int 0, .ref qa2, .int 0, .int 4] h0 (Q106 Z qa2 qi4 qi5 qi6 qk8 h0 n0) := by
 refine own_sF pn4 rfl (fun m => ef11 m qa1 (0 : Int32) qa2 (0 : Int32) (4 : Int32)) ?_
 intro p e s m below meth c s₁ Bd hZ hh hx hby hml hown hnm X0 e0 pre0
 have N0 := Fr.nil n0
 have av1 := A_qa1
 obtain ⟨cl1, Ar1, q1, S1, N1, H1, Gf1⟩ := av1
 have hin2 : ¬ ((0 : Int32) < 0 ∨ cl1.slots.size ≤ ((0 : Int32) : Int32).toNatClampNeg) := inb_of S1 (by decide)
 have hat2 : cl1.slots[((0 : Int32) : Int32).toNatClampNeg]? = some (.int qi4) := Has.at H1 hin2 rfl
 have av4 := A_qa2
 obtain ⟨cl4, Ar4, q4, S4, N4, H4, Gf4⟩ := av4
 have hin5 : ¬ ((0 : Int32) < 0 ∨ cl4.slots.size ≤ ((0 : Int32) : Int32).toNatClampNeg) := inb_of S4 (by decide)
 obtain ⟨T5, h5, X5, e5, W5, st5⟩ := stB X0 hx hZ e0 Ar4 (j := (0 : Int32)) hin5 (g := (mkF m 31 #[rv qa1, iv 0, rv qa2, iv 0, iv 4, iv 0, iv qi4] [(.int ((qi4).toInt8.toInt32)), .int 0, .ref qa2])) rfl rfl (hb hby d12_31)
 have N5_ := Fr.snoc X5 N0 g_qa2
 have K6 := (Keep.refl h0 [qa2]).wr W5 (Or.inl (mI 0 rfl))
 have A7_ : Arv Z h5 qa2 qk8 .byte (4 : Int32) [(.int ((qi4).toInt8.toInt32)), .int 0, .int 0, .int 0] (.int 0) := by have q := Arv.set (v := .int (nar .byte ((qi4).toInt8.toInt32))) Ar4 q4 S4 N4 H4 Gf4 (fits_nar_byte _) W5 0 (by decide) (lE rfl); rw [((own_nar_i2b _) : nar .byte ((qi4).toInt8.toInt32) = ((qi4).toInt8.toInt32))] at q; exact q
 have A9_ := A_qa1.other W5 ne_qa1_qa2
 have av8 := A9_
 obtain ⟨cl8, Ar8, q8, S8, N8, H8, Gf8⟩ := av8
 have hin10 : ¬ ((1 : Int32) < 0 ∨ cl8.slots.size ≤ ((1 : Int32) : Int32).toNatClampNeg) := inb_of S8 (by decide)
 have hat10 : cl8.slots[((1 : Int32) : Int32).toNatClampNeg]? = some (.int qi5) := Has.at H8 hin10 rfl
 have av12 := A7_
 obtain ⟨cl12, Ar12, q12, S12, N12, H12, Gf12⟩ := av12
 have hin13 : ¬ ((1 : Int32) < 0 ∨ cl12.slots.size ≤ ((1 : Int32) : Int32).toNatClampNeg) := inb_of S12 (by decide)
 obtain ⟨T13, h13, X13, e13, W13, st13⟩ := stB X5 hx hZ e5 Ar12 (j := (1 : Int32)) hin13 (g := (mkF m 31 #[rv qa1, iv 1, rv qa2, iv 1, iv 4, iv 1, iv qi5] [(.int ((qi5).toInt8.toInt32)), .int 1, .ref qa2])) rfl rfl (hb hby d12_31)
 have N13_ := Fr.snoc X13 N5_ g_qa2
 have K14 := K6.wr W13 (Or.inl (mI 0 rfl))
 have A15_ : Arv Z h13 qa2 qk8 .byte (4 : Int32) [(.int ((qi4).toInt8.toInt32)), (.int ((qi5).toInt8.toInt32)), .int 0, .int 0] (.int 0) := by have q := Arv.set (v := .int (nar .byte ((qi5).toInt8.toInt32))) Ar12 q12 S12 N12 H12 Gf12 (fits_nar_byte _) W13 1 (by decide) (lE rfl); rw [((own_nar_i2b _) : nar .byte ((qi5).toInt8.toInt32) = ((qi5).toInt8.toInt32))] at q; exact q
 have A17_ := A9_.other W13 ne_qa1_qa2
 have av16 := A17_
 obtain ⟨cl16, Ar16, q16, S16, N16, H16, Gf16⟩ := av16
 have hin18 : ¬ ((2 : Int32) < 0 ∨ cl16.slots.size ≤ ((2 : Int32) : Int32).toNatClampNeg) := inb_of S16 (by decide)
 have hat18 : cl16.slots[((2 : Int32) : Int32).toNatClampNeg]? = some (.int qi6) := Has.at H16 hin18 rfl
 have av20 := A15_
 obtain ⟨cl20, Ar20, q20, S20, N20, H20, Gf20⟩ := av20
 have hin21 : ¬ ((2 : Int32) < 0 ∨ cl20.slots.size ≤ ((2 : Int32) : Int32).toNatClampNeg) := inb_of S20 (by decide)
 obtain ⟨T21, h21, X21, e21, W21, st21⟩ := stB X13 hx hZ e13 Ar20 (j := (2 : Int32)) hin21 (g := (mkF m 31 #[rv qa1, iv 2, rv qa2, iv 2, iv 4, iv 2, iv qi6] [(.int ((qi6).toInt8.toInt32)), .int 2, .ref qa2])) rfl rfl (hb hby d12_31)
 have N21_ := Fr.snoc X21 N13_ g_qa2
 have K22 := K14.wr W21 (Or.inl (mI 0 rfl))
 have A23_ : Arv Z h21 qa2 qk8 .byte (4 : Int32) [(.int ((qi4).toInt8.toInt32)), (.int ((qi5).toInt8.toInt32)), (.int ((qi6).toInt8.toInt32)), .int 0] (.int 0) := by have q := Arv.set (v := .int (nar .byte ((qi6).toInt8.toInt32))) Ar20 q20 S20 N20 H20 Gf20 (fits_nar_byte _) W21 2 (by decide) (lE rfl); rw [((own_nar_i2b _) : nar .byte ((qi6).toInt8.toInt32) = ((qi6).toInt8.toInt32))] at q; exact q
 have A25_ := A17_.other W21 ne_qa1_qa2
 have av24 := A25_
 obtain ⟨cl24, Ar24, q24, S24, N24, H24, Gf24⟩ := av24
 have hin26 : ¬ ((3 : Int32) < 0 ∨ cl24.slots.size ≤ ((3 : Int32) : Int32).toNatClampNeg) := inb_of S24 (by decide)
 have hat26 : cl24.slots[((3 : Int32) : Int32).toNatClampNeg]? = some (.int qi7) := Has.at H24 hin26 rfl
 refine own_lvF X21 Bd (.int 3) e21 ⟨rfl, N21_, K22, A23_⟩ rfl (fun fs hr => pre0 _ (by
  show Sx p e below s₁ m 0 #[rv qa1, iv 0, rv qa2, iv 0, iv 4, .unset, .unset] [] _
  refine zc X0 Bd d12_0 ?_
  refine zs X0 Bd d12_1 (l' := #[rv qa1, iv 0, rv qa2, iv 0, iv 4, iv 0, .unset]) rfl ?_
  refine zi X0 Bd d12_3 rfl ?_
  refine zi X0 Bd d12_5 rfl ?_
  refine zn X0 Bd d12_7 (XT.ii_ge_f ((by decide) : (0 : Int32) < (4 : Int32))) ?_
  refine zb X0 Bd d12_10 rfl rfl ?_
  refine zj X0 Bd d12_11 rfl ?_
  refine X0.caload hx (j := (0 : Int32)) (v := (.int qi4)) (by rw [e0]; exact Ar1.1) (State.isArrayOf_alike hZ.alike Ar1.2.1) Ar1.2.2 hin2 hat2 (g := (mkF m 12 #[rv qa1, iv 0, rv qa2, iv 0, iv 4, iv 0, .unset] [.int 0, .ref qa1])) rfl rfl (hb hby d12_12) _ ?_
  refine zs X0 Bd d12_13 (l' := #[rv qa1, iv 0, rv qa2, iv 0, iv 4, iv 0, iv qi4]) rfl ?_
  refine zi X0 Bd d12_15 rfl ?_
  refine XS.sipush X0.here hx rfl (hb hby d12_17) ?_
  refine zy (pc' := 26) X0 Bd d12_20 (XT.ii_le_t (hc3 : ¬ ((255 : Int32) < qi4))) rfl ?_
  refine zb X0 Bd d12_26 rfl rfl ?_
  refine zj X0 Bd d12_27 rfl ?_
  refine zi X0 Bd d12_28 rfl ?_
  refine XS.i2b X0.here hx rfl (hb hby d12_30) rfl ?_
  refine st5 _ ?_
  refine XS.iinc X5.here hx rfl (hb hby d12_32) rfl (l' := #[rv qa1, iv 1, rv qa2, iv 0, iv 4, iv 0, iv qi4]) rfl ?_
  refine XS.iinc X5.here hx rfl (hb hby d12_35) rfl (l' := #[rv qa1, iv 1, rv qa2, iv 1, iv 4, iv 0, iv qi4]) rfl ?_
  refine XS.iinc X5.here hx rfl (hb hby d12_38) rfl (l' := #[rv qa1, iv 1, rv qa2, iv 1, iv 4, iv 1, iv qi4]) rfl ?_
  refine zg (pc' := 3) X5 Bd d12_41 rfl ?_
  refine zi X5 Bd d12_3 rfl ?_
  refine zi X5 Bd d12_5 rfl ?_
  refine zn X5 Bd d12_7 (XT.ii_ge_f ((by decide) : (1 : Int32) < (4 : Int32))) ?_
  refine zb X5 Bd d12_10 rfl rfl ?_
  show Sx p e below T5 m 11 #[rv qa1, iv 1, rv qa2, iv 1, iv 4, iv 1, iv qi4] [.ref qa1] _
  refine zj X5 Bd d12_11 rfl ?_
  refine X5.caload hx (j := (1 : Int32)) (v := (.int qi5)) (by rw [e5]; exact Ar8.1) (State.isArrayOf_alike hZ.alike Ar8.2.1) Ar8.2.2 hin10 hat10 (g := (mkF m 12 #[rv qa1, iv 1, rv qa2, iv 1, iv 4, iv 1, iv qi4] [.int 1, .ref qa1])) rfl rfl (hb hby d12_12) _ ?_
  refine zs X5 Bd d12_13 (l' := #[rv qa1, iv 1, rv qa2, iv 1, iv 4, iv 1, iv qi5]) rfl ?_
  refine zi X5 Bd d12_15 rfl ?_
  refine XS.sipush X5.here hx rfl (hb hby d12_17) ?_
  refine zy (pc' := 26) X5 Bd d12_20 (XT.ii_le_t (hc11 : ¬ ((255 : Int32) < qi5))) rfl ?_
  refine zb X5 Bd d12_26 rfl rfl ?_
  refine zj X5 Bd d12_27 rfl ?_
  refine zi X5 Bd d12_28 rfl ?_
  refine XS.i2b X5.here hx rfl (hb hby d12_30) rfl ?_
  refine st13 _ ?_
  refine XS.iinc X13.here hx rfl (hb hby d12_32) rfl (l' := #[rv qa1, iv 2, rv qa2, iv 1, iv 4, iv 1, iv qi5]) rfl ?_
  refine XS.iinc X13.here hx rfl (hb hby d12_35) rfl (l' := #[rv qa1, iv 2, rv qa2, iv 2, iv 4, iv 1, iv qi5]) rfl ?_
  refine XS.iinc X13.here hx rfl (hb hby d12_38) rfl (l' := #[rv qa1, iv 2, rv qa2, iv 2, iv 4, iv 2, iv qi5]) rfl ?_
  refine zg (pc' := 3) X13 Bd d12_41 rfl ?_
  refine zi X13 Bd d12_3 rfl ?_
  refine zi X13 Bd d12_5 rfl ?_
  refine zn X13 Bd d12_7 (XT.ii_ge_f ((by decide) : (2 : Int32) < (4 : Int32))) ?_
  refine zb X13 Bd d12_10 rfl rfl ?_
  refine zj X13 Bd d12_11 rfl ?_
  refine X13.caload hx (j := (2 : Int32)) (v := (.int qi6)) (by rw [e13]; exact Ar16.1) (State.isArrayOf_alike hZ.alike Ar16.2.1) Ar16.2.2 hin18 hat18 (g := (mkF m 12 #[rv qa1, iv 2, rv qa2, iv 2, iv 4, iv 2, iv qi5] [.int 2, .ref qa1])) rfl rfl (hb hby d12_12) _ ?_
  refine zs X13 Bd d12_13 (l' := #[rv qa1, iv 2, rv qa2, iv 2, iv 4, iv 2, iv qi6]) rfl ?_
  refine zi X13 Bd d12_15 rfl ?_
  refine XS.sipush X13.here hx rfl (hb hby d12_17) ?_
  refine zy (pc' := 26) X13 Bd d12_20 (XT.ii_le_t (hc19 : ¬ ((255 : Int32) < qi6))) rfl ?_
  show Sx p e below T13 m 26 #[rv qa1, iv 2, rv qa2, iv 2, iv 4, iv 2, iv qi6] [] _
  refine zb X13 Bd d12_26 rfl rfl ?_
  refine zj X13 Bd d12_27 rfl ?_
  refine zi X13 Bd d12_28 rfl ?_
  refine XS.i2b X13.here hx rfl (hb hby d12_30) rfl ?_
  refine st21 _ ?_
  refine XS.iinc X21.here hx rfl (hb hby d12_32) rfl (l' := #[rv qa1, iv 3, rv qa2, iv 2, iv 4, iv 2, iv qi6]) rfl ?_
  refine XS.iinc X21.here hx rfl (hb hby d12_35) rfl (l' := #[rv qa1, iv 3, rv qa2, iv 3, iv 4, iv 2, iv qi6]) rfl ?_
  refine XS.iinc X21.here hx rfl (hb hby d12_38) rfl (l' := #[rv qa1, iv 3, rv qa2, iv 3, iv 4, iv 3, iv qi6]) rfl ?_
  refine zg (pc' := 3) X21 Bd d12_41 rfl ?_
  refine zi X21 Bd d12_3 rfl ?_
  refine zi X21 Bd d12_5 rfl ?_
  refine zn X21 Bd d12_7 (XT.ii_ge_f ((by decide) : (3 : Int32) < (4 : Int32))) ?_
  refine zb X21 Bd d12_10 rfl rfl ?_
  refine zj X21 Bd d12_11 rfl ?_
  refine X21.caload hx (j := (3 : Int32)) (v := (.int qi7)) (by rw [e21]; exact Ar24.1) (State.isArrayOf_alike hZ.alike Ar24.2.1) Ar24.2.2 hin26 hat26 (g := (mkF m 12 #[rv qa1, iv 3, rv qa2, iv 3, iv 4, iv 3, iv qi6] [.int 3, .ref qa1])) rfl rfl (hb hby d12_12) _ ?_
  refine zs X21 Bd d12_13 (l' := #[rv qa1, iv 3, rv qa2, iv 3, iv 4, iv 3, iv qi7]) rfl ?_
  refine zi X21 Bd d12_15 rfl ?_
  refine XS.sipush X21.here hx rfl (hb hby d12_17) ?_
  refine zn X21 Bd d12_20 (XT.ii_le_f (hc27 : (255 : Int32) < qi7)) ?_
  refine zi X21 Bd d12_23 rfl ?_
  exact retI X21 hx Bd.returns (hb hby d12_25) hr))
-- java/lang/StringUTF16.compress([CII)[B
def Q107 (Z : State) (qi3 : Int32) (qi4 : Int32) (qi5 : Int32) (qi6 : Int32) (h0 : Heap) (n0 : Nat) (v : Option Value) (h : Heap) (L : List Loc) : Prop := ∃ bm : Addr, ∃ cm : ClassId, v = some (.ref bm) ∧ Fr n0 L ∧ Keep h0 h [] ∧ h0.size ≤ bm ∧ Arv Z h bm cm .byte (8 : Int32) [(.int ((((qi3 >>> ((0 : Int32) &&& 31)))).toInt8.toInt32)), (.int ((((qi3 >>> ((8 : Int32) &&& 31)))).toInt8.toInt32)), (.int ((((qi4 >>> ((0 : Int32) &&& 31)))).toInt8.toInt32)), (.int ((((qi4 >>> ((8 : Int32) &&& 31)))).toInt8.toInt32)), (.int ((((qi5 >>> ((0 : Int32) &&& 31)))).toInt8.toInt32)), (.int ((((qi5 >>> ((8 : Int32) &&& 31)))).toInt8.toInt32)), (.int ((((qi6 >>> ((0 : Int32) &&& 31)))).toInt8.toInt32)), (.int ((((qi6 >>> ((8 : Int32) &&& 31)))).toInt8.toInt32))] (.int 0)
theorem rm107 (l : Launch) (Z : State) (a0 : Array Value) (hw : HW a0 Z) (qa1 : Addr) (qk2 : ClassId) (qi3 : Int32) (qi4 : Int32) (qi5 : Int32) (qi6 : Int32) (h0 : Heap) (n0 : Nat) (X00 : Old Z n0 h0) (uS12 : Sta Z Z.heap "java/lang/StringUTF16" "$assertionsDisabled" "Z" (.int 1)) (uS15 : Sta Z Z.heap "java/lang/StringUTF16" "HI_BYTE_SHIFT" "I" (.int 0)) (uS18 : Sta Z Z.heap "java/lang/StringUTF16" "LO_BYTE_SHIFT" "I" (.int 8)) (A_qa1 : Arv Z h0 qa1 qk2 .char (4 : Int32) [.int qi3, .int qi4, .int qi5, .int qi6] (.int 0)) (hc1 : (255 : Int32) < (own_max ([qi3, qi4, qi5, qi6] : List Int32))) (hr20 : nar .char qi3 = qi3) (hr39 : nar .char qi4 = qi4) (hr58 : nar .char qi5 = qi5) (hr77 : nar .char qi6 = qi6) :
    MF l Z Y18_ jdk_52_method_16_code 6 (some (.array .byte)) (Rm 3 2 12 40) #[.ref qa1, .int 0, .int 4] h0 (Q107 Z qi3 qi4 qi5 qi6 h0 n0) := by
 refine own_sF pn4 rfl (fun m => ef10 m qa1 (0 : Int32) (4 : Int32)) ?_
 intro p e s m below meth c s₁ Bd hZ hh hx hby hml hown hnm X0 e0 pre0
 have N0 := Fr.nil n0
 obtain ⟨T2, h2, c2, X2, e2, E2, A2, st2⟩ := newP (aty := .byte) X0 hx hZ (w21_ hw) e0 (g := (mkF m 1 #[rv qa1, iv 0, iv 4, .unset, .unset, .unset] [.int 4])) rfl (hb hby d11_1) rfl (by decide) (cap := 4) (by decide) (lE rfl) (lE rfl) (lE rfl)
 obtain ⟨b2, g2⟩ : ∃ z, z = h0.size := ⟨_, rfl⟩
 rw [← g2] at A2 st2
 replace X2 : Stand p l e (Rm 3 2 12 40) s m #[.ref qa1, .int 0, .int 4] below meth c T2 _ 1 4 := X2
 have K3 := (Keep.refl h0 []).ext E2
 have A4_ : Arv Z h2 b2 c2 .byte (4 : Int32) [.int 0, .int 0, .int 0, .int 0] (.int 0) := (Arv.new A2 (by decide)).pad (pad_rep [] (.int 0) 4)
 have A6_ := A_qa1.ext E2
 have pr7 : Pr p e below T2 m 9 #[rv qa1, iv 0, iv 4, rv b2, .unset, .unset] [.int 4, .int 0, .ref b2, .int 0, .ref qa1] s₁ (entryFrame m #[.ref qa1, .int 0, .int 4] 6) := fun t k => pre0 t (by
  show Sx p e below s₁ m 0 #[rv qa1, iv 0, iv 4, .unset, .unset, .unset] [] _
  refine zj X0 Bd d11_0 rfl ?_
  refine st2 _ ?_
  refine XS.astoreN X2.here hx rfl (hb hby d11_3) rfl rfl (l' := #[rv qa1, iv 0, iv 4, rv b2, .unset, .unset]) rfl ?_
  refine zb X2 Bd d11_4 rfl rfl ?_
  refine zj X2 Bd d11_5 rfl ?_
  refine zb X2 Bd d11_6 rfl rfl ?_
  refine zc X2 Bd d11_7 ?_
  refine zj X2 Bd d11_8 rfl ?_
  exact k)
 by_cases hc8 : (255 : Int32) < qi3
 ·
  skip
  have A10_ := A_qa1.ext E2
  have O11 := X00.ext E2
  obtain ⟨_, T9, L9, X9, hQ9, st9⟩ := own_cS 1 4 [] 9 #[rv qa1, iv 0, iv 4, rv b2, .unset, .unset] X2 hx hZ hown (w76_ hw) (w77_ hw) (w74_ hw) (w78_ hw) (rm98 l Z a0 hw  qa1 b2 qk2 qi3 qi4 qi5 qi6 h2 n0 O11 A10_ hc8) pd10 hml.symm (hb hby d11_9) e2 rfl rfl rfl rfl (by decide)
  obtain ⟨rfl, N9q, e9q⟩ := hQ9
  have N9 := Fr.app N0 N9q
  obtain ⟨_, T12, L12, X12, hQ12, st12⟩ := own_cS 2 12 [] 23 #[rv qa1, iv 0, iv 4, rv b2, iv 0, .unset] X9 hx hZ hown (w85_ hw) (w86_ hw) (w74_ hw) (w87_ hw) (rm102 l Z a0 hw  qa1 qk2 qi3 qi4 qi5 qi6 h2 n0 O11 uS12 uS15 uS18 A10_) pd13 hml.symm (hb hby d11_23) e9q rfl rfl rfl rfl (by decide)
  obtain ⟨b13, c14_, rfl, N12q, K12q, w15, w16⟩ := hQ12
  have N12 := Fr.app N9 N12q
  have K17 := K3.trans K12q (fun x q => nomatch q)
  have O19 := O11.keep K12q all0
  obtain ⟨_, T18, L18, X18, hQ18, st18⟩ := own_cS 2 12 [] 32 #[rv qa1, iv 0, iv 4, rv b2, iv 0, rv b13] X12 hx hZ hown (w101_ hw) (w102_ hw) (w74_ hw) (w103_ hw) (rm103 l Z a0 hw  b13 (0 : Int32) c14_ ((((qi3 >>> ((0 : Int32) &&& 31)))).toInt8.toInt32) ((((qi3 >>> ((8 : Int32) &&& 31)))).toInt8.toInt32) ((((qi4 >>> ((0 : Int32) &&& 31)))).toInt8.toInt32) ((((qi4 >>> ((8 : Int32) &&& 31)))).toInt8.toInt32) ((((qi5 >>> ((0 : Int32) &&& 31)))).toInt8.toInt32) ((((qi5 >>> ((8 : Int32) &&& 31)))).toInt8.toInt32) ((((qi6 >>> ((0 : Int32) &&& 31)))).toInt8.toInt32) ((((qi6 >>> ((8 : Int32) &&& 31)))).toInt8.toInt32) T12.heap n0 O19 uS12 uS15 uS18 w16 (by decide) (by decide)) pd14 hml.symm (hb hby d11_32) rfl rfl rfl rfl rfl (by decide)
  obtain ⟨rfl, N18q, e18q⟩ := hQ18
  have N18 := Fr.app N12 N18q
  have sz_b13 : h0.size ≤ b13 := Nat.le_trans K3.1 w15
  refine own_lvF X18 Bd (.ref b13) e18q ⟨b13, c14_, rfl, N18, K17, sz_b13, w16⟩ rfl (fun fs hr => pr7 _ (by
   show Sx p e below T2 m 9 #[rv qa1, iv 0, iv 4, rv b2, .unset, .unset] [.int 4, .int 0, .ref b2, .int 0, .ref qa1] _
   refine st9 _ ?_
   refine zs X9 Bd d11_12 (l' := #[rv qa1, iv 0, iv 4, rv b2, iv 0, .unset]) rfl ?_
   refine zi X9 Bd d11_14 rfl ?_
   refine zj X9 Bd d11_16 rfl ?_
   refine zn X9 Bd d11_17 (XT.ii_eq_f ((by decide) : ¬ ((0 : Int32) = (4 : Int32)))) ?_
   refine zb X9 Bd d11_20 rfl rfl ?_
   refine zj X9 Bd d11_21 rfl ?_
   refine zj X9 Bd d11_22 rfl ?_
   refine st12 _ ?_
   refine XS.astore X12.here hx rfl (hb hby d11_26) rfl rfl (l' := #[rv qa1, iv 0, iv 4, rv b2, iv 0, rv b13]) rfl ?_
   refine za X12 Bd d11_28 rfl rfl ?_
   refine zi X12 Bd d11_30 rfl ?_
   refine st18 _ ?_
   refine XS.sipush X18.here hx rfl (hb hby d11_35) ?_
   refine zy (pc' := 54) X18 Bd d11_38 (XT.ii_gt_t ((own_get16l hr20 hc8) : (255 : Int32) < ((((((((((qi3 >>> ((0 : Int32) &&& 31)))).toInt8.toInt32) &&& (255 : Int32)) <<< ((0 : Int32) &&& 31))) ||| (((((((qi3 >>> ((8 : Int32) &&& 31)))).toInt8.toInt32) &&& (255 : Int32)) <<< ((8 : Int32) &&& 31))))).toUInt32.toUInt16.toUInt32.toInt32))) rfl ?_
   refine za X18 Bd d11_54 rfl rfl ?_
   exact retOut X18 hx Bd.returns rfl (Or.inr (Or.inr (Or.inr (Or.inr ⟨rfl, rfl, rfl⟩)))) (hb hby d11_56) hr))
 ·
  skip
  have A22_ := A_qa1.ext E2
  have g_b2 : n0 ≤ b2 := Nat.le_trans (Nat.le_trans (Nat.le_of_eq X00.1.symm) X00.2.1) (Nat.le_of_eq g2.symm)
  by_cases hc23 : (255 : Int32) < qi4
  ·
   skip
   have A25_ := A_qa1.ext E2
   have g_b2 : n0 ≤ b2 := Nat.le_trans (Nat.le_trans (Nat.le_of_eq X00.1.symm) X00.2.1) (Nat.le_of_eq g2.symm)
   have O26 := X00.ext E2
   obtain ⟨_, T24, L24, X24, hQ24, st24⟩ := own_cS 1 4 [] 9 #[rv qa1, iv 0, iv 4, rv b2, .unset, .unset] X2 hx hZ hown (w76_ hw) (w77_ hw) (w74_ hw) (w78_ hw) (rm104 l Z a0 hw  qa1 b2 qk2 qi3 qi4 qi5 qi6 c2 h2 n0 O26 A25_ hc8 A4_ g_b2 (Nat.ne_of_lt (Nat.lt_of_lt_of_le A_qa1.lt (Nat.le_of_eq g2.symm))) hc23) pd10 hml.symm (hb hby d11_9) e2 rfl rfl rfl rfl (by decide)
   obtain ⟨rfl, N24q, K24q, w27⟩ := hQ24
   have N24 := Fr.app N0 N24q
   have sz_b2 : h0.size ≤ b2 := (Nat.le_of_eq g2.symm)
   have K28 := K3.trans K24q (allS (Or.inr sz_b2) all0)
   have A30_ := A25_.keep K24q (ninS (Nat.ne_of_lt (Nat.lt_of_lt_of_le A_qa1.lt (Nat.le_of_eq g2.symm))) nin0)
   have O31 := O26.keep K24q (allS g_b2 all0)
   obtain ⟨_, T29, L29, X29, hQ29, st29⟩ := own_cS 2 12 [] 23 #[rv qa1, iv 0, iv 4, rv b2, iv 1, .unset] X24 hx hZ hown (w85_ hw) (w86_ hw) (w74_ hw) (w87_ hw) (rm102 l Z a0 hw  qa1 qk2 qi3 qi4 qi5 qi6 T24.heap n0 O31 uS12 uS15 uS18 A30_) pd13 hml.symm (hb hby d11_23) rfl rfl rfl rfl rfl (by decide)
   obtain ⟨b32, c33_, rfl, N29q, K29q, w34, w35⟩ := hQ29
   have N29 := Fr.app N24 N29q
   have K36 := K28.trans K29q (fun x q => nomatch q)
   have O38 := O31.keep K29q all0
   obtain ⟨_, T37, L37, X37, hQ37, st37⟩ := own_cS 2 12 [] 32 #[rv qa1, iv 0, iv 4, rv b2, iv 1, rv b32] X29 hx hZ hown (w101_ hw) (w102_ hw) (w74_ hw) (w103_ hw) (rm103 l Z a0 hw  b32 (1 : Int32) c33_ ((((qi3 >>> ((0 : Int32) &&& 31)))).toInt8.toInt32) ((((qi3 >>> ((8 : Int32) &&& 31)))).toInt8.toInt32) ((((qi4 >>> ((0 : Int32) &&& 31)))).toInt8.toInt32) ((((qi4 >>> ((8 : Int32) &&& 31)))).toInt8.toInt32) ((((qi5 >>> ((0 : Int32) &&& 31)))).toInt8.toInt32) ((((qi5 >>> ((8 : Int32) &&& 31)))).toInt8.toInt32) ((((qi6 >>> ((0 : Int32) &&& 31)))).toInt8.toInt32) ((((qi6 >>> ((8 : Int32) &&& 31)))).toInt8.toInt32) T29.heap n0 O38 uS12 uS15 uS18 w35 (by decide) (by decide)) pd14 hml.symm (hb hby d11_32) rfl rfl rfl rfl rfl (by decide)
   obtain ⟨rfl, N37q, e37q⟩ := hQ37
   have N37 := Fr.app N29 N37q
   have sz_b32 : h0.size ≤ b32 := Nat.le_trans K28.1 w34
   refine own_lvF X37 Bd (.ref b32) e37q ⟨b32, c33_, rfl, N37, K36, sz_b32, w35⟩ rfl (fun fs hr => pr7 _ (by
    show Sx p e below T2 m 9 #[rv qa1, iv 0, iv 4, rv b2, .unset, .unset] [.int 4, .int 0, .ref b2, .int 0, .ref qa1] _
    refine st24 _ ?_
    refine zs X24 Bd d11_12 (l' := #[rv qa1, iv 0, iv 4, rv b2, iv 1, .unset]) rfl ?_
    refine zi X24 Bd d11_14 rfl ?_
    refine zj X24 Bd d11_16 rfl ?_
    refine zn X24 Bd d11_17 (XT.ii_eq_f ((by decide) : ¬ ((1 : Int32) = (4 : Int32)))) ?_
    refine zb X24 Bd d11_20 rfl rfl ?_
    refine zj X24 Bd d11_21 rfl ?_
    refine zj X24 Bd d11_22 rfl ?_
    refine st29 _ ?_
    refine XS.astore X29.here hx rfl (hb hby d11_26) rfl rfl (l' := #[rv qa1, iv 0, iv 4, rv b2, iv 1, rv b32]) rfl ?_
    refine za X29 Bd d11_28 rfl rfl ?_
    refine zi X29 Bd d11_30 rfl ?_
    refine st37 _ ?_
    refine XS.sipush X37.here hx rfl (hb hby d11_35) ?_
    refine zy (pc' := 54) X37 Bd d11_38 (XT.ii_gt_t ((own_get16l hr39 hc23) : (255 : Int32) < ((((((((((qi4 >>> ((0 : Int32) &&& 31)))).toInt8.toInt32) &&& (255 : Int32)) <<< ((0 : Int32) &&& 31))) ||| (((((((qi4 >>> ((8 : Int32) &&& 31)))).toInt8.toInt32) &&& (255 : Int32)) <<< ((8 : Int32) &&& 31))))).toUInt32.toUInt16.toUInt32.toInt32))) rfl ?_
    refine za X37 Bd d11_54 rfl rfl ?_
    exact retOut X37 hx Bd.returns rfl (Or.inr (Or.inr (Or.inr (Or.inr ⟨rfl, rfl, rfl⟩)))) (hb hby d11_56) hr))
  ·
   skip
   have A41_ := A_qa1.ext E2
   have g_b2 : n0 ≤ b2 := Nat.le_trans (Nat.le_trans (Nat.le_of_eq X00.1.symm) X00.2.1) (Nat.le_of_eq g2.symm)
   by_cases hc42 : (255 : Int32) < qi5
   ·
    skip
    have A44_ := A_qa1.ext E2
    have g_b2 : n0 ≤ b2 := Nat.le_trans (Nat.le_trans (Nat.le_of_eq X00.1.symm) X00.2.1) (Nat.le_of_eq g2.symm)
    have O45 := X00.ext E2
    obtain ⟨_, T43, L43, X43, hQ43, st43⟩ := own_cS 1 4 [] 9 #[rv qa1, iv 0, iv 4, rv b2, .unset, .unset] X2 hx hZ hown (w76_ hw) (w77_ hw) (w74_ hw) (w78_ hw) (rm105 l Z a0 hw  qa1 b2 qk2 qi3 qi4 qi5 qi6 c2 h2 n0 O45 A44_ hc8 A4_ g_b2 (Nat.ne_of_lt (Nat.lt_of_lt_of_le A_qa1.lt (Nat.le_of_eq g2.symm))) hc23 hc42) pd10 hml.symm (hb hby d11_9) e2 rfl rfl rfl rfl (by decide)
    obtain ⟨rfl, N43q, K43q, w46⟩ := hQ43
    have N43 := Fr.app N0 N43q
    have sz_b2 : h0.size ≤ b2 := (Nat.le_of_eq g2.symm)
    have K47 := K3.trans K43q (allS (Or.inr sz_b2) all0)
    have A49_ := A44_.keep K43q (ninS (Nat.ne_of_lt (Nat.lt_of_lt_of_le A_qa1.lt (Nat.le_of_eq g2.symm))) nin0)
    have O50 := O45.keep K43q (allS g_b2 all0)
    obtain ⟨_, T48, L48, X48, hQ48, st48⟩ := own_cS 2 12 [] 23 #[rv qa1, iv 0, iv 4, rv b2, iv 2, .unset] X43 hx hZ hown (w85_ hw) (w86_ hw) (w74_ hw) (w87_ hw) (rm102 l Z a0 hw  qa1 qk2 qi3 qi4 qi5 qi6 T43.heap n0 O50 uS12 uS15 uS18 A49_) pd13 hml.symm (hb hby d11_23) rfl rfl rfl rfl rfl (by decide)
    obtain ⟨b51, c52_, rfl, N48q, K48q, w53, w54⟩ := hQ48
    have N48 := Fr.app N43 N48q
    have K55 := K47.trans K48q (fun x q => nomatch q)
    have O57 := O50.keep K48q all0
    obtain ⟨_, T56, L56, X56, hQ56, st56⟩ := own_cS 2 12 [] 32 #[rv qa1, iv 0, iv 4, rv b2, iv 2, rv b51] X48 hx hZ hown (w101_ hw) (w102_ hw) (w74_ hw) (w103_ hw) (rm103 l Z a0 hw  b51 (2 : Int32) c52_ ((((qi3 >>> ((0 : Int32) &&& 31)))).toInt8.toInt32) ((((qi3 >>> ((8 : Int32) &&& 31)))).toInt8.toInt32) ((((qi4 >>> ((0 : Int32) &&& 31)))).toInt8.toInt32) ((((qi4 >>> ((8 : Int32) &&& 31)))).toInt8.toInt32) ((((qi5 >>> ((0 : Int32) &&& 31)))).toInt8.toInt32) ((((qi5 >>> ((8 : Int32) &&& 31)))).toInt8.toInt32) ((((qi6 >>> ((0 : Int32) &&& 31)))).toInt8.toInt32) ((((qi6 >>> ((8 : Int32) &&& 31)))).toInt8.toInt32) T48.heap n0 O57 uS12 uS15 uS18 w54 (by decide) (by decide)) pd14 hml.symm (hb hby d11_32) rfl rfl rfl rfl rfl (by decide)
    obtain ⟨rfl, N56q, e56q⟩ := hQ56
    have N56 := Fr.app N48 N56q
    have sz_b51 : h0.size ≤ b51 := Nat.le_trans K47.1 w53
    refine own_lvF X56 Bd (.ref b51) e56q ⟨b51, c52_, rfl, N56, K55, sz_b51, w54⟩ rfl (fun fs hr => pr7 _ (by
     show Sx p e below T2 m 9 #[rv qa1, iv 0, iv 4, rv b2, .unset, .unset] [.int 4, .int 0, .ref b2, .int 0, .ref qa1] _
     refine st43 _ ?_
     refine zs X43 Bd d11_12 (l' := #[rv qa1, iv 0, iv 4, rv b2, iv 2, .unset]) rfl ?_
     refine zi X43 Bd d11_14 rfl ?_
     refine zj X43 Bd d11_16 rfl ?_
     refine zn X43 Bd d11_17 (XT.ii_eq_f ((by decide) : ¬ ((2 : Int32) = (4 : Int32)))) ?_
     refine zb X43 Bd d11_20 rfl rfl ?_
     refine zj X43 Bd d11_21 rfl ?_
     refine zj X43 Bd d11_22 rfl ?_
     refine st48 _ ?_
     refine XS.astore X48.here hx rfl (hb hby d11_26) rfl rfl (l' := #[rv qa1, iv 0, iv 4, rv b2, iv 2, rv b51]) rfl ?_
     refine za X48 Bd d11_28 rfl rfl ?_
     refine zi X48 Bd d11_30 rfl ?_
     refine st56 _ ?_
     refine XS.sipush X56.here hx rfl (hb hby d11_35) ?_
     refine zy (pc' := 54) X56 Bd d11_38 (XT.ii_gt_t ((own_get16l hr58 hc42) : (255 : Int32) < ((((((((((qi5 >>> ((0 : Int32) &&& 31)))).toInt8.toInt32) &&& (255 : Int32)) <<< ((0 : Int32) &&& 31))) ||| (((((((qi5 >>> ((8 : Int32) &&& 31)))).toInt8.toInt32) &&& (255 : Int32)) <<< ((8 : Int32) &&& 31))))).toUInt32.toUInt16.toUInt32.toInt32))) rfl ?_
     refine za X56 Bd d11_54 rfl rfl ?_
     exact retOut X56 hx Bd.returns rfl (Or.inr (Or.inr (Or.inr (Or.inr ⟨rfl, rfl, rfl⟩)))) (hb hby d11_56) hr))
   ·
    skip
    have A60_ := A_qa1.ext E2
    have g_b2 : n0 ≤ b2 := Nat.le_trans (Nat.le_trans (Nat.le_of_eq X00.1.symm) X00.2.1) (Nat.le_of_eq g2.symm)
    by_cases hc61 : (255 : Int32) < qi6
    ·
     skip
     have A63_ := A_qa1.ext E2
     have g_b2 : n0 ≤ b2 := Nat.le_trans (Nat.le_trans (Nat.le_of_eq X00.1.symm) X00.2.1) (Nat.le_of_eq g2.symm)
     have O64 := X00.ext E2
     obtain ⟨_, T62, L62, X62, hQ62, st62⟩ := own_cS 1 4 [] 9 #[rv qa1, iv 0, iv 4, rv b2, .unset, .unset] X2 hx hZ hown (w76_ hw) (w77_ hw) (w74_ hw) (w78_ hw) (rm106 l Z a0 hw  qa1 b2 qk2 qi3 qi4 qi5 qi6 c2 h2 n0 O64 A63_ hc8 A4_ g_b2 (Nat.ne_of_lt (Nat.lt_of_lt_of_le A_qa1.lt (Nat.le_of_eq g2.symm))) hc23 hc42 hc61) pd10 hml.symm (hb hby d11_9) e2 rfl rfl rfl rfl (by decide)
     obtain ⟨rfl, N62q, K62q, w65⟩ := hQ62
     have N62 := Fr.app N0 N62q
     have sz_b2 : h0.size ≤ b2 := (Nat.le_of_eq g2.symm)
     have K66 := K3.trans K62q (allS (Or.inr sz_b2) all0)
     have A68_ := A63_.keep K62q (ninS (Nat.ne_of_lt (Nat.lt_of_lt_of_le A_qa1.lt (Nat.le_of_eq g2.symm))) nin0)
     have O69 := O64.keep K62q (allS g_b2 all0)
     obtain ⟨_, T67, L67, X67, hQ67, st67⟩ := own_cS 2 12 [] 23 #[rv qa1, iv 0, iv 4, rv b2, iv 3, .unset] X62 hx hZ hown (w85_ hw) (w86_ hw) (w74_ hw) (w87_ hw) (rm102 l Z a0 hw  qa1 qk2 qi3 qi4 qi5 qi6 T62.heap n0 O69 uS12 uS15 uS18 A68_) pd13 hml.symm (hb hby d11_23) rfl rfl rfl rfl rfl (by decide)
     obtain ⟨b70, c71_, rfl, N67q, K67q, w72, w73⟩ := hQ67
     have N67 := Fr.app N62 N67q
     have K74 := K66.trans K67q (fun x q => nomatch q)
     have O76 := O69.keep K67q all0
     obtain ⟨_, T75, L75, X75, hQ75, st75⟩ := own_cS 2 12 [] 32 #[rv qa1, iv 0, iv 4, rv b2, iv 3, rv b70] X67 hx hZ hown (w101_ hw) (w102_ hw) (w74_ hw) (w103_ hw) (rm103 l Z a0 hw  b70 (3 : Int32) c71_ ((((qi3 >>> ((0 : Int32) &&& 31)))).toInt8.toInt32) ((((qi3 >>> ((8 : Int32) &&& 31)))).toInt8.toInt32) ((((qi4 >>> ((0 : Int32) &&& 31)))).toInt8.toInt32) ((((qi4 >>> ((8 : Int32) &&& 31)))).toInt8.toInt32) ((((qi5 >>> ((0 : Int32) &&& 31)))).toInt8.toInt32) ((((qi5 >>> ((8 : Int32) &&& 31)))).toInt8.toInt32) ((((qi6 >>> ((0 : Int32) &&& 31)))).toInt8.toInt32) ((((qi6 >>> ((8 : Int32) &&& 31)))).toInt8.toInt32) T67.heap n0 O76 uS12 uS15 uS18 w73 (by decide) (by decide)) pd14 hml.symm (hb hby d11_32) rfl rfl rfl rfl rfl (by decide)
     obtain ⟨rfl, N75q, e75q⟩ := hQ75
     have N75 := Fr.app N67 N75q
     have sz_b70 : h0.size ≤ b70 := Nat.le_trans K66.1 w72
     refine own_lvF X75 Bd (.ref b70) e75q ⟨b70, c71_, rfl, N75, K74, sz_b70, w73⟩ rfl (fun fs hr => pr7 _ (by
      show Sx p e below T2 m 9 #[rv qa1, iv 0, iv 4, rv b2, .unset, .unset] [.int 4, .int 0, .ref b2, .int 0, .ref qa1] _
      refine st62 _ ?_
      refine zs X62 Bd d11_12 (l' := #[rv qa1, iv 0, iv 4, rv b2, iv 3, .unset]) rfl ?_
      refine zi X62 Bd d11_14 rfl ?_
      refine zj X62 Bd d11_16 rfl ?_
      refine zn X62 Bd d11_17 (XT.ii_eq_f ((by decide) : ¬ ((3 : Int32) = (4 : Int32)))) ?_
      refine zb X62 Bd d11_20 rfl rfl ?_
      refine zj X62 Bd d11_21 rfl ?_
      refine zj X62 Bd d11_22 rfl ?_
      refine st67 _ ?_
      refine XS.astore X67.here hx rfl (hb hby d11_26) rfl rfl (l' := #[rv qa1, iv 0, iv 4, rv b2, iv 3, rv b70]) rfl ?_
      refine za X67 Bd d11_28 rfl rfl ?_
      refine zi X67 Bd d11_30 rfl ?_
      refine st75 _ ?_
      refine XS.sipush X75.here hx rfl (hb hby d11_35) ?_
      refine zy (pc' := 54) X75 Bd d11_38 (XT.ii_gt_t ((own_get16l hr77 hc61) : (255 : Int32) < ((((((((((qi6 >>> ((0 : Int32) &&& 31)))).toInt8.toInt32) &&& (255 : Int32)) <<< ((0 : Int32) &&& 31))) ||| (((((((qi6 >>> ((8 : Int32) &&& 31)))).toInt8.toInt32) &&& (255 : Int32)) <<< ((8 : Int32) &&& 31))))).toUInt32.toUInt16.toUInt32.toInt32))) rfl ?_
      refine za X75 Bd d11_54 rfl rfl ?_
      exact retOut X75 hx Bd.returns rfl (Or.inr (Or.inr (Or.inr (Or.inr ⟨rfl, rfl, rfl⟩)))) (hb hby d11_56) hr))
    ·
     skip
     exact absurd hc1 (own_maxno _ (List.forall_mem_cons.mpr ⟨hc8, (List.forall_mem_cons.mpr ⟨hc23, (List.forall_mem_cons.mpr ⟨hc42, (List.forall_mem_cons.mpr ⟨hc61, (fun _ q => nomatch q)⟩)⟩)⟩)⟩))
-- java/lang/StringUTF16.coderFromArrayLen([BI)B
def Q108 (Z : State)  (h0 : Heap) (n0 : Nat) (v : Option Value) (h : Heap) (L : List Loc) : Prop := v = some (.int 1) ∧ Fr n0 L ∧ h = h0
theorem rm108 (l : Launch) (Z : State) (a0 : Array Value) (hw : HW a0 Z) (qa1 : Addr) (qk2 : ClassId) (qi3 : Int32) (qi4 : Int32) (qi5 : Int32) (qi6 : Int32) (qi7 : Int32) (qi8 : Int32) (qi9 : Int32) (qi10 : Int32) (h0 : Heap) (n0 : Nat) (X00 : Old Z n0 h0) (A_qa1 : Arv Z h0 qa1 qk2 .byte (8 : Int32) [.int qi3, .int qi4, .int qi5, .int qi6, .int qi7, .int qi8, .int qi9, .int qi10] (.int 0)) :
    MF l Z Y19_ jdk_52_method_15_code 2 (some .byte) (Rm 0 0 0 0) #[.ref qa1, .int 4] h0 (Q108 Z  h0 n0) := by
 refine own_sF pn4 rfl (fun m => ef5 m qa1 (4 : Int32)) ?_
 intro p e s m below meth c s₁ Bd hZ hh hx hby hml hown hnm X0 e0 pre0
 have N0 := Fr.nil n0
 have av1 := A_qa1
 obtain ⟨cl1, Ar1, q1, S1, N1, H1, Gf1⟩ := av1
 refine own_lvF X0 Bd (.int 1) e0 ⟨rfl, N0, rfl⟩ rfl (fun fs hr => pre0 _ (by
  show Sx p e below s₁ m 0 #[rv qa1, iv 4] [] _
  refine zj X0 Bd d18_0 rfl ?_
  refine zb X0 Bd d18_1 rfl rfl ?_
  refine X0.arraylength hx (by rw [e0]; exact Ar1.1) (State.isArrayOf_alike hZ.alike Ar1.2.1) (g := (mkF m 2 #[rv qa1, iv 4] [.ref qa1, .int 4])) rfl rfl (hb hby d18_2) _ ?_
  rw [len_of S1 N1]
  refine XS.isub X0.here hx rfl (hb hby d18_3) rfl ?_
  refine zd X0 Bd d18_4 ?_
  refine XS.iushr X0.here hx rfl (hb hby d18_6) rfl ?_
  refine XS.i2b X0.here hx rfl (hb hby d18_7) rfl ?_
  exact retN X0 hx (t := .byte) Bd.returns (by simp) (hb hby d18_8) hr))
-- java/lang/String.<init>([CIILjava/lang/Void;)V
def Q109 (Z : State) (qa1 : Addr) (qi4 : Int32) (qi5 : Int32) (qi6 : Int32) (qi7 : Int32) (h0 : Heap) (n0 : Nat) (v : Option Value) (h : Heap) (L : List Loc) : Prop := ∃ b9 : Addr, ∃ c10_ : ClassId, v = none ∧ Fr n0 L ∧ Keep h0 h [qa1] ∧ h0.size ≤ b9 ∧ Exa Z h qa1 "java/lang/String" ∧ Fld Z h qa1 "java/lang/String" "coder" "B" (.int 1) ∧ Fld Z h qa1 "java/lang/String" "value" "[B" (.ref b9) ∧ Arv Z h b9 c10_ .byte (8 : Int32) [(.int ((((qi4 >>> ((0 : Int32) &&& 31)))).toInt8.toInt32)), (.int ((((qi4 >>> ((8 : Int32) &&& 31)))).toInt8.toInt32)), (.int ((((qi5 >>> ((0 : Int32) &&& 31)))).toInt8.toInt32)), (.int ((((qi5 >>> ((8 : Int32) &&& 31)))).toInt8.toInt32)), (.int ((((qi6 >>> ((0 : Int32) &&& 31)))).toInt8.toInt32)), (.int ((((qi6 >>> ((8 : Int32) &&& 31)))).toInt8.toInt32)), (.int ((((qi7 >>> ((0 : Int32) &&& 31)))).toInt8.toInt32)), (.int ((((qi7 >>> ((8 : Int32) &&& 31)))).toInt8.toInt32))] (.int 0)
theorem rm109 (l : Launch) (Z : State) (a0 : Array Value) (hw : HW a0 Z) (G1 : Int32) (qa1 : Addr) (qa2 : Addr) (qk3 : ClassId) (qi4 : Int32) (qi5 : Int32) (qi6 : Int32) (qi7 : Int32) (h0 : Heap) (n0 : Nat) (X00 : Old Z n0 h0) (O2 : Sta Z Z.heap "java/lang/String" "COMPACT_STRINGS" "Z" (.int G1)) (P5 : ¬ (G1 = (0 : Int32))) (uS12 : Sta Z Z.heap "java/lang/StringUTF16" "$assertionsDisabled" "Z" (.int 1)) (uS15 : Sta Z Z.heap "java/lang/StringUTF16" "HI_BYTE_SHIFT" "I" (.int 0)) (uS18 : Sta Z Z.heap "java/lang/StringUTF16" "LO_BYTE_SHIFT" "I" (.int 8)) (A_qa2 : Arv Z h0 qa2 qk3 .char (4 : Int32) [.int qi4, .int qi5, .int qi6, .int qi7] (.int 0)) (hc4 : (255 : Int32) < (own_max ([qi4, qi5, qi6, qi7] : List Int32))) (hr5 : nar .char qi4 = qi4) (hr6 : nar .char qi5 = qi5) (hr7 : nar .char qi6 = qi6) (hr8 : nar .char qi7 = qi7) (E_qa1 : Exa Z h0 qa1 "java/lang/String") (F_qa1_coder : Fld Z h0 qa1 "java/lang/String" "coder" "B" (.int 0)) (g_qa1 : n0 ≤ qa1) (F_qa1_value : Fld Z h0 qa1 "java/lang/String" "value" "[B" .null) :
    MF l Z Y1_ jdk_42_method_149_code 6 none (Rm 4 2 12 57) #[.ref qa1, .ref qa2, .int 0, .int 4, .null] h0 (Q109 Z qa1 qi4 qi5 qi6 qi7 h0 n0) := by
 refine own_sF pn1 rfl (fun m => ef3 m qa1 qa2 (0 : Int32) (4 : Int32)) ?_
 intro p e s m below meth c s₁ Bd hZ hh hx hby hml hown hnm X0 e0 pre0
 have N0 := Fr.nil n0
 obtain ⟨T1, X1, e1, st1⟩ := initO X0 hx hZ hown (w17_ hw) (w18_ hw) (w19_ hw) e0 (g := (mkF m 1 #[rv qa1, rv qa2, iv 0, iv 4, .val .null, .unset] [.ref qa1])) rfl hml.symm rfl (hb hby d2_1) (by decide) (W := 0) (own_hw rfl) (lE rfl)
 obtain ⟨T2, X2, e2, st2⟩ := getS2 X1 hx hZ hown (host := "") (Or.inl (w47_ hw)) Via.refl e1 (O2.ext X00.2) (g := (mkF m 27 #[rv qa1, rv qa2, iv 0, iv 4, .val .null, .unset] [])) rfl (hb hby d2_27)
 obtain ⟨_, T3, L3, X3, hQ3, st3⟩ := own_cS 2 12 [] 36 #[rv qa1, rv qa2, iv 0, iv 4, .val .null, .unset] X2 hx hZ hown (w72_ hw) (w73_ hw) (w74_ hw) (w75_ hw) (rm107 l Z a0 hw  qa2 qk3 qi4 qi5 qi6 qi7 h0 n0 X00 uS12 uS15 uS18 A_qa2 hc4 hr5 hr6 hr7 hr8) pd13 hml.symm (hb hby d2_36) e2 rfl rfl rfl rfl (by decide)
 obtain ⟨b9, c10_, rfl, N3q, K3q, w11, w12⟩ := hQ3
 have N3 := Fr.app N0 N3q
 have K13 := (Keep.refl h0 [qa1]).trans K3q (fun x q => nomatch q)
 have O15 := X00.keep K3q all0
 obtain ⟨_, T14, L14, X14, hQ14, st14⟩ := own_cS 2 12 [.ref qa1] 45 #[rv qa1, rv qa2, iv 0, iv 4, .val .null, rv b9] X3 hx hZ hown (w79_ hw) (w80_ hw) (w74_ hw) (w81_ hw) (rm108 l Z a0 hw  b9 c10_ ((((qi4 >>> ((0 : Int32) &&& 31)))).toInt8.toInt32) ((((qi4 >>> ((8 : Int32) &&& 31)))).toInt8.toInt32) ((((qi5 >>> ((0 : Int32) &&& 31)))).toInt8.toInt32) ((((qi5 >>> ((8 : Int32) &&& 31)))).toInt8.toInt32) ((((qi6 >>> ((0 : Int32) &&& 31)))).toInt8.toInt32) ((((qi6 >>> ((8 : Int32) &&& 31)))).toInt8.toInt32) ((((qi7 >>> ((0 : Int32) &&& 31)))).toInt8.toInt32) ((((qi7 >>> ((8 : Int32) &&& 31)))).toInt8.toInt32) T3.heap n0 O15 w12) pd15 hml.symm (hb hby d2_45) rfl rfl rfl rfl rfl (by decide)
 obtain ⟨rfl, N14q, e14q⟩ := hQ14
 have N14 := Fr.app N3 N14q
 have F16_ := F_qa1_coder.keep K3q nin0
 have E17_ := E_qa1.keep K3q
 obtain ⟨T18, h18, X18, e18, W18, st18⟩ := putF X14 hx hZ hown (host := "") (Or.inl (w27_ hw)) Via.refl e14q F16_ E17_ (Or.inr ⟨(w23_ hw), rfl, hnm⟩) (w7_ hw) (ty := .byte) (by decide) rfl rfl (g := (mkF m 48 #[rv qa1, rv qa2, iv 0, iv 4, .val .null, rv b9] [.int 1, .ref qa1])) rfl rfl (hb hby d2_48)
 have N18 := Fr.snoc X18 N14 g_qa1
 have K19 := K13.wr W18 (Or.inl (mI 0 rfl))
 have F20_ : Fld Z h18 qa1 "java/lang/String" "coder" "B" (.int 1) := F16_.same W18
 have F21_ := F_qa1_value.keep K3q nin0
 have F22_ := F21_.other W18 (Or.inr (slot_ne (Or.inr (w22_ hw)) (Or.inr (w23_ hw)) (by decide) (t := (.array .byte)) (t' := .byte) (by decide) (by decide)))
 have E23_ := E17_.wr W18
 obtain ⟨T24, h24, X24, e24, W24, st24⟩ := putF X18 hx hZ hown (host := "") (Or.inl (w26_ hw)) Via.refl e18 F22_ E23_ (Or.inr ⟨(w22_ hw), rfl, hnm⟩) (w7_ hw) (ty := (.array .byte)) (by decide) rfl rfl (g := (mkF m 54 #[rv qa1, rv qa2, iv 0, iv 4, .val .null, rv b9] [.ref b9, .ref qa1])) rfl rfl (hb hby d2_54)
 have N24 := Fr.snoc X24 N18 g_qa1
 have K25 := K19.wr W24 (Or.inl (mI 0 rfl))
 have F26_ : Fld Z h24 qa1 "java/lang/String" "value" "[B" (.ref b9) := F22_.same W24
 have sz_b9 : h0.size ≤ b9 := w11
 have E27_ := E23_.wr W24
 have F28_ := F20_.other W24 (Or.inr (slot_ne (Or.inr (w23_ hw)) (Or.inr (w22_ hw)) (by decide) (t := .byte) (t' := (.array .byte)) (by decide) (by decide)))
 have A29_ := w12.other W18 (Ne.symm (Nat.ne_of_lt (Nat.lt_of_lt_of_le E_qa1.lt w11)))
 have A30_ := A29_.other W24 (Ne.symm (Nat.ne_of_lt (Nat.lt_of_lt_of_le E_qa1.lt w11)))
 refine own_lvN X24 Bd e24 ⟨b9, c10_, rfl, N24, K25, sz_b9, E27_, F28_, F26_, A30_⟩ rfl (fun fs hr => pre0 _ (by
  show Sx p e below s₁ m 0 #[rv qa1, rv qa2, iv 0, iv 4, .val .null, .unset] [] _
  refine zb X0 Bd d2_0 rfl rfl ?_
  refine st1 _ ?_
  refine zj X1 Bd d2_4 rfl ?_
  refine zp (pc' := 27) X1 Bd d2_5 (XT.i0_ne_t ((by decide) : ¬ ((4 : Int32) = (0 : Int32)))) rfl ?_
  refine st2 _ ?_
  refine zo X2 Bd d2_30 (XT.i0_eq_f (P5 : ¬ (G1 = (0 : Int32)))) ?_
  refine zb X2 Bd d2_33 rfl rfl ?_
  refine zj X2 Bd d2_34 rfl ?_
  refine zj X2 Bd d2_35 rfl ?_
  refine st3 _ ?_
  refine XS.astore X3.here hx rfl (hb hby d2_39) rfl rfl (l' := #[rv qa1, rv qa2, iv 0, iv 4, .val .null, rv b9]) rfl ?_
  refine zb X3 Bd d2_41 rfl rfl ?_
  refine za X3 Bd d2_42 rfl rfl ?_
  refine zj X3 Bd d2_44 rfl ?_
  refine st14 _ ?_
  refine st18 _ ?_
  refine zb X18 Bd d2_51 rfl rfl ?_
  refine za X18 Bd d2_52 rfl rfl ?_
  refine st24 _ ?_
  exact X24.returnOut hx Bd.returns (hb hby d2_57) hr))
-- java/lang/String.<init>([C)V
def Q110 (Z : State) (qa1 : Addr) (qi4 : Int32) (qi5 : Int32) (qi6 : Int32) (qi7 : Int32) (h0 : Heap) (n0 : Nat) (v : Option Value) (h : Heap) (L : List Loc) : Prop := ∃ b8 : Addr, ∃ c9_ : ClassId, v = none ∧ Fr n0 L ∧ Keep h0 h [qa1] ∧ h0.size ≤ b8 ∧ Exa Z h qa1 "java/lang/String" ∧ Fld Z h qa1 "java/lang/String" "coder" "B" (.int 1) ∧ Fld Z h qa1 "java/lang/String" "value" "[B" (.ref b8) ∧ Arv Z h b8 c9_ .byte (8 : Int32) [(.int ((((qi4 >>> ((0 : Int32) &&& 31)))).toInt8.toInt32)), (.int ((((qi4 >>> ((8 : Int32) &&& 31)))).toInt8.toInt32)), (.int ((((qi5 >>> ((0 : Int32) &&& 31)))).toInt8.toInt32)), (.int ((((qi5 >>> ((8 : Int32) &&& 31)))).toInt8.toInt32)), (.int ((((qi6 >>> ((0 : Int32) &&& 31)))).toInt8.toInt32)), (.int ((((qi6 >>> ((8 : Int32) &&& 31)))).toInt8.toInt32)), (.int ((((qi7 >>> ((0 : Int32) &&& 31)))).toInt8.toInt32)), (.int ((((qi7 >>> ((8 : Int32) &&& 31)))).toInt8.toInt32))] (.int 0)
theorem rm110 (l : Launch) (Z : State) (a0 : Array Value) (hw : HW a0 Z) (G1 : Int32) (qa1 : Addr) (qa2 : Addr) (qk3 : ClassId) (qi4 : Int32) (qi5 : Int32) (qi6 : Int32) (qi7 : Int32) (h0 : Heap) (n0 : Nat) (X00 : Old Z n0 h0) (O2 : Sta Z Z.heap "java/lang/String" "COMPACT_STRINGS" "Z" (.int G1)) (P5 : ¬ (G1 = (0 : Int32))) (uS12 : Sta Z Z.heap "java/lang/StringUTF16" "$assertionsDisabled" "Z" (.int 1)) (uS15 : Sta Z Z.heap "java/lang/StringUTF16" "HI_BYTE_SHIFT" "I" (.int 0)) (uS18 : Sta Z Z.heap "java/lang/StringUTF16" "LO_BYTE_SHIFT" "I" (.int 8)) (A_qa2 : Arv Z h0 qa2 qk3 .char (4 : Int32) [.int qi4, .int qi5, .int qi6, .int qi7] (.int 0)) (hc3 : (255 : Int32) < (own_max ([qi4, qi5, qi6, qi7] : List Int32))) (hr4 : nar .char qi4 = qi4) (hr5 : nar .char qi5 = qi5) (hr6 : nar .char qi6 = qi6) (hr7 : nar .char qi7 = qi7) (E_qa1 : Exa Z h0 qa1 "java/lang/String") (F_qa1_coder : Fld Z h0 qa1 "java/lang/String" "coder" "B" (.int 0)) (g_qa1 : n0 ≤ qa1) (F_qa1_value : Fld Z h0 qa1 "java/lang/String" "value" "[B" .null) :
    MF l Z Y2_ jdk_42_method_3_code 2 none (Rm 5 2 12 74) #[.ref qa1, .ref qa2] h0 (Q110 Z qa1 qi4 qi5 qi6 qi7 h0 n0) := by
 refine own_sF pn1 rfl (fun m => ef2 m qa1 qa2) ?_
 intro p e s m below meth c s₁ Bd hZ hh hx hby hml hown hnm X0 e0 pre0
 have N0 := Fr.nil n0
 have av1 := A_qa2
 obtain ⟨cl1, Ar1, q1, S1, N1, H1, Gf1⟩ := av1
 obtain ⟨_, T2, L2, X2, hQ2, st2⟩ := own_cI 2 12 [] 6 #[rv qa1, rv qa2] X0 hx hZ hown (w13_ hw) (w14_ hw) (w8_ hw) (w16_ hw) (rm109 l Z a0 hw G1 qa1 qa2 qk3 qi4 qi5 qi6 qi7 h0 n0 X00 O2 P5 uS12 uS15 uS18 A_qa2 hc3 hr4 hr5 hr6 hr7 E_qa1 F_qa1_coder g_qa1 F_qa1_value) pd1 hml.symm (hb hby d1_6) e0 rfl rfl rfl rfl rfl (by decide)
 obtain ⟨b8, c9_, rfl, N2q, K2q, w10, w11, w12, w13, w14⟩ := hQ2
 have N2 := Fr.app N0 N2q
 have K15 := (Keep.refl h0 [qa1]).trans K2q (allS (Or.inl (mI 0 rfl)) all0)
 have sz_b8 : h0.size ≤ b8 := w10
 have E16_ := E_qa1.keep K2q
 refine own_lvN X2 Bd rfl ⟨b8, c9_, rfl, N2, K15, sz_b8, E16_, w12, w13, w14⟩ rfl (fun fs hr => pre0 _ (by
  show Sx p e below s₁ m 0 #[rv qa1, rv qa2] [] _
  refine zb X0 Bd d1_0 rfl rfl ?_
  refine zb X0 Bd d1_1 rfl rfl ?_
  refine zc X0 Bd d1_2 ?_
  refine zb X0 Bd d1_3 rfl rfl ?_
  refine X0.arraylength hx (by rw [e0]; exact Ar1.1) (State.isArrayOf_alike hZ.alike Ar1.2.1) (g := (mkF m 4 #[rv qa1, rv qa2] [.ref qa2, .int 0, .ref qa2, .ref qa1])) rfl rfl (hb hby d1_4) _ ?_
  rw [len_of S1 N1]
  refine XS.aconstNull X0.here hx rfl (hb hby d1_5) ?_
  refine st2 _ ?_
  exact X2.returnOut hx Bd.returns (hb hby d1_9) hr))
-- java/lang/String.length()I
def Q111 (Z : State)  (h0 : Heap) (n0 : Nat) (v : Option Value) (h : Heap) (L : List Loc) : Prop := v = some (.int 4) ∧ Fr n0 L ∧ h = h0
theorem rm111 (l : Launch) (Z : State) (a0 : Array Value) (hw : HW a0 Z) (G1 : Int32) (qa1 : Addr) (qa2 : Addr) (qk3 : ClassId) (qi4 : Int32) (qi5 : Int32) (qi6 : Int32) (qi7 : Int32) (qi8 : Int32) (qi9 : Int32) (qi10 : Int32) (qi11 : Int32) (h0 : Heap) (n0 : Nat) (X00 : Old Z n0 h0) (O2 : Sta Z Z.heap "java/lang/String" "COMPACT_STRINGS" "Z" (.int G1)) (P5 : ¬ (G1 = (0 : Int32))) (F_qa1_value : Fld Z h0 qa1 "java/lang/String" "value" "[B" (.ref qa2)) (A_qa2 : Arv Z h0 qa2 qk3 .byte (8 : Int32) [.int qi4, .int qi5, .int qi6, .int qi7, .int qi8, .int qi9, .int qi10, .int qi11] (.int 0)) (E_qa1 : Exa Z h0 qa1 "java/lang/String") (F_qa1_coder : Fld Z h0 qa1 "java/lang/String" "coder" "B" (.int 1)) :
    MF l Z Y9_ jdk_42_method_54_code 1 (some .int) (Rm 1 0 0 13) #[.ref qa1] h0 (Q111 Z  h0 n0) := by
 refine own_sF pn1 rfl (fun m => ef4 m qa1) ?_
 intro p e s m below meth c s₁ Bd hZ hh hx hby hml hown hnm X0 e0 pre0
 have N0 := Fr.nil n0
 obtain ⟨T1, X1, e1, st1⟩ := getF X0 hx hZ hown (host := "") (Or.inl (w26_ hw)) Via.refl e0 F_qa1_value (g := (mkF m 1 #[rv qa1] [.ref qa1])) rfl rfl (hb hby d19_1)
 have av2 := A_qa2
 obtain ⟨cl2, Ar2, q2, S2, N2, H2, Gf2⟩ := av2
 obtain ⟨_, T3, L3, X3, hQ3, st3⟩ := own_cV 0 0 [.int 8] 6 #[rv qa1] X1 hx hZ hown E_qa1 (w53_ hw) (w54_ hw) (notFace_of_selects (args := #[]) (mvT hZ (w56_ hw))) (w56_ hw) (w55_ hw) (w8_ hw) (w57_ hw) (rm23 l Z a0 hw G1 qa1 h0 n0 X00 O2 P5 F_qa1_coder) pd16 hml.symm (hb hby d19_6) e1 rfl rfl rfl rfl (by decide)
 obtain ⟨rfl, N3q, e3q⟩ := hQ3
 have N3 := Fr.app N0 N3q
 refine own_lvF X3 Bd (.int 4) e3q ⟨rfl, N3, rfl⟩ rfl (fun fs hr => pre0 _ (by
  show Sx p e below s₁ m 0 #[rv qa1] [] _
  refine zb X0 Bd d19_0 rfl rfl ?_
  refine st1 _ ?_
  refine X1.arraylength hx (by rw [e1]; exact Ar2.1) (State.isArrayOf_alike hZ.alike Ar2.2.1) (g := (mkF m 4 #[rv qa1] [.ref qa2])) rfl rfl (hb hby d19_4) _ ?_
  rw [len_of S2 N2]
  refine zb X1 Bd d19_5 rfl rfl ?_
  refine st3 _ ?_
  refine XS.ishr X3.here hx rfl (hb hby d19_9) rfl ?_
  exact retI X3 hx Bd.returns (hb hby d19_10) hr))
-- java/lang/Math.min(II)I
def Q112 (Z : State)  (h0 : Heap) (n0 : Nat) (v : Option Value) (h : Heap) (L : List Loc) : Prop := v = some (.int 4) ∧ Fr n0 L ∧ h = h0
theorem rm112 (l : Launch) (Z : State) (a0 : Array Value) (hw : HW a0 Z)  (h0 : Heap) (n0 : Nat) (X00 : Old Z n0 h0)  :
    MF l Z Y6_ jdk_29_method_69_code 2 (some .int) (Rm 0 0 0 0) #[.int 4, .int 4] h0 (Q112 Z  h0 n0) := by
 refine own_sFm (K := "java/lang/Math") (by decide +kernel) rfl (fun m => ef9 m (4 : Int32) (4 : Int32)) ?_
 intro p e s m below meth c s₁ Bd hZ hh hx hby hml hown hnm X0 e0 pre0
 have N0 := Fr.nil n0
 refine own_lvF X0 Bd (.int 4) e0 ⟨rfl, N0, rfl⟩ rfl (fun fs hr => pre0 _ (by
  show Sx p e below s₁ m 0 #[iv 4, iv 4] [] _
  refine zj X0 Bd d10_0 rfl ?_
  refine zj X0 Bd d10_1 rfl ?_
  refine zn X0 Bd d10_2 (XT.ii_gt_f ((by decide) : ¬ ((4 : Int32) < (4 : Int32)))) ?_
  refine zj X0 Bd d10_5 rfl ?_
  refine zg (pc' := 10) X0 Bd d10_6 rfl ?_
  exact retI X0 hx Bd.returns (hb hby d10_10) hr))
-- java/lang/StringUTF16.length([B)I
def Q113 (Z : State)  (h0 : Heap) (n0 : Nat) (v : Option Value) (h : Heap) (L : List Loc) : Prop := v = some (.int 4) ∧ Fr n0 L ∧ h = h0
theorem rm113 (l : Launch) (Z : State) (a0 : Array Value) (hw : HW a0 Z) (qa1 : Addr) (qk2 : ClassId) (qi3 : Int32) (qi4 : Int32) (qi5 : Int32) (qi6 : Int32) (qi7 : Int32) (qi8 : Int32) (qi9 : Int32) (qi10 : Int32) (h0 : Heap) (n0 : Nat) (X00 : Old Z n0 h0) (A_qa1 : Arv Z h0 qa1 qk2 .byte (8 : Int32) [.int qi3, .int qi4, .int qi5, .int qi6, .int qi7, .int qi8, .int qi9, .int qi10] (.int 0)) :
    MF l Z Y21_ jdk_52_method_6_code 1 (some .int) (Rm 0 0 0 0) #[.ref qa1] h0 (Q113 Z  h0 n0) := by
 refine own_sF pn4 rfl (fun m => ef4 m qa1) ?_
 intro p e s m below meth c s₁ Bd hZ hh hx hby hml hown hnm X0 e0 pre0
 have N0 := Fr.nil n0
 have av1 := A_qa1
 obtain ⟨cl1, Ar1, q1, S1, N1, H1, Gf1⟩ := av1
 refine own_lvF X0 Bd (.int 4) e0 ⟨rfl, N0, rfl⟩ rfl (fun fs hr => pre0 _ (by
  show Sx p e below s₁ m 0 #[rv qa1] [] _
  refine zb X0 Bd d24_0 rfl rfl ?_
  refine X0.arraylength hx (by rw [e0]; exact Ar1.1) (State.isArrayOf_alike hZ.alike Ar1.2.1) (g := (mkF m 1 #[rv qa1] [.ref qa1])) rfl rfl (hb hby d24_1) _ ?_
  rw [len_of S1 N1]
  refine zc X0 Bd d24_2 ?_
  refine XS.ishr X0.here hx rfl (hb hby d24_3) rfl ?_
  exact retI X0 hx Bd.returns (hb hby d24_4) hr))
-- jdk/internal/util/Preconditions.checkFromToIndex(IIILjava/util/function/BiFunction;)I
def Q114 (Z : State)  (h0 : Heap) (n0 : Nat) (v : Option Value) (h : Heap) (L : List Loc) : Prop := v = some (.int 0) ∧ Fr n0 L ∧ h = h0
theorem rm114 (l : Launch) (Z : State) (a0 : Array Value) (hw : HW a0 Z) (G3 : Value) (h0 : Heap) (n0 : Nat) (X00 : Old Z n0 h0) (O4 : Sta Z Z.heap "jdk/internal/util/Preconditions" "SIOOBE_FORMATTER" "Ljava/util/function/BiFunction;" G3) (rG3 : G3.isRef = true) :
    MF l Z Y22_ jdk_41_method_12_code 4 (some .int) (Rm 0 0 0 0) #[.int 0, .int 4, .int 4, G3] h0 (Q114 Z  h0 n0) := by
 refine own_sF pn5 rfl (fun m => ef15 m (0 : Int32) (4 : Int32) (4 : Int32) G3 rG3) ?_
 intro p e s m below meth c s₁ Bd hZ hh hx hby hml hown hnm X0 e0 pre0
 have N0 := Fr.nil n0
 refine own_lvF X0 Bd (.int 0) e0 ⟨rfl, N0, rfl⟩ rfl (fun fs hr => pre0 _ (by
  show Sx p e below s₁ m 0 #[iv 0, iv 4, iv 4, .val G3] [] _
  refine zj X0 Bd d26_0 rfl ?_
  refine zo X0 Bd d26_1 (XT.i0_lt_f ((by decide) : ¬ ((0 : Int32) < (0 : Int32)))) ?_
  refine zj X0 Bd d26_4 rfl ?_
  refine zj X0 Bd d26_5 rfl ?_
  refine zn X0 Bd d26_6 (XT.ii_gt_f ((by decide) : ¬ ((4 : Int32) < (0 : Int32)))) ?_
  refine zj X0 Bd d26_9 rfl ?_
  refine zj X0 Bd d26_10 rfl ?_
  refine zy (pc' := 22) X0 Bd d26_11 (XT.ii_le_t ((by decide) : ¬ ((4 : Int32) < (4 : Int32)))) rfl ?_
  refine zj X0 Bd d26_22 rfl ?_
  exact retI X0 hx Bd.returns (hb hby d26_23) hr))
-- java/lang/String.checkBoundsBeginEnd(III)V
def Q115 (Z : State)  (h0 : Heap) (n0 : Nat) (v : Option Value) (h : Heap) (L : List Loc) : Prop := v = none ∧ Fr n0 L ∧ h = h0
theorem rm115 (l : Launch) (Z : State) (a0 : Array Value) (hw : HW a0 Z) (G3 : Value) (h0 : Heap) (n0 : Nat) (X00 : Old Z n0 h0) (O4 : Sta Z Z.heap "jdk/internal/util/Preconditions" "SIOOBE_FORMATTER" "Ljava/util/function/BiFunction;" G3) (rG3 : G3.isRef = true) :
    MF l Z Y23_ jdk_42_method_158_code 3 none (Rm 1 0 0 15) #[.int 0, .int 4, .int 4] h0 (Q115 Z  h0 n0) := by
 refine own_sF pn1 rfl (fun m => ef14 m (0 : Int32) (4 : Int32) (4 : Int32)) ?_
 intro p e s m below meth c s₁ Bd hZ hh hx hby hml hown hnm X0 e0 pre0
 have N0 := Fr.nil n0
 obtain ⟨T1, X1, e1, st1⟩ := getS2 X0 hx hZ hown (host := "") (Or.inl (w122_ hw)) Via.refl e0 (O4.ext X00.2) (g := (mkF m 3 #[iv 0, iv 4, iv 4] [.int 4, .int 4, .int 0])) rfl (hb hby d25_3)
 obtain ⟨_, T2, L2, X2, hQ2, st2⟩ := own_cS 0 0 [] 6 #[iv 0, iv 4, iv 4] X1 hx hZ hown (w124_ hw) (w125_ hw) (w123_ hw) (w126_ hw) (rm114 l Z a0 hw G3  h0 n0 X00 O4 rG3) pd18 hml.symm (hb hby d25_6) e1 rfl rfl rfl rfl (by decide)
 obtain ⟨rfl, N2q, e2q⟩ := hQ2
 have N2 := Fr.app N0 N2q
 refine own_lvN X2 Bd e2q ⟨rfl, N2, rfl⟩ rfl (fun fs hr => pre0 _ (by
  show Sx p e below s₁ m 0 #[iv 0, iv 4, iv 4] [] _
  refine zj X0 Bd d25_0 rfl ?_
  refine zj X0 Bd d25_1 rfl ?_
  refine zj X0 Bd d25_2 rfl ?_
  refine st1 _ ?_
  refine st2 _ ?_
  refine XS.pop X2.here hx rfl (hb hby d25_9) rfl rfl ?_
  exact X2.returnOut hx Bd.returns (hb hby d25_10) hr))
-- java/lang/StringUTF16.checkBoundsBeginEnd(II[B)V
def Q116 (Z : State)  (h0 : Heap) (n0 : Nat) (v : Option Value) (h : Heap) (L : List Loc) : Prop := v = none ∧ Fr n0 L ∧ h = h0
theorem rm116 (l : Launch) (Z : State) (a0 : Array Value) (hw : HW a0 Z) (G3 : Value) (qa1 : Addr) (qk2 : ClassId) (qi3 : Int32) (qi4 : Int32) (qi5 : Int32) (qi6 : Int32) (qi7 : Int32) (qi8 : Int32) (qi9 : Int32) (qi10 : Int32) (h0 : Heap) (n0 : Nat) (X00 : Old Z n0 h0) (O4 : Sta Z Z.heap "jdk/internal/util/Preconditions" "SIOOBE_FORMATTER" "Ljava/util/function/BiFunction;" G3) (rG3 : G3.isRef = true) (A_qa1 : Arv Z h0 qa1 qk2 .byte (8 : Int32) [.int qi3, .int qi4, .int qi5, .int qi6, .int qi7, .int qi8, .int qi9, .int qi10] (.int 0)) :
    MF l Z Y24_ jdk_52_method_93_code 3 none (Rm 2 0 0 29) #[.int 0, .int 4, .ref qa1] h0 (Q116 Z  h0 n0) := by
 refine own_sF pn4 rfl (fun m => ef13 m (0 : Int32) (4 : Int32) qa1) ?_
 intro p e s m below meth c s₁ Bd hZ hh hx hby hml hown hnm X0 e0 pre0
 have N0 := Fr.nil n0
 obtain ⟨_, T1, L1, X1, hQ1, st1⟩ := own_cS 0 0 [.int 4, .int 0] 3 #[iv 0, iv 4, rv qa1] X0 hx hZ hown (w116_ hw) (w117_ hw) (w74_ hw) (w118_ hw) (rm113 l Z a0 hw  qa1 qk2 qi3 qi4 qi5 qi6 qi7 qi8 qi9 qi10 h0 n0 X00 A_qa1) pd17 hml.symm (hb hby d23_3) e0 rfl rfl rfl rfl (by decide)
 obtain ⟨rfl, N1q, e1q⟩ := hQ1
 have N1 := Fr.app N0 N1q
 obtain ⟨_, T2, L2, X2, hQ2, st2⟩ := own_cS 0 0 [] 6 #[iv 0, iv 4, rv qa1] X1 hx hZ hown (w119_ hw) (w120_ hw) (w8_ hw) (w121_ hw) (rm115 l Z a0 hw G3  h0 n0 X00 O4 rG3) pd19 hml.symm (hb hby d23_6) e1q rfl rfl rfl rfl (by decide)
 obtain ⟨rfl, N2q, e2q⟩ := hQ2
 have N2 := Fr.app N1 N2q
 refine own_lvN X2 Bd e2q ⟨rfl, N2, rfl⟩ rfl (fun fs hr => pre0 _ (by
  show Sx p e below s₁ m 0 #[iv 0, iv 4, rv qa1] [] _
  refine zj X0 Bd d23_0 rfl ?_
  refine zj X0 Bd d23_1 rfl ?_
  refine zb X0 Bd d23_2 rfl rfl ?_
  refine st1 _ ?_
  refine st2 _ ?_
  exact X2.returnOut hx Bd.returns (hb hby d23_9) hr))
-- java/lang/StringUTF16.indexOfCharUnsafe([BIII)I
def Q117 (Z : State) (qi2 : Int32) (qi4 : Int32) (qi5 : Int32) (qi6 : Int32) (qi7 : Int32) (qi8 : Int32) (qi9 : Int32) (qi10 : Int32) (qi11 : Int32) (h0 : Heap) (n0 : Nat) (v : Option Value) (h : Heap) (L : List Loc) : Prop := v = some (.int (own_ix qi2 (own_L4 qi4 qi5 qi6 qi7 qi8 qi9 qi10 qi11) (0 : Int32))) ∧ Fr n0 L ∧ h = h0
theorem rm117 (l : Launch) (Z : State) (a0 : Array Value) (hw : HW a0 Z) (qa1 : Addr) (qi2 : Int32) (qk3 : ClassId) (qi4 : Int32) (qi5 : Int32) (qi6 : Int32) (qi7 : Int32) (qi8 : Int32) (qi9 : Int32) (qi10 : Int32) (qi11 : Int32) (h0 : Heap) (n0 : Nat) (X00 : Old Z n0 h0) (uS12 : Sta Z Z.heap "java/lang/StringUTF16" "$assertionsDisabled" "Z" (.int 1)) (uS15 : Sta Z Z.heap "java/lang/StringUTF16" "HI_BYTE_SHIFT" "I" (.int 0)) (uS18 : Sta Z Z.heap "java/lang/StringUTF16" "LO_BYTE_SHIFT" "I" (.int 8)) (A_qa1 : Arv Z h0 qa1 qk3 .byte (8 : Int32) [.int qi4, .int qi5, .int qi6, .int qi7, .int qi8, .int qi9, .int qi10, .int qi11] (.int 0)) :
    MF l Z Y25_ jdk_52_method_48_code 5 (some .int) (Rm 1 0 0 13) #[.ref qa1, .int qi2, .int 0, .int 4] h0 (Q117 Z qi2 qi4 qi5 qi6 qi7 qi8 qi9 qi10 qi11 h0 n0) := by
 refine own_sF pn4 rfl (fun m => ef16 m qa1 qi2 (0 : Int32) (4 : Int32)) ?_
 intro p e s m below meth c s₁ Bd hZ hh hx hby hml hown hnm X0 e0 pre0
 have N0 := Fr.nil n0
 obtain ⟨_, T1, L1, X1, hQ1, st1⟩ := own_cS 0 0 [] 12 #[rv qa1, iv qi2, iv 0, iv 4, iv 0] X0 hx hZ hown (w101_ hw) (w102_ hw) (w74_ hw) (w103_ hw) (rm103 l Z a0 hw  qa1 (0 : Int32) qk3 qi4 qi5 qi6 qi7 qi8 qi9 qi10 qi11 h0 n0 X00 uS12 uS15 uS18 A_qa1 (by decide) (by decide)) pd14 hml.symm (hb hby d27_12) e0 rfl rfl rfl rfl (by decide)
 obtain ⟨rfl, N1q, e1q⟩ := hQ1
 have N1 := Fr.app N0 N1q
 have pr2 : Pr p e below T1 m 16 #[rv qa1, iv qi2, iv 0, iv 4, iv 0] [.int qi2, (.int ((((((qi4 &&& (255 : Int32)) <<< ((0 : Int32) &&& 31))) ||| (((qi5 &&& (255 : Int32)) <<< ((8 : Int32) &&& 31))))).toUInt32.toUInt16.toUInt32.toInt32))] s₁ (entryFrame m #[.ref qa1, .int qi2, .int 0, .int 4] 5) := fun t k => pre0 t (by
  show Sx p e below s₁ m 0 #[rv qa1, iv qi2, iv 0, iv 4, .unset] [] _
  refine zj X0 Bd d27_0 rfl ?_
  refine zs X0 Bd d27_1 (l' := #[rv qa1, iv qi2, iv 0, iv 4, iv 0]) rfl ?_
  refine zi X0 Bd d27_3 rfl ?_
  refine zj X0 Bd d27_5 rfl ?_
  refine zn X0 Bd d27_6 (XT.ii_ge_f ((by decide) : (0 : Int32) < (4 : Int32))) ?_
  refine zb X0 Bd d27_9 rfl rfl ?_
  refine zi X0 Bd d27_10 rfl ?_
  refine st1 _ ?_
  refine zj X1 Bd d27_15 rfl ?_
  exact k)
 by_cases hc3 : ((((((qi4 &&& (255 : Int32)) <<< ((0 : Int32) &&& 31))) ||| (((qi5 &&& (255 : Int32)) <<< ((8 : Int32) &&& 31))))).toUInt32.toUInt16.toUInt32.toInt32) = qi2
 ·
  skip
  refine own_lvF X1 Bd (.int 0) e1q ⟨(by rw [own_ix, if_pos hc3] <;> rfl), N1, rfl⟩ rfl (fun fs hr => pr2 _ (by
   show Sx p e below T1 m 16 #[rv qa1, iv qi2, iv 0, iv 4, iv 0] [.int qi2, (.int ((((((qi4 &&& (255 : Int32)) <<< ((0 : Int32) &&& 31))) ||| (((qi5 &&& (255 : Int32)) <<< ((8 : Int32) &&& 31))))).toUInt32.toUInt16.toUInt32.toInt32))] _
   refine zn X1 Bd d27_16 (XT.ii_ne_f (hc3 : ((((((qi4 &&& (255 : Int32)) <<< ((0 : Int32) &&& 31))) ||| (((qi5 &&& (255 : Int32)) <<< ((8 : Int32) &&& 31))))).toUInt32.toUInt16.toUInt32.toInt32) = qi2)) ?_
   refine zi X1 Bd d27_19 rfl ?_
   exact retI X1 hx Bd.returns (hb hby d27_21) hr))
 ·
  skip
  obtain ⟨_, T4, L4, X4, hQ4, st4⟩ := own_cS 0 0 [] 12 #[rv qa1, iv qi2, iv 0, iv 4, iv 1] X1 hx hZ hown (w101_ hw) (w102_ hw) (w74_ hw) (w103_ hw) (rm103 l Z a0 hw  qa1 (1 : Int32) qk3 qi4 qi5 qi6 qi7 qi8 qi9 qi10 qi11 h0 n0 X00 uS12 uS15 uS18 A_qa1 (by decide) (by decide)) pd14 hml.symm (hb hby d27_12) e1q rfl rfl rfl rfl (by decide)
  obtain ⟨rfl, N4q, e4q⟩ := hQ4
  have N4 := Fr.app N1 N4q
  have pr5 : Pr p e below T4 m 16 #[rv qa1, iv qi2, iv 0, iv 4, iv 1] [.int qi2, (.int ((((((qi6 &&& (255 : Int32)) <<< ((0 : Int32) &&& 31))) ||| (((qi7 &&& (255 : Int32)) <<< ((8 : Int32) &&& 31))))).toUInt32.toUInt16.toUInt32.toInt32))] s₁ (entryFrame m #[.ref qa1, .int qi2, .int 0, .int 4] 5) := fun t k => pr2 t (by
   show Sx p e below T1 m 16 #[rv qa1, iv qi2, iv 0, iv 4, iv 0] [.int qi2, (.int ((((((qi4 &&& (255 : Int32)) <<< ((0 : Int32) &&& 31))) ||| (((qi5 &&& (255 : Int32)) <<< ((8 : Int32) &&& 31))))).toUInt32.toUInt16.toUInt32.toInt32))] _
   refine zy (pc' := 22) X1 Bd d27_16 (XT.ii_ne_t (hc3 : ¬ (((((((qi4 &&& (255 : Int32)) <<< ((0 : Int32) &&& 31))) ||| (((qi5 &&& (255 : Int32)) <<< ((8 : Int32) &&& 31))))).toUInt32.toUInt16.toUInt32.toInt32) = qi2))) rfl ?_
   refine XS.iinc X1.here hx rfl (hb hby d27_22) rfl (l' := #[rv qa1, iv qi2, iv 0, iv 4, iv 1]) rfl ?_
   refine zg (pc' := 3) X1 Bd d27_25 rfl ?_
   refine zi X1 Bd d27_3 rfl ?_
   refine zj X1 Bd d27_5 rfl ?_
   refine zn X1 Bd d27_6 (XT.ii_ge_f ((by decide) : (1 : Int32) < (4 : Int32))) ?_
   refine zb X1 Bd d27_9 rfl rfl ?_
   refine zi X1 Bd d27_10 rfl ?_
   refine st4 _ ?_
   refine zj X4 Bd d27_15 rfl ?_
   exact k)
  by_cases hc6 : ((((((qi6 &&& (255 : Int32)) <<< ((0 : Int32) &&& 31))) ||| (((qi7 &&& (255 : Int32)) <<< ((8 : Int32) &&& 31))))).toUInt32.toUInt16.toUInt32.toInt32) = qi2
  ·
   skip
   refine own_lvF X4 Bd (.int 1) e4q ⟨(by rw [own_ix, if_neg hc3, own_ix, if_pos hc6] <;> rfl), N4, rfl⟩ rfl (fun fs hr => pr5 _ (by
    show Sx p e below T4 m 16 #[rv qa1, iv qi2, iv 0, iv 4, iv 1] [.int qi2, (.int ((((((qi6 &&& (255 : Int32)) <<< ((0 : Int32) &&& 31))) ||| (((qi7 &&& (255 : Int32)) <<< ((8 : Int32) &&& 31))))).toUInt32.toUInt16.toUInt32.toInt32))] _
    refine zn X4 Bd d27_16 (XT.ii_ne_f (hc6 : ((((((qi6 &&& (255 : Int32)) <<< ((0 : Int32) &&& 31))) ||| (((qi7 &&& (255 : Int32)) <<< ((8 : Int32) &&& 31))))).toUInt32.toUInt16.toUInt32.toInt32) = qi2)) ?_
    refine zi X4 Bd d27_19 rfl ?_
    exact retI X4 hx Bd.returns (hb hby d27_21) hr))
  ·
   skip
   obtain ⟨_, T7, L7, X7, hQ7, st7⟩ := own_cS 0 0 [] 12 #[rv qa1, iv qi2, iv 0, iv 4, iv 2] X4 hx hZ hown (w101_ hw) (w102_ hw) (w74_ hw) (w103_ hw) (rm103 l Z a0 hw  qa1 (2 : Int32) qk3 qi4 qi5 qi6 qi7 qi8 qi9 qi10 qi11 h0 n0 X00 uS12 uS15 uS18 A_qa1 (by decide) (by decide)) pd14 hml.symm (hb hby d27_12) e4q rfl rfl rfl rfl (by decide)
   obtain ⟨rfl, N7q, e7q⟩ := hQ7
   have N7 := Fr.app N4 N7q
   have pr8 : Pr p e below T7 m 16 #[rv qa1, iv qi2, iv 0, iv 4, iv 2] [.int qi2, (.int ((((((qi8 &&& (255 : Int32)) <<< ((0 : Int32) &&& 31))) ||| (((qi9 &&& (255 : Int32)) <<< ((8 : Int32) &&& 31))))).toUInt32.toUInt16.toUInt32.toInt32))] s₁ (entryFrame m #[.ref qa1, .int qi2, .int 0, .int 4] 5) := fun t k => pr5 t (by
    show Sx p e below T4 m 16 #[rv qa1, iv qi2, iv 0, iv 4, iv 1] [.int qi2, (.int ((((((qi6 &&& (255 : Int32)) <<< ((0 : Int32) &&& 31))) ||| (((qi7 &&& (255 : Int32)) <<< ((8 : Int32) &&& 31))))).toUInt32.toUInt16.toUInt32.toInt32))] _
    refine zy (pc' := 22) X4 Bd d27_16 (XT.ii_ne_t (hc6 : ¬ (((((((qi6 &&& (255 : Int32)) <<< ((0 : Int32) &&& 31))) ||| (((qi7 &&& (255 : Int32)) <<< ((8 : Int32) &&& 31))))).toUInt32.toUInt16.toUInt32.toInt32) = qi2))) rfl ?_
    refine XS.iinc X4.here hx rfl (hb hby d27_22) rfl (l' := #[rv qa1, iv qi2, iv 0, iv 4, iv 2]) rfl ?_
    refine zg (pc' := 3) X4 Bd d27_25 rfl ?_
    refine zi X4 Bd d27_3 rfl ?_
    refine zj X4 Bd d27_5 rfl ?_
    refine zn X4 Bd d27_6 (XT.ii_ge_f ((by decide) : (2 : Int32) < (4 : Int32))) ?_
    refine zb X4 Bd d27_9 rfl rfl ?_
    refine zi X4 Bd d27_10 rfl ?_
    refine st7 _ ?_
    refine zj X7 Bd d27_15 rfl ?_
    exact k)
   by_cases hc9 : ((((((qi8 &&& (255 : Int32)) <<< ((0 : Int32) &&& 31))) ||| (((qi9 &&& (255 : Int32)) <<< ((8 : Int32) &&& 31))))).toUInt32.toUInt16.toUInt32.toInt32) = qi2
   ·
    skip
    refine own_lvF X7 Bd (.int 2) e7q ⟨(by rw [own_ix, if_neg hc3, own_ix, if_neg hc6, own_ix, if_pos hc9] <;> rfl), N7, rfl⟩ rfl (fun fs hr => pr8 _ (by
     show Sx p e below T7 m 16 #[rv qa1, iv qi2, iv 0, iv 4, iv 2] [.int qi2, (.int ((((((qi8 &&& (255 : Int32)) <<< ((0 : Int32) &&& 31))) ||| (((qi9 &&& (255 : Int32)) <<< ((8 : Int32) &&& 31))))).toUInt32.toUInt16.toUInt32.toInt32))] _
     refine zn X7 Bd d27_16 (XT.ii_ne_f (hc9 : ((((((qi8 &&& (255 : Int32)) <<< ((0 : Int32) &&& 31))) ||| (((qi9 &&& (255 : Int32)) <<< ((8 : Int32) &&& 31))))).toUInt32.toUInt16.toUInt32.toInt32) = qi2)) ?_
     refine zi X7 Bd d27_19 rfl ?_
     exact retI X7 hx Bd.returns (hb hby d27_21) hr))
   ·
    skip
    obtain ⟨_, T10, L10, X10, hQ10, st10⟩ := own_cS 0 0 [] 12 #[rv qa1, iv qi2, iv 0, iv 4, iv 3] X7 hx hZ hown (w101_ hw) (w102_ hw) (w74_ hw) (w103_ hw) (rm103 l Z a0 hw  qa1 (3 : Int32) qk3 qi4 qi5 qi6 qi7 qi8 qi9 qi10 qi11 h0 n0 X00 uS12 uS15 uS18 A_qa1 (by decide) (by decide)) pd14 hml.symm (hb hby d27_12) e7q rfl rfl rfl rfl (by decide)
    obtain ⟨rfl, N10q, e10q⟩ := hQ10
    have N10 := Fr.app N7 N10q
    have pr11 : Pr p e below T10 m 16 #[rv qa1, iv qi2, iv 0, iv 4, iv 3] [.int qi2, (.int ((((((qi10 &&& (255 : Int32)) <<< ((0 : Int32) &&& 31))) ||| (((qi11 &&& (255 : Int32)) <<< ((8 : Int32) &&& 31))))).toUInt32.toUInt16.toUInt32.toInt32))] s₁ (entryFrame m #[.ref qa1, .int qi2, .int 0, .int 4] 5) := fun t k => pr8 t (by
     show Sx p e below T7 m 16 #[rv qa1, iv qi2, iv 0, iv 4, iv 2] [.int qi2, (.int ((((((qi8 &&& (255 : Int32)) <<< ((0 : Int32) &&& 31))) ||| (((qi9 &&& (255 : Int32)) <<< ((8 : Int32) &&& 31))))).toUInt32.toUInt16.toUInt32.toInt32))] _
     refine zy (pc' := 22) X7 Bd d27_16 (XT.ii_ne_t (hc9 : ¬ (((((((qi8 &&& (255 : Int32)) <<< ((0 : Int32) &&& 31))) ||| (((qi9 &&& (255 : Int32)) <<< ((8 : Int32) &&& 31))))).toUInt32.toUInt16.toUInt32.toInt32) = qi2))) rfl ?_
     refine XS.iinc X7.here hx rfl (hb hby d27_22) rfl (l' := #[rv qa1, iv qi2, iv 0, iv 4, iv 3]) rfl ?_
     refine zg (pc' := 3) X7 Bd d27_25 rfl ?_
     refine zi X7 Bd d27_3 rfl ?_
     refine zj X7 Bd d27_5 rfl ?_
     refine zn X7 Bd d27_6 (XT.ii_ge_f ((by decide) : (3 : Int32) < (4 : Int32))) ?_
     refine zb X7 Bd d27_9 rfl rfl ?_
     refine zi X7 Bd d27_10 rfl ?_
     refine st10 _ ?_
     refine zj X10 Bd d27_15 rfl ?_
     exact k)
    by_cases hc12 : ((((((qi10 &&& (255 : Int32)) <<< ((0 : Int32) &&& 31))) ||| (((qi11 &&& (255 : Int32)) <<< ((8 : Int32) &&& 31))))).toUInt32.toUInt16.toUInt32.toInt32) = qi2
    ·
     skip
     refine own_lvF X10 Bd (.int 3) e10q ⟨(by rw [own_ix, if_neg hc3, own_ix, if_neg hc6, own_ix, if_neg hc9, own_ix, if_pos hc12] <;> rfl), N10, rfl⟩ rfl (fun fs hr => pr11 _ (by
      show Sx p e below T10 m 16 #[rv qa1, iv qi2, iv 0, iv 4, iv 3] [.int qi2, (.int ((((((qi10 &&& (255 : Int32)) <<< ((0 : Int32) &&& 31))) ||| (((qi11 &&& (255 : Int32)) <<< ((8 : Int32) &&& 31))))).toUInt32.toUInt16.toUInt32.toInt32))] _
      refine zn X10 Bd d27_16 (XT.ii_ne_f (hc12 : ((((((qi10 &&& (255 : Int32)) <<< ((0 : Int32) &&& 31))) ||| (((qi11 &&& (255 : Int32)) <<< ((8 : Int32) &&& 31))))).toUInt32.toUInt16.toUInt32.toInt32) = qi2)) ?_
      refine zi X10 Bd d27_19 rfl ?_
      exact retI X10 hx Bd.returns (hb hby d27_21) hr))
    ·
     skip
     refine own_lvF X10 Bd (.int (-1 : Int32)) e10q ⟨(by rw [own_ix, if_neg hc3, own_ix, if_neg hc6, own_ix, if_neg hc9, own_ix, if_neg hc12, own_ix] <;> rfl), N10, rfl⟩ rfl (fun fs hr => pr11 _ (by
      show Sx p e below T10 m 16 #[rv qa1, iv qi2, iv 0, iv 4, iv 3] [.int qi2, (.int ((((((qi10 &&& (255 : Int32)) <<< ((0 : Int32) &&& 31))) ||| (((qi11 &&& (255 : Int32)) <<< ((8 : Int32) &&& 31))))).toUInt32.toUInt16.toUInt32.toInt32))] _
      refine zy (pc' := 22) X10 Bd d27_16 (XT.ii_ne_t (hc12 : ¬ (((((((qi10 &&& (255 : Int32)) <<< ((0 : Int32) &&& 31))) ||| (((qi11 &&& (255 : Int32)) <<< ((8 : Int32) &&& 31))))).toUInt32.toUInt16.toUInt32.toInt32) = qi2))) rfl ?_
      refine XS.iinc X10.here hx rfl (hb hby d27_22) rfl (l' := #[rv qa1, iv qi2, iv 0, iv 4, iv 4]) rfl ?_
      refine zg (pc' := 3) X10 Bd d27_25 rfl ?_
      refine zi X10 Bd d27_3 rfl ?_
      refine zj X10 Bd d27_5 rfl ?_
      refine zy (pc' := 28) X10 Bd d27_6 (XT.ii_ge_t ((by decide) : ¬ ((4 : Int32) < (4 : Int32)))) rfl ?_
      refine zc X10 Bd d27_28 ?_
      exact retI X10 hx Bd.returns (hb hby d27_29) hr))
-- java/lang/StringUTF16.indexOfChar([BIII)I
def Q118 (Z : State) (qi2 : Int32) (qi4 : Int32) (qi5 : Int32) (qi6 : Int32) (qi7 : Int32) (qi8 : Int32) (qi9 : Int32) (qi10 : Int32) (qi11 : Int32) (h0 : Heap) (n0 : Nat) (v : Option Value) (h : Heap) (L : List Loc) : Prop := v = some (.int (own_ix qi2 (own_L4 qi4 qi5 qi6 qi7 qi8 qi9 qi10 qi11) (0 : Int32))) ∧ Fr n0 L ∧ h = h0
theorem rm118 (l : Launch) (Z : State) (a0 : Array Value) (hw : HW a0 Z) (G3 : Value) (qa1 : Addr) (qi2 : Int32) (qk3 : ClassId) (qi4 : Int32) (qi5 : Int32) (qi6 : Int32) (qi7 : Int32) (qi8 : Int32) (qi9 : Int32) (qi10 : Int32) (qi11 : Int32) (h0 : Heap) (n0 : Nat) (X00 : Old Z n0 h0) (O4 : Sta Z Z.heap "jdk/internal/util/Preconditions" "SIOOBE_FORMATTER" "Ljava/util/function/BiFunction;" G3) (rG3 : G3.isRef = true) (uS12 : Sta Z Z.heap "java/lang/StringUTF16" "$assertionsDisabled" "Z" (.int 1)) (uS15 : Sta Z Z.heap "java/lang/StringUTF16" "HI_BYTE_SHIFT" "I" (.int 0)) (uS18 : Sta Z Z.heap "java/lang/StringUTF16" "LO_BYTE_SHIFT" "I" (.int 8)) (A_qa1 : Arv Z h0 qa1 qk3 .byte (8 : Int32) [.int qi4, .int qi5, .int qi6, .int qi7, .int qi8, .int qi9, .int qi10, .int qi11] (.int 0)) :
    MF l Z Y26_ jdk_52_method_47_code 4 (some .int) (Rm 3 0 0 43) #[.ref qa1, .int qi2, .int 0, .int 4] h0 (Q118 Z qi2 qi4 qi5 qi6 qi7 qi8 qi9 qi10 qi11 h0 n0) := by
 refine own_sF pn4 rfl (fun m => ef7 m qa1 qi2 (0 : Int32) (4 : Int32)) ?_
 intro p e s m below meth c s₁ Bd hZ hh hx hby hml hown hnm X0 e0 pre0
 have N0 := Fr.nil n0
 obtain ⟨_, T1, L1, X1, hQ1, st1⟩ := own_cS 0 0 [] 3 #[rv qa1, iv qi2, iv 0, iv 4] X0 hx hZ hown (w113_ hw) (w114_ hw) (w74_ hw) (w115_ hw) (rm116 l Z a0 hw G3 qa1 qk3 qi4 qi5 qi6 qi7 qi8 qi9 qi10 qi11 h0 n0 X00 O4 rG3 A_qa1) pd20 hml.symm (hb hby d22_3) e0 rfl rfl rfl rfl (by decide)
 obtain ⟨rfl, N1q, e1q⟩ := hQ1
 have N1 := Fr.app N0 N1q
 obtain ⟨_, T2, L2, X2, hQ2, st2⟩ := own_cS 0 0 [] 10 #[rv qa1, iv qi2, iv 0, iv 4] X1 hx hZ hown (w127_ hw) (w128_ hw) (w74_ hw) (w129_ hw) (rm117 l Z a0 hw  qa1 qi2 qk3 qi4 qi5 qi6 qi7 qi8 qi9 qi10 qi11 h0 n0 X00 uS12 uS15 uS18 A_qa1) pd7 hml.symm (hb hby d22_10) e1q rfl rfl rfl rfl (by decide)
 obtain ⟨rfl, N2q, e2q⟩ := hQ2
 have N2 := Fr.app N1 N2q
 refine own_lvF X2 Bd (.int (own_ix qi2 (own_L4 qi4 qi5 qi6 qi7 qi8 qi9 qi10 qi11) (0 : Int32))) e2q ⟨rfl, N2, rfl⟩ rfl (fun fs hr => pre0 _ (by
  show Sx p e below s₁ m 0 #[rv qa1, iv qi2, iv 0, iv 4] [] _
  refine zj X0 Bd d22_0 rfl ?_
  refine zj X0 Bd d22_1 rfl ?_
  refine zb X0 Bd d22_2 rfl rfl ?_
  refine st1 _ ?_
  refine zb X1 Bd d22_6 rfl rfl ?_
  refine zj X1 Bd d22_7 rfl ?_
  refine zj X1 Bd d22_8 rfl ?_
  refine zj X1 Bd d22_9 rfl ?_
  refine st2 _ ?_
  exact retI X2 hx Bd.returns (hb hby d22_13) hr))
-- java/lang/StringUTF16.indexOf([BIII)I
def Q119 (Z : State) (qi2 : Int32) (qi4 : Int32) (qi5 : Int32) (qi6 : Int32) (qi7 : Int32) (qi8 : Int32) (qi9 : Int32) (qi10 : Int32) (qi11 : Int32) (h0 : Heap) (n0 : Nat) (v : Option Value) (h : Heap) (L : List Loc) : Prop := v = some (.int (own_ix qi2 (own_L4 qi4 qi5 qi6 qi7 qi8 qi9 qi10 qi11) (0 : Int32))) ∧ Fr n0 L ∧ h = h0
theorem rm119 (l : Launch) (Z : State) (a0 : Array Value) (hw : HW a0 Z) (G3 : Value) (qa1 : Addr) (qi2 : Int32) (qk3 : ClassId) (qi4 : Int32) (qi5 : Int32) (qi6 : Int32) (qi7 : Int32) (qi8 : Int32) (qi9 : Int32) (qi10 : Int32) (qi11 : Int32) (h0 : Heap) (n0 : Nat) (X00 : Old Z n0 h0) (O4 : Sta Z Z.heap "jdk/internal/util/Preconditions" "SIOOBE_FORMATTER" "Ljava/util/function/BiFunction;" G3) (rG3 : G3.isRef = true) (uS12 : Sta Z Z.heap "java/lang/StringUTF16" "$assertionsDisabled" "Z" (.int 1)) (uS15 : Sta Z Z.heap "java/lang/StringUTF16" "HI_BYTE_SHIFT" "I" (.int 0)) (uS18 : Sta Z Z.heap "java/lang/StringUTF16" "LO_BYTE_SHIFT" "I" (.int 8)) (A_qa1 : Arv Z h0 qa1 qk3 .byte (8 : Int32) [.int qi4, .int qi5, .int qi6, .int qi7, .int qi8, .int qi9, .int qi10, .int qi11] (.int 0)) (hc4 : qi2 < (65536 : Int32)) :
    MF l Z Y27_ jdk_52_method_40_code 4 (some .int) (Rm 4 0 0 58) #[.ref qa1, .int qi2, .int 0, .int 4] h0 (Q119 Z qi2 qi4 qi5 qi6 qi7 qi8 qi9 qi10 qi11 h0 n0) := by
 refine own_sF pn4 rfl (fun m => ef7 m qa1 qi2 (0 : Int32) (4 : Int32)) ?_
 intro p e s m below meth c s₁ Bd hZ hh hx hby hml hown hnm X0 e0 pre0
 have N0 := Fr.nil n0
 obtain ⟨_, T1, L1, X1, hQ1, st1⟩ := own_cS 0 0 [] 2 #[rv qa1, iv qi2, iv 0, iv 4] X0 hx hZ hown (w107_ hw) (w66_ hw) (w67_ hw) (w68_ hw) (rm6 l Z a0 hw   h0 n0 X00 ) pd6 hml.symm (hb hby d21_2) e0 rfl rfl rfl rfl (by decide)
 obtain ⟨rfl, N1q, e1q⟩ := hQ1
 have N1 := Fr.app N0 N1q
 have av2 := A_qa1
 obtain ⟨cl2, Ar2, q2, S2, N2, H2, Gf2⟩ := av2
 obtain ⟨_, T3, L3, X3, hQ3, st3⟩ := own_cS 0 0 [] 11 #[rv qa1, iv qi2, iv 0, iv 4] X1 hx hZ hown (w108_ hw) (w70_ hw) (w67_ hw) (w71_ hw) (rm112 l Z a0 hw   h0 n0 X00 ) pd6 hml.symm (hb hby d21_11) e1q rfl rfl rfl rfl (by decide)
 obtain ⟨rfl, N3q, e3q⟩ := hQ3
 have N3 := Fr.app N1 N3q
 obtain ⟨_, T5, L5, X5, hQ5, st5⟩ := own_cS 0 0 [] 32 #[rv qa1, iv qi2, iv 0, iv 4] X3 hx hZ hown (w110_ hw) (w111_ hw) (w74_ hw) (w112_ hw) (rm118 l Z a0 hw G3 qa1 qi2 qk3 qi4 qi5 qi6 qi7 qi8 qi9 qi10 qi11 h0 n0 X00 O4 rG3 uS12 uS15 uS18 A_qa1) pd7 hml.symm (hb hby d21_32) e3q rfl rfl rfl rfl (by decide)
 obtain ⟨rfl, N5q, e5q⟩ := hQ5
 have N5 := Fr.app N3 N5q
 refine own_lvF X5 Bd (.int (own_ix qi2 (own_L4 qi4 qi5 qi6 qi7 qi8 qi9 qi10 qi11) (0 : Int32))) e5q ⟨rfl, N5, rfl⟩ rfl (fun fs hr => pre0 _ (by
  show Sx p e below s₁ m 0 #[rv qa1, iv qi2, iv 0, iv 4] [] _
  refine zj X0 Bd d21_0 rfl ?_
  refine zc X0 Bd d21_1 ?_
  refine st1 _ ?_
  refine zt X1 Bd d21_5 (l' := #[rv qa1, iv qi2, iv 0, iv 4]) rfl ?_
  refine zj X1 Bd d21_6 rfl ?_
  refine zb X1 Bd d21_7 rfl rfl ?_
  refine X1.arraylength hx (by rw [e1q]; exact Ar2.1) (State.isArrayOf_alike hZ.alike Ar2.2.1) (g := (mkF m 8 #[rv qa1, iv qi2, iv 0, iv 4] [.ref qa1, .int 4])) rfl rfl (hb hby d21_8) _ ?_
  rw [len_of S2 N2]
  refine zc X1 Bd d21_9 ?_
  refine XS.ishr X1.here hx rfl (hb hby d21_10) rfl ?_
  refine st3 _ ?_
  refine zt X3 Bd d21_14 (l' := #[rv qa1, iv qi2, iv 0, iv 4]) rfl ?_
  refine zj X3 Bd d21_15 rfl ?_
  refine zj X3 Bd d21_16 rfl ?_
  refine zy (pc' := 22) X3 Bd d21_17 (XT.ii_lt_t ((by decide) : (0 : Int32) < (4 : Int32))) rfl ?_
  refine zj X3 Bd d21_22 rfl ?_
  refine X3.ldcInt hx hown (mvT hZ (w109_ hw)) (g := (mkF m 23 #[rv qa1, iv qi2, iv 0, iv 4] [.int qi2])) rfl (hb hby d21_23) _ ?_
  refine zn X3 Bd d21_25 (XT.ii_ge_f (hc4 : qi2 < (65536 : Int32))) ?_
  refine zb X3 Bd d21_28 rfl rfl ?_
  refine zj X3 Bd d21_29 rfl ?_
  refine zj X3 Bd d21_30 rfl ?_
  refine zj X3 Bd d21_31 rfl ?_
  refine st5 _ ?_
  exact retI X5 hx Bd.returns (hb hby d21_35) hr))
-- java/lang/String.indexOf(II)I
def Q120 (Z : State) (qi2 : Int32) (qi5 : Int32) (qi6 : Int32) (qi7 : Int32) (qi8 : Int32) (qi9 : Int32) (qi10 : Int32) (qi11 : Int32) (qi12 : Int32) (h0 : Heap) (n0 : Nat) (v : Option Value) (h : Heap) (L : List Loc) : Prop := v = some (.int (own_ix qi2 (own_L4 qi5 qi6 qi7 qi8 qi9 qi10 qi11 qi12) (0 : Int32))) ∧ Fr n0 L ∧ h = h0
theorem rm120 (l : Launch) (Z : State) (a0 : Array Value) (hw : HW a0 Z) (G1 : Int32) (G3 : Value) (qa1 : Addr) (qi2 : Int32) (qa3 : Addr) (qk4 : ClassId) (qi5 : Int32) (qi6 : Int32) (qi7 : Int32) (qi8 : Int32) (qi9 : Int32) (qi10 : Int32) (qi11 : Int32) (qi12 : Int32) (h0 : Heap) (n0 : Nat) (X00 : Old Z n0 h0) (O2 : Sta Z Z.heap "java/lang/String" "COMPACT_STRINGS" "Z" (.int G1)) (P5 : ¬ (G1 = (0 : Int32))) (O4 : Sta Z Z.heap "jdk/internal/util/Preconditions" "SIOOBE_FORMATTER" "Ljava/util/function/BiFunction;" G3) (rG3 : G3.isRef = true) (uS12 : Sta Z Z.heap "java/lang/StringUTF16" "$assertionsDisabled" "Z" (.int 1)) (uS15 : Sta Z Z.heap "java/lang/StringUTF16" "HI_BYTE_SHIFT" "I" (.int 0)) (uS18 : Sta Z Z.heap "java/lang/StringUTF16" "LO_BYTE_SHIFT" "I" (.int 8)) (E_qa1 : Exa Z h0 qa1 "java/lang/String") (F_qa1_coder : Fld Z h0 qa1 "java/lang/String" "coder" "B" (.int 1)) (F_qa1_value : Fld Z h0 qa1 "java/lang/String" "value" "[B" (.ref qa3)) (A_qa3 : Arv Z h0 qa3 qk4 .byte (8 : Int32) [.int qi5, .int qi6, .int qi7, .int qi8, .int qi9, .int qi10, .int qi11, .int qi12] (.int 0)) (hc5 : qi2 < (65536 : Int32)) :
    MF l Z Y8_ jdk_42_method_80_code 3 (some .int) (Rm 5 0 0 73) #[.ref qa1, .int qi2, .int 0] h0 (Q120 Z qi2 qi5 qi6 qi7 qi8 qi9 qi10 qi11 qi12 h0 n0) := by
 refine own_sF pn1 rfl (fun m => ef6 m qa1 qi2 (0 : Int32)) ?_
 intro p e s m below meth c s₁ Bd hZ hh hx hby hml hown hnm X0 e0 pre0
 have N0 := Fr.nil n0
 obtain ⟨_, T1, L1, X1, hQ1, st1⟩ := own_cV 0 0 [] 1 #[rv qa1, iv qi2, iv 0] X0 hx hZ hown E_qa1 (w42_ hw) (w43_ hw) (notFace_of_selects (args := #[]) (mvT hZ (w45_ hw))) (w45_ hw) (w44_ hw) (w8_ hw) (w46_ hw) (rm22 l Z a0 hw G1 qa1 h0 n0 X00 O2 P5 F_qa1_coder) pd3 hml.symm (hb hby d5_1) e0 rfl rfl rfl rfl (by decide)
 obtain ⟨rfl, N1q, e1q⟩ := hQ1
 have N1 := Fr.app N0 N1q
 obtain ⟨T2, X2, e2, st2⟩ := getF X1 hx hZ hown (host := "") (Or.inl (w26_ hw)) Via.refl e1q F_qa1_value (g := (mkF m 24 #[rv qa1, iv qi2, iv 0] [.ref qa1])) rfl rfl (hb hby d5_24)
 obtain ⟨_, T3, L3, X3, hQ3, st3⟩ := own_cV 0 0 [.int 0, .int qi2, .ref qa3] 30 #[rv qa1, iv qi2, iv 0] X2 hx hZ hown E_qa1 (w48_ hw) (w49_ hw) (notFace_of_selects (args := #[]) (mvT hZ (w51_ hw))) (w51_ hw) (w50_ hw) (w8_ hw) (w52_ hw) (rm111 l Z a0 hw G1 qa1 qa3 qk4 qi5 qi6 qi7 qi8 qi9 qi10 qi11 qi12 h0 n0 X00 O2 P5 F_qa1_value A_qa3 E_qa1 F_qa1_coder) pd4 hml.symm (hb hby d5_30) e2 rfl rfl rfl rfl (by decide)
 obtain ⟨rfl, N3q, e3q⟩ := hQ3
 have N3 := Fr.app N1 N3q
 obtain ⟨_, T4, L4, X4, hQ4, st4⟩ := own_cS 0 0 [] 33 #[rv qa1, iv qi2, iv 0] X3 hx hZ hown (w104_ hw) (w105_ hw) (w74_ hw) (w106_ hw) (rm119 l Z a0 hw G3 qa3 qi2 qk4 qi5 qi6 qi7 qi8 qi9 qi10 qi11 qi12 h0 n0 X00 O4 rG3 uS12 uS15 uS18 A_qa3 hc5) pd7 hml.symm (hb hby d5_33) e3q rfl rfl rfl rfl (by decide)
 obtain ⟨rfl, N4q, e4q⟩ := hQ4
 have N4 := Fr.app N3 N4q
 refine own_lvF X4 Bd (.int (own_ix qi2 (own_L4 qi5 qi6 qi7 qi8 qi9 qi10 qi11 qi12) (0 : Int32))) e4q ⟨rfl, N4, rfl⟩ rfl (fun fs hr => pre0 _ (by
  show Sx p e below s₁ m 0 #[rv qa1, iv qi2, iv 0] [] _
  refine zb X0 Bd d5_0 rfl rfl ?_
  refine st1 _ ?_
  refine zp (pc' := 23) X1 Bd d5_4 (XT.i0_eq_t ((by decide) : (0 : Int32) = (0 : Int32))) rfl ?_
  refine zb X1 Bd d5_23 rfl rfl ?_
  refine st2 _ ?_
  refine zj X2 Bd d5_27 rfl ?_
  refine zj X2 Bd d5_28 rfl ?_
  refine zb X2 Bd d5_29 rfl rfl ?_
  refine st3 _ ?_
  refine st4 _ ?_
  exact retI X4 hx Bd.returns (hb hby d5_36) hr))
-- java/lang/String.indexOf(I)I
def Q121 (Z : State) (qi2 : Int32) (qi5 : Int32) (qi6 : Int32) (qi7 : Int32) (qi8 : Int32) (qi9 : Int32) (qi10 : Int32) (qi11 : Int32) (qi12 : Int32) (h0 : Heap) (n0 : Nat) (v : Option Value) (h : Heap) (L : List Loc) : Prop := v = some (.int (own_ix qi2 (own_L4 qi5 qi6 qi7 qi8 qi9 qi10 qi11 qi12) (0 : Int32))) ∧ Fr n0 L ∧ h = h0
theorem rm121 (l : Launch) (Z : State) (a0 : Array Value) (hw : HW a0 Z) (G1 : Int32) (G3 : Value) (qa1 : Addr) (qi2 : Int32) (qa3 : Addr) (qk4 : ClassId) (qi5 : Int32) (qi6 : Int32) (qi7 : Int32) (qi8 : Int32) (qi9 : Int32) (qi10 : Int32) (qi11 : Int32) (qi12 : Int32) (h0 : Heap) (n0 : Nat) (X00 : Old Z n0 h0) (O2 : Sta Z Z.heap "java/lang/String" "COMPACT_STRINGS" "Z" (.int G1)) (P5 : ¬ (G1 = (0 : Int32))) (O4 : Sta Z Z.heap "jdk/internal/util/Preconditions" "SIOOBE_FORMATTER" "Ljava/util/function/BiFunction;" G3) (rG3 : G3.isRef = true) (uS12 : Sta Z Z.heap "java/lang/StringUTF16" "$assertionsDisabled" "Z" (.int 1)) (uS15 : Sta Z Z.heap "java/lang/StringUTF16" "HI_BYTE_SHIFT" "I" (.int 0)) (uS18 : Sta Z Z.heap "java/lang/StringUTF16" "LO_BYTE_SHIFT" "I" (.int 8)) (E_qa1 : Exa Z h0 qa1 "java/lang/String") (F_qa1_coder : Fld Z h0 qa1 "java/lang/String" "coder" "B" (.int 1)) (F_qa1_value : Fld Z h0 qa1 "java/lang/String" "value" "[B" (.ref qa3)) (A_qa3 : Arv Z h0 qa3 qk4 .byte (8 : Int32) [.int qi5, .int qi6, .int qi7, .int qi8, .int qi9, .int qi10, .int qi11, .int qi12] (.int 0)) (hc2 : qi2 < (65536 : Int32)) :
    MF l Z Y10_ jdk_42_method_79_code 2 (some .int) (Rm 6 0 0 87) #[.ref qa1, .int qi2] h0 (Q121 Z qi2 qi5 qi6 qi7 qi8 qi9 qi10 qi11 qi12 h0 n0) := by
 refine own_sF pn1 rfl (fun m => ef5 m qa1 qi2) ?_
 intro p e s m below meth c s₁ Bd hZ hh hx hby hml hown hnm X0 e0 pre0
 have N0 := Fr.nil n0
 obtain ⟨_, T1, L1, X1, hQ1, st1⟩ := own_cV 0 0 [] 3 #[rv qa1, iv qi2] X0 hx hZ hown E_qa1 (w37_ hw) (w38_ hw) (notFace_of_selects (args := #[]) (mvT hZ (w40_ hw))) (w40_ hw) (w39_ hw) (w8_ hw) (w41_ hw) (rm120 l Z a0 hw G1 G3 qa1 qi2 qa3 qk4 qi5 qi6 qi7 qi8 qi9 qi10 qi11 qi12 h0 n0 X00 O2 P5 O4 rG3 uS12 uS15 uS18 E_qa1 F_qa1_coder F_qa1_value A_qa3 hc2) pd6 hml.symm (hb hby d4_3) e0 rfl rfl rfl rfl (by decide)
 obtain ⟨rfl, N1q, e1q⟩ := hQ1
 have N1 := Fr.app N0 N1q
 refine own_lvF X1 Bd (.int (own_ix qi2 (own_L4 qi5 qi6 qi7 qi8 qi9 qi10 qi11 qi12) (0 : Int32))) e1q ⟨rfl, N1, rfl⟩ rfl (fun fs hr => pre0 _ (by
  show Sx p e below s₁ m 0 #[rv qa1, iv qi2] [] _
  refine zb X0 Bd d4_0 rfl rfl ?_
  refine zj X0 Bd d4_1 rfl ?_
  refine zc X0 Bd d4_2 ?_
  refine st1 _ ?_
  exact retI X1 hx Bd.returns (hb hby d4_6) hr))
-- com/example/echoes_to_canon/echoestocanon/HttpUrl.separator(Ljava/lang/String;)C
def Q122 (Z : State) (qi4 : Int32) (qi5 : Int32) (qi6 : Int32) (qi7 : Int32) (qi8 : Int32) (qi9 : Int32) (qi10 : Int32) (qi11 : Int32) (h0 : Heap) (n0 : Nat) (v : Option Value) (h : Heap) (L : List Loc) : Prop := v = some (.int (own_sep (own_L4 qi4 qi5 qi6 qi7 qi8 qi9 qi10 qi11))) ∧ Fr n0 L ∧ h = h0
theorem rm122 (l : Launch) (Z : State) (a0 : Array Value) (hw : HW a0 Z) (G1 : Int32) (G3 : Value) (qa1 : Addr) (qa2 : Addr) (qk3 : ClassId) (qi4 : Int32) (qi5 : Int32) (qi6 : Int32) (qi7 : Int32) (qi8 : Int32) (qi9 : Int32) (qi10 : Int32) (qi11 : Int32) (h0 : Heap) (n0 : Nat) (X00 : Old Z n0 h0) (O2 : Sta Z Z.heap "java/lang/String" "COMPACT_STRINGS" "Z" (.int G1)) (P5 : ¬ (G1 = (0 : Int32))) (O4 : Sta Z Z.heap "jdk/internal/util/Preconditions" "SIOOBE_FORMATTER" "Ljava/util/function/BiFunction;" G3) (rG3 : G3.isRef = true) (uS12 : Sta Z Z.heap "java/lang/StringUTF16" "$assertionsDisabled" "Z" (.int 1)) (uS15 : Sta Z Z.heap "java/lang/StringUTF16" "HI_BYTE_SHIFT" "I" (.int 0)) (uS18 : Sta Z Z.heap "java/lang/StringUTF16" "LO_BYTE_SHIFT" "I" (.int 8)) (E_qa1 : Exa Z h0 qa1 "java/lang/String") (F_qa1_coder : Fld Z h0 qa1 "java/lang/String" "coder" "B" (.int 1)) (F_qa1_value : Fld Z h0 qa1 "java/lang/String" "value" "[B" (.ref qa2)) (A_qa2 : Arv Z h0 qa2 qk3 .byte (8 : Int32) [.int qi4, .int qi5, .int qi6, .int qi7, .int qi8, .int qi9, .int qi10, .int qi11] (.int 0)) :
    MF l Z Y11_ prog_2_method_30_code 1 (some .char) (Rm 7 0 0 100) #[.ref qa1] h0 (Q122 Z qi4 qi5 qi6 qi7 qi8 qi9 qi10 qi11 h0 n0) := by
 refine own_sF pn2 rfl (fun m => ef4 m qa1) ?_
 intro p e s m below meth c s₁ Bd hZ hh hx hby hml hown hnm X0 e0 pre0
 have N0 := Fr.nil n0
 obtain ⟨_, T1, L1, X1, hQ1, st1⟩ := own_cV 0 0 [] 3 #[rv qa1] X0 hx hZ hown E_qa1 (w32_ hw) (w33_ hw) (notFace_of_selects (args := #[]) (mvT hZ (w35_ hw))) (w35_ hw) (w34_ hw) (w8_ hw) (w36_ hw) (rm121 l Z a0 hw G1 G3 qa1 (59 : Int32) qa2 qk3 qi4 qi5 qi6 qi7 qi8 qi9 qi10 qi11 h0 n0 X00 O2 P5 O4 rG3 uS12 uS15 uS18 E_qa1 F_qa1_coder F_qa1_value A_qa2 (by decide)) pd8 hml.symm (hb hby d3_3) e0 rfl rfl rfl rfl (by decide)
 obtain ⟨rfl, N1q, e1q⟩ := hQ1
 have N1 := Fr.app N0 N1q
 have pr2 : Pr p e below T1 m 6 #[rv qa1] [(.int (own_ix (59 : Int32) (own_L4 qi4 qi5 qi6 qi7 qi8 qi9 qi10 qi11) (0 : Int32)))] s₁ (entryFrame m #[.ref qa1] 1) := fun t k => pre0 t (by
  show Sx p e below s₁ m 0 #[rv qa1] [] _
  refine zb X0 Bd d3_0 rfl rfl ?_
  refine zd X0 Bd d3_1 ?_
  refine st1 _ ?_
  exact k)
 by_cases hc3 : (own_ix (59 : Int32) (own_L4 qi4 qi5 qi6 qi7 qi8 qi9 qi10 qi11) (0 : Int32)) < (0 : Int32)
 ·
  skip
  refine own_lvF X1 Bd (.int 38) e1q ⟨(by rw [own_sep, if_pos (show own_ix (59 : Int32) (own_L4 qi4 qi5 qi6 qi7 qi8 qi9 qi10 qi11) (0 : Int32) < (0 : Int32) from hc3)] <;> rfl), N1, rfl⟩ rfl (fun fs hr => pr2 _ (by
   show Sx p e below T1 m 6 #[rv qa1] [(.int (own_ix (59 : Int32) (own_L4 qi4 qi5 qi6 qi7 qi8 qi9 qi10 qi11) (0 : Int32)))] _
   refine zp (pc' := 23) X1 Bd d3_6 (XT.i0_lt_t (hc3 : (own_ix (59 : Int32) (own_L4 qi4 qi5 qi6 qi7 qi8 qi9 qi10 qi11) (0 : Int32)) < (0 : Int32))) rfl ?_
   refine zd X1 Bd d3_23 ?_
   exact retN X1 hx (t := .char) Bd.returns (by simp) (hb hby d3_25) hr))
 ·
  skip
  obtain ⟨_, T4, L4, X4, hQ4, st4⟩ := own_cV 0 0 [] 12 #[rv qa1] X1 hx hZ hown E_qa1 (w32_ hw) (w33_ hw) (notFace_of_selects (args := #[]) (mvT hZ (w35_ hw))) (w35_ hw) (w34_ hw) (w8_ hw) (w36_ hw) (rm121 l Z a0 hw G1 G3 qa1 (38 : Int32) qa2 qk3 qi4 qi5 qi6 qi7 qi8 qi9 qi10 qi11 h0 n0 X00 O2 P5 O4 rG3 uS12 uS15 uS18 E_qa1 F_qa1_coder F_qa1_value A_qa2 (by decide)) pd8 hml.symm (hb hby d3_12) e1q rfl rfl rfl rfl (by decide)
  obtain ⟨rfl, N4q, e4q⟩ := hQ4
  have N4 := Fr.app N1 N4q
  have pr5 : Pr p e below T4 m 15 #[rv qa1] [(.int (own_ix (38 : Int32) (own_L4 qi4 qi5 qi6 qi7 qi8 qi9 qi10 qi11) (0 : Int32)))] s₁ (entryFrame m #[.ref qa1] 1) := fun t k => pr2 t (by
   show Sx p e below T1 m 6 #[rv qa1] [(.int (own_ix (59 : Int32) (own_L4 qi4 qi5 qi6 qi7 qi8 qi9 qi10 qi11) (0 : Int32)))] _
   refine zo X1 Bd d3_6 (XT.i0_lt_f (hc3 : ¬ ((own_ix (59 : Int32) (own_L4 qi4 qi5 qi6 qi7 qi8 qi9 qi10 qi11) (0 : Int32)) < (0 : Int32)))) ?_
   refine zb X1 Bd d3_9 rfl rfl ?_
   refine zd X1 Bd d3_10 ?_
   refine st4 _ ?_
   exact k)
  by_cases hc6 : (own_ix (38 : Int32) (own_L4 qi4 qi5 qi6 qi7 qi8 qi9 qi10 qi11) (0 : Int32)) < (0 : Int32)
  ·
   skip
   refine own_lvF X4 Bd (.int 59) e4q ⟨(by rw [own_sep, if_neg (show ¬ own_ix (59 : Int32) (own_L4 qi4 qi5 qi6 qi7 qi8 qi9 qi10 qi11) (0 : Int32) < (0 : Int32) from hc3), if_pos (show own_ix (38 : Int32) (own_L4 qi4 qi5 qi6 qi7 qi8 qi9 qi10 qi11) (0 : Int32) < (0 : Int32) from hc6)] <;> rfl), N4, rfl⟩ rfl (fun fs hr => pr5 _ (by
    show Sx p e below T4 m 15 #[rv qa1] [(.int (own_ix (38 : Int32) (own_L4 qi4 qi5 qi6 qi7 qi8 qi9 qi10 qi11) (0 : Int32)))] _
    refine zo X4 Bd d3_15 (XT.i0_ge_f (hc6 : (own_ix (38 : Int32) (own_L4 qi4 qi5 qi6 qi7 qi8 qi9 qi10 qi11) (0 : Int32)) < (0 : Int32))) ?_
    refine zd X4 Bd d3_18 ?_
    refine zg (pc' := 25) X4 Bd d3_20 rfl ?_
    exact retN X4 hx (t := .char) Bd.returns (by simp) (hb hby d3_25) hr))
  ·
   skip
   refine own_lvF X4 Bd (.int 38) e4q ⟨(by rw [own_sep, if_neg (show ¬ own_ix (59 : Int32) (own_L4 qi4 qi5 qi6 qi7 qi8 qi9 qi10 qi11) (0 : Int32) < (0 : Int32) from hc3), if_neg (show ¬ own_ix (38 : Int32) (own_L4 qi4 qi5 qi6 qi7 qi8 qi9 qi10 qi11) (0 : Int32) < (0 : Int32) from hc6)] <;> rfl), N4, rfl⟩ rfl (fun fs hr => pr5 _ (by
    show Sx p e below T4 m 15 #[rv qa1] [(.int (own_ix (38 : Int32) (own_L4 qi4 qi5 qi6 qi7 qi8 qi9 qi10 qi11) (0 : Int32)))] _
    refine zp (pc' := 23) X4 Bd d3_15 (XT.i0_ge_t (hc6 : ¬ ((own_ix (38 : Int32) (own_L4 qi4 qi5 qi6 qi7 qi8 qi9 qi10 qi11) (0 : Int32)) < (0 : Int32)))) rfl ?_
    refine zd X4 Bd d3_23 ?_
    exact retN X4 hx (t := .char) Bd.returns (by simp) (hb hby d3_25) hr))
-- java/lang/StringLatin1.indexOfChar([BIII)I
def Q123 (Z : State) (qi2 : Int32) (qi4 : Int32) (qi5 : Int32) (qi6 : Int32) (qi7 : Int32) (h0 : Heap) (n0 : Nat) (v : Option Value) (h : Heap) (L : List Loc) : Prop := v = some (.int (own_ix ((qi2).toInt8.toInt32) ([((qi4).toInt8.toInt32), ((qi5).toInt8.toInt32), ((qi6).toInt8.toInt32), ((qi7).toInt8.toInt32)] : List Int32) (0 : Int32))) ∧ Fr n0 L ∧ h = h0
theorem rm123 (l : Launch) (Z : State) (a0 : Array Value) (hw : HW a0 Z) (qa1 : Addr) (qi2 : Int32) (qk3 : ClassId) (qi4 : Int32) (qi5 : Int32) (qi6 : Int32) (qi7 : Int32) (h0 : Heap) (n0 : Nat) (X00 : Old Z n0 h0) (A_qa1 : Arv Z h0 qa1 qk3 .byte (4 : Int32) ((([qi4, qi5, qi6, qi7] : List Int32).map (fun c => c.toInt8.toInt32)).map Value.int) (.int 0)) :
    MF l Z Y28_ jdk_43_method_23_code 6 (some .int) (Rm 0 0 0 0) #[.ref qa1, .int qi2, .int 0, .int 4] h0 (Q123 Z qi2 qi4 qi5 qi6 qi7 h0 n0) := by
 refine own_sF pn3 rfl (fun m => ef17 m qa1 qi2 (0 : Int32) (4 : Int32)) ?_
 intro p e s m below meth c s₁ Bd hZ hh hx hby hml hown hnm X0 e0 pre0
 have N0 := Fr.nil n0
 have av1 := A_qa1
 obtain ⟨cl1, Ar1, q1, S1, N1, H1, Gf1⟩ := av1
 have hin2 : ¬ ((0 : Int32) < 0 ∨ cl1.slots.size ≤ ((0 : Int32) : Int32).toNatClampNeg) := inb_of S1 (by decide)
 have hat2 : cl1.slots[((0 : Int32) : Int32).toNatClampNeg]? = some (.int ((qi4).toInt8.toInt32)) := Has.at H1 hin2 rfl
 have pr3 : Pr p e below s₁ m 19 #[rv qa1, iv qi2, iv 0, iv 4, iv ((qi2).toInt8.toInt32), iv 0] [(.int ((qi2).toInt8.toInt32)), (.int ((qi4).toInt8.toInt32))] s₁ (entryFrame m #[.ref qa1, .int qi2, .int 0, .int 4] 6) := fun t k => pre0 t (by
  show Sx p e below s₁ m 0 #[rv qa1, iv qi2, iv 0, iv 4, .unset, .unset] [] _
  refine zj X0 Bd d28_0 rfl ?_
  refine XS.i2b X0.here hx rfl (hb hby d28_1) rfl ?_
  refine zs X0 Bd d28_2 (l' := #[rv qa1, iv qi2, iv 0, iv 4, iv ((qi2).toInt8.toInt32), .unset]) rfl ?_
  refine zj X0 Bd d28_4 rfl ?_
  refine zs X0 Bd d28_5 (l' := #[rv qa1, iv qi2, iv 0, iv 4, iv ((qi2).toInt8.toInt32), iv 0]) rfl ?_
  refine zi X0 Bd d28_7 rfl ?_
  refine zj X0 Bd d28_9 rfl ?_
  refine zn X0 Bd d28_10 (XT.ii_ge_f ((by decide) : (0 : Int32) < (4 : Int32))) ?_
  refine zb X0 Bd d28_13 rfl rfl ?_
  refine zi X0 Bd d28_14 rfl ?_
  refine X0.baloadBytes hx (j := (0 : Int32)) (v := (.int ((qi4).toInt8.toInt32))) (by rw [e0]; exact Ar1.1) (State.isArrayOf_alike hZ.alike Ar1.2.1) Ar1.2.2 hin2 hat2 (g := (mkF m 16 #[rv qa1, iv qi2, iv 0, iv 4, iv ((qi2).toInt8.toInt32), iv 0] [.int 0, .ref qa1])) rfl rfl (hb hby d28_16) _ ?_
  refine zi X0 Bd d28_17 rfl ?_
  exact k)
 by_cases hc4 : ((qi4).toInt8.toInt32) = ((qi2).toInt8.toInt32)
 ·
  skip
  refine own_lvF X0 Bd (.int 0) e0 ⟨(by rw [own_ix, if_pos hc4] <;> rfl), N0, rfl⟩ rfl (fun fs hr => pr3 _ (by
   show Sx p e below s₁ m 19 #[rv qa1, iv qi2, iv 0, iv 4, iv ((qi2).toInt8.toInt32), iv 0] [(.int ((qi2).toInt8.toInt32)), (.int ((qi4).toInt8.toInt32))] _
   refine zn X0 Bd d28_19 (XT.ii_ne_f (hc4 : ((qi4).toInt8.toInt32) = ((qi2).toInt8.toInt32))) ?_
   refine zi X0 Bd d28_22 rfl ?_
   exact retI X0 hx Bd.returns (hb hby d28_24) hr))
 ·
  skip
  have av5 := A_qa1
  obtain ⟨cl5, Ar5, q5, S5, N5, H5, Gf5⟩ := av5
  have hin6 : ¬ ((1 : Int32) < 0 ∨ cl5.slots.size ≤ ((1 : Int32) : Int32).toNatClampNeg) := inb_of S5 (by decide)
  have hat6 : cl5.slots[((1 : Int32) : Int32).toNatClampNeg]? = some (.int ((qi5).toInt8.toInt32)) := Has.at H5 hin6 rfl
  have pr7 : Pr p e below s₁ m 19 #[rv qa1, iv qi2, iv 0, iv 4, iv ((qi2).toInt8.toInt32), iv 1] [(.int ((qi2).toInt8.toInt32)), (.int ((qi5).toInt8.toInt32))] s₁ (entryFrame m #[.ref qa1, .int qi2, .int 0, .int 4] 6) := fun t k => pr3 t (by
   show Sx p e below s₁ m 19 #[rv qa1, iv qi2, iv 0, iv 4, iv ((qi2).toInt8.toInt32), iv 0] [(.int ((qi2).toInt8.toInt32)), (.int ((qi4).toInt8.toInt32))] _
   refine zy (pc' := 25) X0 Bd d28_19 (XT.ii_ne_t (hc4 : ¬ (((qi4).toInt8.toInt32) = ((qi2).toInt8.toInt32)))) rfl ?_
   refine XS.iinc X0.here hx rfl (hb hby d28_25) rfl (l' := #[rv qa1, iv qi2, iv 0, iv 4, iv ((qi2).toInt8.toInt32), iv 1]) rfl ?_
   refine zg (pc' := 7) X0 Bd d28_28 rfl ?_
   refine zi X0 Bd d28_7 rfl ?_
   refine zj X0 Bd d28_9 rfl ?_
   refine zn X0 Bd d28_10 (XT.ii_ge_f ((by decide) : (1 : Int32) < (4 : Int32))) ?_
   refine zb X0 Bd d28_13 rfl rfl ?_
   refine zi X0 Bd d28_14 rfl ?_
   refine X0.baloadBytes hx (j := (1 : Int32)) (v := (.int ((qi5).toInt8.toInt32))) (by rw [e0]; exact Ar5.1) (State.isArrayOf_alike hZ.alike Ar5.2.1) Ar5.2.2 hin6 hat6 (g := (mkF m 16 #[rv qa1, iv qi2, iv 0, iv 4, iv ((qi2).toInt8.toInt32), iv 1] [.int 1, .ref qa1])) rfl rfl (hb hby d28_16) _ ?_
   refine zi X0 Bd d28_17 rfl ?_
   exact k)
  by_cases hc8 : ((qi5).toInt8.toInt32) = ((qi2).toInt8.toInt32)
  ·
   skip
   refine own_lvF X0 Bd (.int 1) e0 ⟨(by rw [own_ix, if_neg hc4, own_ix, if_pos hc8] <;> rfl), N0, rfl⟩ rfl (fun fs hr => pr7 _ (by
    show Sx p e below s₁ m 19 #[rv qa1, iv qi2, iv 0, iv 4, iv ((qi2).toInt8.toInt32), iv 1] [(.int ((qi2).toInt8.toInt32)), (.int ((qi5).toInt8.toInt32))] _
    refine zn X0 Bd d28_19 (XT.ii_ne_f (hc8 : ((qi5).toInt8.toInt32) = ((qi2).toInt8.toInt32))) ?_
    refine zi X0 Bd d28_22 rfl ?_
    exact retI X0 hx Bd.returns (hb hby d28_24) hr))
  ·
   skip
   have av9 := A_qa1
   obtain ⟨cl9, Ar9, q9, S9, N9, H9, Gf9⟩ := av9
   have hin10 : ¬ ((2 : Int32) < 0 ∨ cl9.slots.size ≤ ((2 : Int32) : Int32).toNatClampNeg) := inb_of S9 (by decide)
   have hat10 : cl9.slots[((2 : Int32) : Int32).toNatClampNeg]? = some (.int ((qi6).toInt8.toInt32)) := Has.at H9 hin10 rfl
   have pr11 : Pr p e below s₁ m 19 #[rv qa1, iv qi2, iv 0, iv 4, iv ((qi2).toInt8.toInt32), iv 2] [(.int ((qi2).toInt8.toInt32)), (.int ((qi6).toInt8.toInt32))] s₁ (entryFrame m #[.ref qa1, .int qi2, .int 0, .int 4] 6) := fun t k => pr7 t (by
    show Sx p e below s₁ m 19 #[rv qa1, iv qi2, iv 0, iv 4, iv ((qi2).toInt8.toInt32), iv 1] [(.int ((qi2).toInt8.toInt32)), (.int ((qi5).toInt8.toInt32))] _
    refine zy (pc' := 25) X0 Bd d28_19 (XT.ii_ne_t (hc8 : ¬ (((qi5).toInt8.toInt32) = ((qi2).toInt8.toInt32)))) rfl ?_
    refine XS.iinc X0.here hx rfl (hb hby d28_25) rfl (l' := #[rv qa1, iv qi2, iv 0, iv 4, iv ((qi2).toInt8.toInt32), iv 2]) rfl ?_
    refine zg (pc' := 7) X0 Bd d28_28 rfl ?_
    refine zi X0 Bd d28_7 rfl ?_
    refine zj X0 Bd d28_9 rfl ?_
    refine zn X0 Bd d28_10 (XT.ii_ge_f ((by decide) : (2 : Int32) < (4 : Int32))) ?_
    refine zb X0 Bd d28_13 rfl rfl ?_
    refine zi X0 Bd d28_14 rfl ?_
    refine X0.baloadBytes hx (j := (2 : Int32)) (v := (.int ((qi6).toInt8.toInt32))) (by rw [e0]; exact Ar9.1) (State.isArrayOf_alike hZ.alike Ar9.2.1) Ar9.2.2 hin10 hat10 (g := (mkF m 16 #[rv qa1, iv qi2, iv 0, iv 4, iv ((qi2).toInt8.toInt32), iv 2] [.int 2, .ref qa1])) rfl rfl (hb hby d28_16) _ ?_
    refine zi X0 Bd d28_17 rfl ?_
    exact k)
   by_cases hc12 : ((qi6).toInt8.toInt32) = ((qi2).toInt8.toInt32)
   ·
    skip
    refine own_lvF X0 Bd (.int 2) e0 ⟨(by rw [own_ix, if_neg hc4, own_ix, if_neg hc8, own_ix, if_pos hc12] <;> rfl), N0, rfl⟩ rfl (fun fs hr => pr11 _ (by
     show Sx p e below s₁ m 19 #[rv qa1, iv qi2, iv 0, iv 4, iv ((qi2).toInt8.toInt32), iv 2] [(.int ((qi2).toInt8.toInt32)), (.int ((qi6).toInt8.toInt32))] _
     refine zn X0 Bd d28_19 (XT.ii_ne_f (hc12 : ((qi6).toInt8.toInt32) = ((qi2).toInt8.toInt32))) ?_
     refine zi X0 Bd d28_22 rfl ?_
     exact retI X0 hx Bd.returns (hb hby d28_24) hr))
   ·
    skip
    have av13 := A_qa1
    obtain ⟨cl13, Ar13, q13, S13, N13, H13, Gf13⟩ := av13
    have hin14 : ¬ ((3 : Int32) < 0 ∨ cl13.slots.size ≤ ((3 : Int32) : Int32).toNatClampNeg) := inb_of S13 (by decide)
    have hat14 : cl13.slots[((3 : Int32) : Int32).toNatClampNeg]? = some (.int ((qi7).toInt8.toInt32)) := Has.at H13 hin14 rfl
    have pr15 : Pr p e below s₁ m 19 #[rv qa1, iv qi2, iv 0, iv 4, iv ((qi2).toInt8.toInt32), iv 3] [(.int ((qi2).toInt8.toInt32)), (.int ((qi7).toInt8.toInt32))] s₁ (entryFrame m #[.ref qa1, .int qi2, .int 0, .int 4] 6) := fun t k => pr11 t (by
     show Sx p e below s₁ m 19 #[rv qa1, iv qi2, iv 0, iv 4, iv ((qi2).toInt8.toInt32), iv 2] [(.int ((qi2).toInt8.toInt32)), (.int ((qi6).toInt8.toInt32))] _
     refine zy (pc' := 25) X0 Bd d28_19 (XT.ii_ne_t (hc12 : ¬ (((qi6).toInt8.toInt32) = ((qi2).toInt8.toInt32)))) rfl ?_
     refine XS.iinc X0.here hx rfl (hb hby d28_25) rfl (l' := #[rv qa1, iv qi2, iv 0, iv 4, iv ((qi2).toInt8.toInt32), iv 3]) rfl ?_
     refine zg (pc' := 7) X0 Bd d28_28 rfl ?_
     refine zi X0 Bd d28_7 rfl ?_
     refine zj X0 Bd d28_9 rfl ?_
     refine zn X0 Bd d28_10 (XT.ii_ge_f ((by decide) : (3 : Int32) < (4 : Int32))) ?_
     refine zb X0 Bd d28_13 rfl rfl ?_
     refine zi X0 Bd d28_14 rfl ?_
     refine X0.baloadBytes hx (j := (3 : Int32)) (v := (.int ((qi7).toInt8.toInt32))) (by rw [e0]; exact Ar13.1) (State.isArrayOf_alike hZ.alike Ar13.2.1) Ar13.2.2 hin14 hat14 (g := (mkF m 16 #[rv qa1, iv qi2, iv 0, iv 4, iv ((qi2).toInt8.toInt32), iv 3] [.int 3, .ref qa1])) rfl rfl (hb hby d28_16) _ ?_
     refine zi X0 Bd d28_17 rfl ?_
     exact k)
    by_cases hc16 : ((qi7).toInt8.toInt32) = ((qi2).toInt8.toInt32)
    ·
     skip
     refine own_lvF X0 Bd (.int 3) e0 ⟨(by rw [own_ix, if_neg hc4, own_ix, if_neg hc8, own_ix, if_neg hc12, own_ix, if_pos hc16] <;> rfl), N0, rfl⟩ rfl (fun fs hr => pr15 _ (by
      show Sx p e below s₁ m 19 #[rv qa1, iv qi2, iv 0, iv 4, iv ((qi2).toInt8.toInt32), iv 3] [(.int ((qi2).toInt8.toInt32)), (.int ((qi7).toInt8.toInt32))] _
      refine zn X0 Bd d28_19 (XT.ii_ne_f (hc16 : ((qi7).toInt8.toInt32) = ((qi2).toInt8.toInt32))) ?_
      refine zi X0 Bd d28_22 rfl ?_
      exact retI X0 hx Bd.returns (hb hby d28_24) hr))
    ·
     skip
     refine own_lvF X0 Bd (.int (-1 : Int32)) e0 ⟨(by rw [own_ix, if_neg hc4, own_ix, if_neg hc8, own_ix, if_neg hc12, own_ix, if_neg hc16, own_ix] <;> rfl), N0, rfl⟩ rfl (fun fs hr => pr15 _ (by
      show Sx p e below s₁ m 19 #[rv qa1, iv qi2, iv 0, iv 4, iv ((qi2).toInt8.toInt32), iv 3] [(.int ((qi2).toInt8.toInt32)), (.int ((qi7).toInt8.toInt32))] _
      refine zy (pc' := 25) X0 Bd d28_19 (XT.ii_ne_t (hc16 : ¬ (((qi7).toInt8.toInt32) = ((qi2).toInt8.toInt32)))) rfl ?_
      refine XS.iinc X0.here hx rfl (hb hby d28_25) rfl (l' := #[rv qa1, iv qi2, iv 0, iv 4, iv ((qi2).toInt8.toInt32), iv 4]) rfl ?_
      refine zg (pc' := 7) X0 Bd d28_28 rfl ?_
      refine zi X0 Bd d28_7 rfl ?_
      refine zj X0 Bd d28_9 rfl ?_
      refine zy (pc' := 31) X0 Bd d28_10 (XT.ii_ge_t ((by decide) : ¬ ((4 : Int32) < (4 : Int32)))) rfl ?_
      refine zc X0 Bd d28_31 ?_
      exact retI X0 hx Bd.returns (hb hby d28_32) hr))
-- java/lang/StringLatin1.indexOf([BIII)I
def Q124 (Z : State) (qi2 : Int32) (qi4 : Int32) (qi5 : Int32) (qi6 : Int32) (qi7 : Int32) (h0 : Heap) (n0 : Nat) (v : Option Value) (h : Heap) (L : List Loc) : Prop := v = some (.int (own_ix ((qi2).toInt8.toInt32) ([((qi4).toInt8.toInt32), ((qi5).toInt8.toInt32), ((qi6).toInt8.toInt32), ((qi7).toInt8.toInt32)] : List Int32) (0 : Int32))) ∧ Fr n0 L ∧ h = h0
theorem rm124 (l : Launch) (Z : State) (a0 : Array Value) (hw : HW a0 Z) (qa1 : Addr) (qi2 : Int32) (qk3 : ClassId) (qi4 : Int32) (qi5 : Int32) (qi6 : Int32) (qi7 : Int32) (h0 : Heap) (n0 : Nat) (X00 : Old Z n0 h0) (hc2 : ¬ (qi2 < (0 : Int32))) (hc3 : ¬ ((255 : Int32) < qi2)) (A_qa1 : Arv Z h0 qa1 qk3 .byte (4 : Int32) ((([qi4, qi5, qi6, qi7] : List Int32).map (fun c => c.toInt8.toInt32)).map Value.int) (.int 0)) :
    MF l Z Y7_ jdk_43_method_22_code 4 (some .int) (Rm 1 0 0 17) #[.ref qa1, .int qi2, .int 0, .int 4] h0 (Q124 Z qi2 qi4 qi5 qi6 qi7 h0 n0) := by
 refine own_sF pn3 rfl (fun m => ef7 m qa1 qi2 (0 : Int32) (4 : Int32)) ?_
 intro p e s m below meth c s₁ Bd hZ hh hx hby hml hown hnm X0 e0 pre0
 have N0 := Fr.nil n0
 obtain ⟨_, T1, L1, X1, hQ1, st1⟩ := own_cS 0 0 [] 1 #[rv qa1, iv qi2, iv 0, iv 4] X0 hx hZ hown (w62_ hw) (w63_ hw) (w60_ hw) (w64_ hw) (rm5 l Z a0 hw  qi2 h0 n0 X00 hc2 hc3) pd5 hml.symm (hb hby d7_1) e0 rfl rfl rfl rfl (by decide)
 obtain ⟨rfl, N1q, e1q⟩ := hQ1
 have N1 := Fr.app N0 N1q
 obtain ⟨_, T4, L4, X4, hQ4, st4⟩ := own_cS 0 0 [] 11 #[rv qa1, iv qi2, iv 0, iv 4] X1 hx hZ hown (w65_ hw) (w66_ hw) (w67_ hw) (w68_ hw) (rm6 l Z a0 hw   h0 n0 X00 ) pd6 hml.symm (hb hby d7_11) e1q rfl rfl rfl rfl (by decide)
 obtain ⟨rfl, N4q, e4q⟩ := hQ4
 have N4 := Fr.app N1 N4q
 have av5 := A_qa1
 obtain ⟨cl5, Ar5, q5, S5, N5, H5, Gf5⟩ := av5
 obtain ⟨_, T6, L6, X6, hQ6, st6⟩ := own_cS 0 0 [] 18 #[rv qa1, iv qi2, iv 0, iv 4] X4 hx hZ hown (w69_ hw) (w70_ hw) (w67_ hw) (w71_ hw) (rm112 l Z a0 hw   h0 n0 X00 ) pd6 hml.symm (hb hby d7_18) e4q rfl rfl rfl rfl (by decide)
 obtain ⟨rfl, N6q, e6q⟩ := hQ6
 have N6 := Fr.app N4 N6q
 obtain ⟨_, T7, L7, X7, hQ7, st7⟩ := own_cS 0 0 [] 33 #[rv qa1, iv qi2, iv 0, iv 4] X6 hx hZ hown (w82_ hw) (w83_ hw) (w60_ hw) (w84_ hw) (rm123 l Z a0 hw  qa1 qi2 qk3 qi4 qi5 qi6 qi7 h0 n0 X00 A_qa1) pd7 hml.symm (hb hby d7_33) e6q rfl rfl rfl rfl (by decide)
 obtain ⟨rfl, N7q, e7q⟩ := hQ7
 have N7 := Fr.app N6 N7q
 refine own_lvF X7 Bd (.int (own_ix ((qi2).toInt8.toInt32) ([((qi4).toInt8.toInt32), ((qi5).toInt8.toInt32), ((qi6).toInt8.toInt32), ((qi7).toInt8.toInt32)] : List Int32) (0 : Int32))) e7q ⟨rfl, N7, rfl⟩ rfl (fun fs hr => pre0 _ (by
  show Sx p e below s₁ m 0 #[rv qa1, iv qi2, iv 0, iv 4] [] _
  refine zj X0 Bd d7_0 rfl ?_
  refine st1 _ ?_
  refine zp (pc' := 9) X1 Bd d7_4 (XT.i0_ne_t ((by decide) : ¬ ((1 : Int32) = (0 : Int32)))) rfl ?_
  refine zj X1 Bd d7_9 rfl ?_
  refine zc X1 Bd d7_10 ?_
  refine st4 _ ?_
  refine zt X4 Bd d7_14 (l' := #[rv qa1, iv qi2, iv 0, iv 4]) rfl ?_
  refine zj X4 Bd d7_15 rfl ?_
  refine zb X4 Bd d7_16 rfl rfl ?_
  refine X4.arraylength hx (by rw [e4q]; exact Ar5.1) (State.isArrayOf_alike hZ.alike Ar5.2.1) (g := (mkF m 17 #[rv qa1, iv qi2, iv 0, iv 4] [.ref qa1, .int 4])) rfl rfl (hb hby d7_17) _ ?_
  rw [len_of S5 N5]
  refine st6 _ ?_
  refine zt X6 Bd d7_21 (l' := #[rv qa1, iv qi2, iv 0, iv 4]) rfl ?_
  refine zj X6 Bd d7_22 rfl ?_
  refine zj X6 Bd d7_23 rfl ?_
  refine zy (pc' := 29) X6 Bd d7_24 (XT.ii_lt_t ((by decide) : (0 : Int32) < (4 : Int32))) rfl ?_
  refine zb X6 Bd d7_29 rfl rfl ?_
  refine zj X6 Bd d7_30 rfl ?_
  refine zj X6 Bd d7_31 rfl ?_
  refine zj X6 Bd d7_32 rfl ?_
  refine st7 _ ?_
  exact retI X7 hx Bd.returns (hb hby d7_36) hr))
-- java/lang/String.indexOf(II)I
def Q125 (Z : State) (qi2 : Int32) (qi4 : Int32) (qi5 : Int32) (qi6 : Int32) (qi7 : Int32) (h0 : Heap) (n0 : Nat) (v : Option Value) (h : Heap) (L : List Loc) : Prop := v = some (.int (own_ix ((qi2).toInt8.toInt32) ([((qi4).toInt8.toInt32), ((qi5).toInt8.toInt32), ((qi6).toInt8.toInt32), ((qi7).toInt8.toInt32)] : List Int32) (0 : Int32))) ∧ Fr n0 L ∧ h = h0
theorem rm125 (l : Launch) (Z : State) (a0 : Array Value) (hw : HW a0 Z) (G1 : Int32) (qa1 : Addr) (qi2 : Int32) (qa3 : Addr) (qi4 : Int32) (qi5 : Int32) (qi6 : Int32) (qi7 : Int32) (qk8 : ClassId) (h0 : Heap) (n0 : Nat) (X00 : Old Z n0 h0) (O2 : Sta Z Z.heap "java/lang/String" "COMPACT_STRINGS" "Z" (.int G1)) (P5 : ¬ (G1 = (0 : Int32))) (E_qa1 : Exa Z h0 qa1 "java/lang/String") (F_qa1_coder : Fld Z h0 qa1 "java/lang/String" "coder" "B" (.int 0)) (F_qa1_value : Fld Z h0 qa1 "java/lang/String" "value" "[B" (.ref qa3)) (hp_qa1 : ∀ c ∈ ([qi4, qi5, qi6, qi7] : List Int32), ¬ c < 0 ∧ ¬ (255 : Int32) < c) (A_qa3 : Arv Z h0 qa3 qk8 .byte (4 : Int32) ((([qi4, qi5, qi6, qi7] : List Int32).map (fun c => c.toInt8.toInt32)).map Value.int) (.int 0)) (hc6 : ¬ (qi2 < (0 : Int32))) (hc7 : ¬ ((255 : Int32) < qi2)) :
    MF l Z Y8_ jdk_42_method_80_code 3 (some .int) (Rm 2 0 0 32) #[.ref qa1, .int qi2, .int 0] h0 (Q125 Z qi2 qi4 qi5 qi6 qi7 h0 n0) := by
 refine own_sF pn1 rfl (fun m => ef6 m qa1 qi2 (0 : Int32)) ?_
 intro p e s m below meth c s₁ Bd hZ hh hx hby hml hown hnm X0 e0 pre0
 have N0 := Fr.nil n0
 obtain ⟨_, T1, L1, X1, hQ1, st1⟩ := own_cV 0 0 [] 1 #[rv qa1, iv qi2, iv 0] X0 hx hZ hown E_qa1 (w42_ hw) (w43_ hw) (notFace_of_selects (args := #[]) (mvT hZ (w45_ hw))) (w45_ hw) (w44_ hw) (w8_ hw) (w46_ hw) (rm4 l Z a0 hw G1 qa1 h0 n0 X00 O2 P5 F_qa1_coder) pd3 hml.symm (hb hby d5_1) e0 rfl rfl rfl rfl (by decide)
 obtain ⟨rfl, N1q, e1q⟩ := hQ1
 have N1 := Fr.app N0 N1q
 obtain ⟨T2, X2, e2, st2⟩ := getF X1 hx hZ hown (host := "") (Or.inl (w26_ hw)) Via.refl e1q F_qa1_value (g := (mkF m 8 #[rv qa1, iv qi2, iv 0] [.ref qa1])) rfl rfl (hb hby d5_8)
 have hcd4 : StrChars.Road.CodA ([qi4, qi5, qi6, qi7] : List Int32) 0 (4 : Int32) ((([qi4, qi5, qi6, qi7] : List Int32).map (fun c => c.toInt8.toInt32)).map Value.int) := StrChars.Road.codOf (n := 4) rfl (fun x hx => (hp_qa1 x hx).2)
 have hbd4 : ∀ x ∈ ([qi4, qi5, qi6, qi7] : List Int32), ¬ x < 0 ∧ ¬ (65535 : Int32) < x := own_up _ hp_qa1
 obtain ⟨cq3, kq3, q3a, q3b, q3c⟩ := isOf hZ e2 E_qa1
 obtain ⟨_, T3, L3, X3, hQ3, st3⟩ := own_cb0 0 0 0 0 0 0 (X2.virtualBack hx (y := Y9_) (z := Y9_) hown (mvT hZ (w48_ hw)) (mvT hZ (w49_ hw)) (notFace_of_selects (args := #[]) (mvT hZ (w51_ hw))) (mvT hZ (w51_ hw)) (mvT hZ (w50_ hw)) (by decide) (StrChars.Road.lenW (W := 3) hZ (own_wl hw) (kI := 4) (w7_ hw) E_qa1 F_qa1_value F_qa1_coder A_qa3 hcd4 hbd4 (O2.ext X00.2) P5 (lE rfl) (lE rfl) (lE rfl)) q3a q3c (g := (mkF m 14 #[rv qa1, iv qi2, iv 0] [.ref qa1, .int 0, .int qi2, .ref qa3])) rfl hml.symm (Steps.refl _) (argsL := []) (rest := [.int 0, .int qi2, .ref qa3]) (lenOf pd4 rfl) rfl (own_hw rfl) (hb hby d5_14) (fun _ _ => ⟨rfl, e2, (lE rfl : 0 + 0 ≤ _), (lE rfl : 0 + 0 ≤ _)⟩)) rfl rfl
 dsimp only [Pt.U, Pt.locs, Pt.cells, Pt.slots] at hQ3
 obtain ⟨rfl, rfl, e3q⟩ := hQ3
 have N3 := Fr.app N1 (Fr.nil n0)
 obtain ⟨_, T5, L5, X5, hQ5, st5⟩ := own_cS 0 0 [] 17 #[rv qa1, iv qi2, iv 0] X3 hx hZ hown (w58_ hw) (w59_ hw) (w60_ hw) (w61_ hw) (rm124 l Z a0 hw  qa3 qi2 qk8 qi4 qi5 qi6 qi7 h0 n0 X00 hc6 hc7 A_qa3) pd7 hml.symm (hb hby d5_17) e3q rfl rfl rfl rfl (by decide)
 obtain ⟨rfl, N5q, e5q⟩ := hQ5
 have N5 := Fr.app N3 N5q
 refine own_lvF X5 Bd (.int (own_ix ((qi2).toInt8.toInt32) ([((qi4).toInt8.toInt32), ((qi5).toInt8.toInt32), ((qi6).toInt8.toInt32), ((qi7).toInt8.toInt32)] : List Int32) (0 : Int32))) e5q ⟨rfl, N5, rfl⟩ rfl (fun fs hr => pre0 _ (by
  show Sx p e below s₁ m 0 #[rv qa1, iv qi2, iv 0] [] _
  refine zb X0 Bd d5_0 rfl rfl ?_
  refine st1 _ ?_
  refine zo X1 Bd d5_4 (XT.i0_eq_f ((by decide) : ¬ ((1 : Int32) = (0 : Int32)))) ?_
  refine zb X1 Bd d5_7 rfl rfl ?_
  refine st2 _ ?_
  refine zj X2 Bd d5_11 rfl ?_
  refine zj X2 Bd d5_12 rfl ?_
  refine zb X2 Bd d5_13 rfl rfl ?_
  refine st3.trans ?_
  refine st5 _ ?_
  refine zg (pc' := 36) X5 Bd d5_20 rfl ?_
  exact retI X5 hx Bd.returns (hb hby d5_36) hr))
-- java/lang/String.indexOf(I)I
def Q126 (Z : State) (qi2 : Int32) (qi4 : Int32) (qi5 : Int32) (qi6 : Int32) (qi7 : Int32) (h0 : Heap) (n0 : Nat) (v : Option Value) (h : Heap) (L : List Loc) : Prop := v = some (.int (own_ix ((qi2).toInt8.toInt32) ([((qi4).toInt8.toInt32), ((qi5).toInt8.toInt32), ((qi6).toInt8.toInt32), ((qi7).toInt8.toInt32)] : List Int32) (0 : Int32))) ∧ Fr n0 L ∧ h = h0
theorem rm126 (l : Launch) (Z : State) (a0 : Array Value) (hw : HW a0 Z) (G1 : Int32) (qa1 : Addr) (qi2 : Int32) (qa3 : Addr) (qi4 : Int32) (qi5 : Int32) (qi6 : Int32) (qi7 : Int32) (qk8 : ClassId) (h0 : Heap) (n0 : Nat) (X00 : Old Z n0 h0) (O2 : Sta Z Z.heap "java/lang/String" "COMPACT_STRINGS" "Z" (.int G1)) (P5 : ¬ (G1 = (0 : Int32))) (E_qa1 : Exa Z h0 qa1 "java/lang/String") (F_qa1_coder : Fld Z h0 qa1 "java/lang/String" "coder" "B" (.int 0)) (F_qa1_value : Fld Z h0 qa1 "java/lang/String" "value" "[B" (.ref qa3)) (hp_qa1 : ∀ c ∈ ([qi4, qi5, qi6, qi7] : List Int32), ¬ c < 0 ∧ ¬ (255 : Int32) < c) (A_qa3 : Arv Z h0 qa3 qk8 .byte (4 : Int32) ((([qi4, qi5, qi6, qi7] : List Int32).map (fun c => c.toInt8.toInt32)).map Value.int) (.int 0)) (hc2 : ¬ (qi2 < (0 : Int32))) (hc3 : ¬ ((255 : Int32) < qi2)) :
    MF l Z Y10_ jdk_42_method_79_code 2 (some .int) (Rm 3 0 0 46) #[.ref qa1, .int qi2] h0 (Q126 Z qi2 qi4 qi5 qi6 qi7 h0 n0) := by
 refine own_sF pn1 rfl (fun m => ef5 m qa1 qi2) ?_
 intro p e s m below meth c s₁ Bd hZ hh hx hby hml hown hnm X0 e0 pre0
 have N0 := Fr.nil n0
 obtain ⟨_, T1, L1, X1, hQ1, st1⟩ := own_cV 0 0 [] 3 #[rv qa1, iv qi2] X0 hx hZ hown E_qa1 (w37_ hw) (w38_ hw) (notFace_of_selects (args := #[]) (mvT hZ (w40_ hw))) (w40_ hw) (w39_ hw) (w8_ hw) (w41_ hw) (rm125 l Z a0 hw G1 qa1 qi2 qa3 qi4 qi5 qi6 qi7 qk8 h0 n0 X00 O2 P5 E_qa1 F_qa1_coder F_qa1_value hp_qa1 A_qa3 hc2 hc3) pd6 hml.symm (hb hby d4_3) e0 rfl rfl rfl rfl (by decide)
 obtain ⟨rfl, N1q, e1q⟩ := hQ1
 have N1 := Fr.app N0 N1q
 refine own_lvF X1 Bd (.int (own_ix ((qi2).toInt8.toInt32) ([((qi4).toInt8.toInt32), ((qi5).toInt8.toInt32), ((qi6).toInt8.toInt32), ((qi7).toInt8.toInt32)] : List Int32) (0 : Int32))) e1q ⟨rfl, N1, rfl⟩ rfl (fun fs hr => pre0 _ (by
  show Sx p e below s₁ m 0 #[rv qa1, iv qi2] [] _
  refine zb X0 Bd d4_0 rfl rfl ?_
  refine zj X0 Bd d4_1 rfl ?_
  refine zc X0 Bd d4_2 ?_
  refine st1 _ ?_
  exact retI X1 hx Bd.returns (hb hby d4_6) hr))
-- com/example/echoes_to_canon/echoestocanon/HttpUrl.separator(Ljava/lang/String;)C
def Q127 (Z : State) (qi3 : Int32) (qi4 : Int32) (qi5 : Int32) (qi6 : Int32) (h0 : Heap) (n0 : Nat) (v : Option Value) (h : Heap) (L : List Loc) : Prop := v = some (.int (own_sep ([((qi3).toInt8.toInt32), ((qi4).toInt8.toInt32), ((qi5).toInt8.toInt32), ((qi6).toInt8.toInt32)] : List Int32))) ∧ Fr n0 L ∧ h = h0
theorem rm127 (l : Launch) (Z : State) (a0 : Array Value) (hw : HW a0 Z) (G1 : Int32) (qa1 : Addr) (qa2 : Addr) (qi3 : Int32) (qi4 : Int32) (qi5 : Int32) (qi6 : Int32) (qk7 : ClassId) (h0 : Heap) (n0 : Nat) (X00 : Old Z n0 h0) (O2 : Sta Z Z.heap "java/lang/String" "COMPACT_STRINGS" "Z" (.int G1)) (P5 : ¬ (G1 = (0 : Int32))) (E_qa1 : Exa Z h0 qa1 "java/lang/String") (F_qa1_coder : Fld Z h0 qa1 "java/lang/String" "coder" "B" (.int 0)) (F_qa1_value : Fld Z h0 qa1 "java/lang/String" "value" "[B" (.ref qa2)) (hp_qa1 : ∀ c ∈ ([qi3, qi4, qi5, qi6] : List Int32), ¬ c < 0 ∧ ¬ (255 : Int32) < c) (A_qa2 : Arv Z h0 qa2 qk7 .byte (4 : Int32) ((([qi3, qi4, qi5, qi6] : List Int32).map (fun c => c.toInt8.toInt32)).map Value.int) (.int 0)) :
    MF l Z Y11_ prog_2_method_30_code 1 (some .char) (Rm 4 0 0 59) #[.ref qa1] h0 (Q127 Z qi3 qi4 qi5 qi6 h0 n0) := by
 refine own_sF pn2 rfl (fun m => ef4 m qa1) ?_
 intro p e s m below meth c s₁ Bd hZ hh hx hby hml hown hnm X0 e0 pre0
 have N0 := Fr.nil n0
 obtain ⟨_, T1, L1, X1, hQ1, st1⟩ := own_cV 0 0 [] 3 #[rv qa1] X0 hx hZ hown E_qa1 (w32_ hw) (w33_ hw) (notFace_of_selects (args := #[]) (mvT hZ (w35_ hw))) (w35_ hw) (w34_ hw) (w8_ hw) (w36_ hw) (rm126 l Z a0 hw G1 qa1 (59 : Int32) qa2 qi3 qi4 qi5 qi6 qk7 h0 n0 X00 O2 P5 E_qa1 F_qa1_coder F_qa1_value hp_qa1 A_qa2 (by decide) (by decide)) pd8 hml.symm (hb hby d3_3) e0 rfl rfl rfl rfl (by decide)
 obtain ⟨rfl, N1q, e1q⟩ := hQ1
 have N1 := Fr.app N0 N1q
 have pr2 : Pr p e below T1 m 6 #[rv qa1] [(.int (own_ix (((59 : Int32)).toInt8.toInt32) ([((qi3).toInt8.toInt32), ((qi4).toInt8.toInt32), ((qi5).toInt8.toInt32), ((qi6).toInt8.toInt32)] : List Int32) (0 : Int32)))] s₁ (entryFrame m #[.ref qa1] 1) := fun t k => pre0 t (by
  show Sx p e below s₁ m 0 #[rv qa1] [] _
  refine zb X0 Bd d3_0 rfl rfl ?_
  refine zd X0 Bd d3_1 ?_
  refine st1 _ ?_
  exact k)
 by_cases hc3 : (own_ix (((59 : Int32)).toInt8.toInt32) ([((qi3).toInt8.toInt32), ((qi4).toInt8.toInt32), ((qi5).toInt8.toInt32), ((qi6).toInt8.toInt32)] : List Int32) (0 : Int32)) < (0 : Int32)
 ·
  skip
  refine own_lvF X1 Bd (.int 38) e1q ⟨(by rw [own_sep, if_pos (show own_ix (59 : Int32) ([((qi3).toInt8.toInt32), ((qi4).toInt8.toInt32), ((qi5).toInt8.toInt32), ((qi6).toInt8.toInt32)] : List Int32) (0 : Int32) < (0 : Int32) from hc3)] <;> rfl), N1, rfl⟩ rfl (fun fs hr => pr2 _ (by
   show Sx p e below T1 m 6 #[rv qa1] [(.int (own_ix (((59 : Int32)).toInt8.toInt32) ([((qi3).toInt8.toInt32), ((qi4).toInt8.toInt32), ((qi5).toInt8.toInt32), ((qi6).toInt8.toInt32)] : List Int32) (0 : Int32)))] _
   refine zp (pc' := 23) X1 Bd d3_6 (XT.i0_lt_t (hc3 : (own_ix (((59 : Int32)).toInt8.toInt32) ([((qi3).toInt8.toInt32), ((qi4).toInt8.toInt32), ((qi5).toInt8.toInt32), ((qi6).toInt8.toInt32)] : List Int32) (0 : Int32)) < (0 : Int32))) rfl ?_
   refine zd X1 Bd d3_23 ?_
   exact retN X1 hx (t := .char) Bd.returns (by simp) (hb hby d3_25) hr))
 ·
  skip
  obtain ⟨_, T4, L4, X4, hQ4, st4⟩ := own_cV 0 0 [] 12 #[rv qa1] X1 hx hZ hown E_qa1 (w32_ hw) (w33_ hw) (notFace_of_selects (args := #[]) (mvT hZ (w35_ hw))) (w35_ hw) (w34_ hw) (w8_ hw) (w36_ hw) (rm126 l Z a0 hw G1 qa1 (38 : Int32) qa2 qi3 qi4 qi5 qi6 qk7 h0 n0 X00 O2 P5 E_qa1 F_qa1_coder F_qa1_value hp_qa1 A_qa2 (by decide) (by decide)) pd8 hml.symm (hb hby d3_12) e1q rfl rfl rfl rfl (by decide)
  obtain ⟨rfl, N4q, e4q⟩ := hQ4
  have N4 := Fr.app N1 N4q
  have pr5 : Pr p e below T4 m 15 #[rv qa1] [(.int (own_ix (((38 : Int32)).toInt8.toInt32) ([((qi3).toInt8.toInt32), ((qi4).toInt8.toInt32), ((qi5).toInt8.toInt32), ((qi6).toInt8.toInt32)] : List Int32) (0 : Int32)))] s₁ (entryFrame m #[.ref qa1] 1) := fun t k => pr2 t (by
   show Sx p e below T1 m 6 #[rv qa1] [(.int (own_ix (((59 : Int32)).toInt8.toInt32) ([((qi3).toInt8.toInt32), ((qi4).toInt8.toInt32), ((qi5).toInt8.toInt32), ((qi6).toInt8.toInt32)] : List Int32) (0 : Int32)))] _
   refine zo X1 Bd d3_6 (XT.i0_lt_f (hc3 : ¬ ((own_ix (((59 : Int32)).toInt8.toInt32) ([((qi3).toInt8.toInt32), ((qi4).toInt8.toInt32), ((qi5).toInt8.toInt32), ((qi6).toInt8.toInt32)] : List Int32) (0 : Int32)) < (0 : Int32)))) ?_
   refine zb X1 Bd d3_9 rfl rfl ?_
   refine zd X1 Bd d3_10 ?_
   refine st4 _ ?_
   exact k)
  by_cases hc6 : (own_ix (((38 : Int32)).toInt8.toInt32) ([((qi3).toInt8.toInt32), ((qi4).toInt8.toInt32), ((qi5).toInt8.toInt32), ((qi6).toInt8.toInt32)] : List Int32) (0 : Int32)) < (0 : Int32)
  ·
   skip
   refine own_lvF X4 Bd (.int 59) e4q ⟨(by rw [own_sep, if_neg (show ¬ own_ix (59 : Int32) ([((qi3).toInt8.toInt32), ((qi4).toInt8.toInt32), ((qi5).toInt8.toInt32), ((qi6).toInt8.toInt32)] : List Int32) (0 : Int32) < (0 : Int32) from hc3), if_pos (show own_ix (38 : Int32) ([((qi3).toInt8.toInt32), ((qi4).toInt8.toInt32), ((qi5).toInt8.toInt32), ((qi6).toInt8.toInt32)] : List Int32) (0 : Int32) < (0 : Int32) from hc6)] <;> rfl), N4, rfl⟩ rfl (fun fs hr => pr5 _ (by
    show Sx p e below T4 m 15 #[rv qa1] [(.int (own_ix (((38 : Int32)).toInt8.toInt32) ([((qi3).toInt8.toInt32), ((qi4).toInt8.toInt32), ((qi5).toInt8.toInt32), ((qi6).toInt8.toInt32)] : List Int32) (0 : Int32)))] _
    refine zo X4 Bd d3_15 (XT.i0_ge_f (hc6 : (own_ix (((38 : Int32)).toInt8.toInt32) ([((qi3).toInt8.toInt32), ((qi4).toInt8.toInt32), ((qi5).toInt8.toInt32), ((qi6).toInt8.toInt32)] : List Int32) (0 : Int32)) < (0 : Int32))) ?_
    refine zd X4 Bd d3_18 ?_
    refine zg (pc' := 25) X4 Bd d3_20 rfl ?_
    exact retN X4 hx (t := .char) Bd.returns (by simp) (hb hby d3_25) hr))
  ·
   skip
   refine own_lvF X4 Bd (.int 38) e4q ⟨(by rw [own_sep, if_neg (show ¬ own_ix (59 : Int32) ([((qi3).toInt8.toInt32), ((qi4).toInt8.toInt32), ((qi5).toInt8.toInt32), ((qi6).toInt8.toInt32)] : List Int32) (0 : Int32) < (0 : Int32) from hc3), if_neg (show ¬ own_ix (38 : Int32) ([((qi3).toInt8.toInt32), ((qi4).toInt8.toInt32), ((qi5).toInt8.toInt32), ((qi6).toInt8.toInt32)] : List Int32) (0 : Int32) < (0 : Int32) from hc6)] <;> rfl), N4, rfl⟩ rfl (fun fs hr => pr5 _ (by
    show Sx p e below T4 m 15 #[rv qa1] [(.int (own_ix (((38 : Int32)).toInt8.toInt32) ([((qi3).toInt8.toInt32), ((qi4).toInt8.toInt32), ((qi5).toInt8.toInt32), ((qi6).toInt8.toInt32)] : List Int32) (0 : Int32)))] _
    refine zp (pc' := 23) X4 Bd d3_15 (XT.i0_ge_t (hc6 : ¬ ((own_ix (((38 : Int32)).toInt8.toInt32) ([((qi3).toInt8.toInt32), ((qi4).toInt8.toInt32), ((qi5).toInt8.toInt32), ((qi6).toInt8.toInt32)] : List Int32) (0 : Int32)) < (0 : Int32)))) rfl ?_
    refine zd X4 Bd d3_23 ?_
    exact retN X4 hx (t := .char) Bd.returns (by simp) (hb hby d3_25) hr))
def Q0 (n0 : Nat) (v : Option Value) (h : Heap) (L : List Loc) : Prop := v = some (.int 1) ∧ Fr n0 L
theorem rm0 (l : Launch) (Z : State) (a0 : Array Value) (hw : ∀ d ∈ tables_1, d.before a0 Z = true) (ws : List Jvm.Cond) (G1 : Int32) (G3 : Value) (p1 : Int32) (p2 : Int32) (p3 : Int32) (p4 : Int32) (p5 : Int32) (h0 : Heap) (n0 : Nat) (X00 : Old Z n0 h0) (O2 : Sta Z Z.heap "java/lang/String" "COMPACT_STRINGS" "Z" (.int G1)) (P5 : ¬ (G1 = (0 : Int32))) (uS12 : Sta Z Z.heap "java/lang/StringUTF16" "$assertionsDisabled" "Z" (.int 1)) (uS15 : Sta Z Z.heap "java/lang/StringUTF16" "HI_BYTE_SHIFT" "I" (.int 0)) (uS18 : Sta Z Z.heap "java/lang/StringUTF16" "LO_BYTE_SHIFT" "I" (.int 8)) (O4 : Sta Z Z.heap "jdk/internal/util/Preconditions" "SIOOBE_FORMATTER" "Ljava/util/function/BiFunction;" G3) (rG3 : G3.isRef = true) :
    MetFree l x (head1 (Jvm.Cond.code x code maxLocals ret :: ws) room_1) (fun a U => a = #[.int p1, .int p2, .int p3, .int p4, .int p5] ∧ Z.Warmed39 U.vm ∧ U.heap = h0 ∧ CHv Z consts_1 U.vm h0) (fun _ _ _ _ _ => True) (fun _ U o U' => ∃ v L, o = .returned v ∧ Q0 n0 v U'.heap L ∧ CHr Z consts_1 U.vm U.heap U'.vm U'.heap ∧ ReturnedEndW U o U' L room_1.cells room_1.slots) := by
 refine MetFree.of_bodySF (plainFor_of_name pn0) hisR ?_
 intro p e s m args below meth c s₁ Bd hml0 hP hK
 obtain ⟨rfl, hZ, hh, hC0⟩ := hP
 have hx := Bd.exec
 have hby := Bd.bytes
 have hml : c.maxLocals = 14 := hml0
 have hown : s.vm.findClass "com/example/echoes_to_canon/echoestocanon/HttpUrlSeparatorPinLaw" = some m.cls := findClass_of_methodNamed Bd.named
 have hnm := (name_of_methodNamed Bd.named Bd.method).1
 have X0 : Stand p l e room_1 (s.setVm s.vm) m #[.int p1, .int p2, .int p3, .int p4, .int p5] below meth c s₁ [] 0 0 := Stand.of_body Bd
 have e0 : s₁.heap = h0 := by rw [← hh, Bd.state]; rfl
 have N0 := Fr.nil n0
 have pre0 : ∀ t, Steps p.tables e below (s₁.setTop (mkF m 0 #[iv p1, iv p2, iv p3, iv p4, iv p5, .unset, .unset, .unset, .unset, .unset, .unset, .unset, .unset, .unset] [])) t → Steps p.tables e below (s₁.setTop (entryFrame m #[.int p1, .int p2, .int p3, .int p4, .int p5] maxLocals)) t := fun t k => castTop (ef0 m p1 p2 p3 p4 p5) k
 obtain ⟨en, hen⟩ : ∃ f, f = (entryFrame m #[.int p1, .int p2, .int p3, .int p4, .int p5] maxLocals) := ⟨_, rfl⟩
 rw [← hen] at pre0 ⊢
 have hS0 : s.Since s.vm h0.size := (State.WarmedH.refl s).since _
 have hk0 : h0.size ≤ h0.size := Nat.le_refl _
 have hR0 : CHr Z consts_1 s.vm h0 s.vm h0 := CHr.refl hC0
 have hEL := own_EW hw
 have hwS := own_wS hw
 obtain ⟨_, T1, L1, X1, hQ1, st1⟩ := own_cS 0 0 [] 10 #[iv p1, iv p2, iv p3, iv p4, iv p5, iv (ab0_ p5), .unset, .unset, .unset, .unset, .unset, .unset, .unset, .unset] X0 hx hZ hown (w1_ hw) (w2_ hw) (w3_ hw) (w4_ hw) (rm1 l Z a0 hw  p1 h0 n0 X00 ) pd0 hml.symm (hb hby at_10) e0 rfl rfl rfl rfl (by decide)
 obtain ⟨z2_, rfl, N1q, e1q, w3⟩ := hQ1
 have N1 := Fr.app N0 N1q
 obtain ⟨_, T4, L4, X4, hQ4, st4⟩ := own_cS 0 0 [] 16 #[iv p1, iv p2, iv p3, iv p4, iv p5, iv (ab0_ p5), iv z2_, .unset, .unset, .unset, .unset, .unset, .unset, .unset] X1 hx hZ hown (w1_ hw) (w2_ hw) (w3_ hw) (w4_ hw) (rm1 l Z a0 hw  p2 h0 n0 X00 ) pd0 hml.symm (hb hby at_16) e1q rfl rfl rfl rfl (by decide)
 obtain ⟨z5_, rfl, N4q, e4q, w6⟩ := hQ4
 have N4 := Fr.app N1 N4q
 obtain ⟨_, T7, L7, X7, hQ7, st7⟩ := own_cS 0 0 [] 22 #[iv p1, iv p2, iv p3, iv p4, iv p5, iv (ab0_ p5), iv z2_, iv z5_, .unset, .unset, .unset, .unset, .unset, .unset] X4 hx hZ hown (w1_ hw) (w2_ hw) (w3_ hw) (w4_ hw) (rm1 l Z a0 hw  p3 h0 n0 X00 ) pd0 hml.symm (hb hby at_22) e4q rfl rfl rfl rfl (by decide)
 obtain ⟨z8_, rfl, N7q, e7q, w9⟩ := hQ7
 have N7 := Fr.app N4 N7q
 obtain ⟨_, T10, L10, X10, hQ10, st10⟩ := own_cS 0 0 [] 28 #[iv p1, iv p2, iv p3, iv p4, iv p5, iv (ab0_ p5), iv z2_, iv z5_, iv z8_, .unset, .unset, .unset, .unset, .unset] X7 hx hZ hown (w1_ hw) (w2_ hw) (w3_ hw) (w4_ hw) (rm1 l Z a0 hw  p4 h0 n0 X00 ) pd0 hml.symm (hb hby at_28) e7q rfl rfl rfl rfl (by decide)
 obtain ⟨z11_, rfl, N10q, e10q, w12⟩ := hQ10
 have N10 := Fr.app N7 N10q
 have pr13 : Pr p e below T10 m 35 #[iv p1, iv p2, iv p3, iv p4, iv p5, iv (ab0_ p5), iv z2_, iv z5_, iv z8_, iv z11_, .unset, .unset, .unset, .unset] [(.int (ab0_ p5))] s₁ en := fun t k => pre0 t (by
  show Sx p e below s₁ m 0 #[iv p1, iv p2, iv p3, iv p4, iv p5, .unset, .unset, .unset, .unset, .unset, .unset, .unset, .unset, .unset] [] _
  refine zi X0 Bd at_0 rfl ?_
  refine X0.ldcInt hx hown (mvT hZ (w0_ hw)) (g := (mkF m 2 #[iv p1, iv p2, iv p3, iv p4, iv p5, .unset, .unset, .unset, .unset, .unset, .unset, .unset, .unset, .unset] [.int p5])) rfl (hb hby at_2) _ ?_
  refine XS.iand X0.here hx rfl (hb hby at_4) rfl ?_
  refine zc X0 Bd at_5 ?_
  refine iremM X0 hx (g := (mkF m 6 #[iv p1, iv p2, iv p3, iv p4, iv p5, .unset, .unset, .unset, .unset, .unset, .unset, .unset, .unset, .unset] [.int 5, (.int (p5 &&& (2147483647 : Int32)))])) rfl (hb hby at_6) rfl (by decide) ?_
  refine zs X0 Bd at_7 (l' := #[iv p1, iv p2, iv p3, iv p4, iv p5, iv (ab0_ p5), .unset, .unset, .unset, .unset, .unset, .unset, .unset, .unset]) rfl ?_
  refine zj X0 Bd at_9 rfl ?_
  refine st1 _ ?_
  refine zs X1 Bd at_13 (l' := #[iv p1, iv p2, iv p3, iv p4, iv p5, iv (ab0_ p5), iv z2_, .unset, .unset, .unset, .unset, .unset, .unset, .unset]) rfl ?_
  refine zj X1 Bd at_15 rfl ?_
  refine st4 _ ?_
  refine zs X4 Bd at_19 (l' := #[iv p1, iv p2, iv p3, iv p4, iv p5, iv (ab0_ p5), iv z2_, iv z5_, .unset, .unset, .unset, .unset, .unset, .unset]) rfl ?_
  refine zj X4 Bd at_21 rfl ?_
  refine st7 _ ?_
  refine zs X7 Bd at_25 (l' := #[iv p1, iv p2, iv p3, iv p4, iv p5, iv (ab0_ p5), iv z2_, iv z5_, iv z8_, .unset, .unset, .unset, .unset, .unset]) rfl ?_
  refine zj X7 Bd at_27 rfl ?_
  refine st10 _ ?_
  refine zs X10 Bd at_31 (l' := #[iv p1, iv p2, iv p3, iv p4, iv p5, iv (ab0_ p5), iv z2_, iv z5_, iv z8_, iv z11_, .unset, .unset, .unset, .unset]) rfl ?_
  refine zi X10 Bd at_33 rfl ?_
  exact k)
 by_cases hc14 : (ab0_ p5) = (0 : Int32)
 ·
  skip
  obtain ⟨T15, h15, X15, e15, E15, A15, D15, -, st15⟩ := newO X10 hx hZ hown (w6_ hw) (w7_ hw) (w8_ hw) e10q (g := (mkF m 38 #[iv p1, iv p2, iv p3, iv p4, iv p5, iv (ab0_ p5), iv z2_, iv z5_, iv z8_, iv z11_, .unset, .unset, .unset, .unset] [])) rfl (hb hby at_38) (lE rfl) (lE rfl)
  obtain ⟨b15, g15⟩ : ∃ z, z = h0.size := ⟨_, rfl⟩
  rw [← g15] at A15 D15 st15
  replace X15 : Stand p l e room_1 (s.setVm s.vm) m #[.int p1, .int p2, .int p3, .int p4, .int p5] below meth c T15 _ 1 4 := X15
  have K16 := (Keep.refl h0 []).ext E15
  have C17 : CHv Z consts_1 s.vm h15 := CHv.ext E15 hC0
  have R18 : CHr Z consts_1 s.vm h0 s.vm h15 := hR0.trans (CHr.ext E15 hC0)
  have F19_ : Fld Z h15 b15 "java/lang/String" "value" "[B" .null := D15 (Or.inr (w22_ hw)) (ty := (.array .byte)) (by decide)
  have F20_ : Fld Z h15 b15 "java/lang/String" "coder" "B" (.int 0) := D15 (Or.inr (w23_ hw)) (ty := .byte) (by decide)
  obtain ⟨T21, h21, c21, X21, e21, E21, A21, st21⟩ := newP (aty := .char) X15 hx hZ (w9_ hw) e15 (g := (mkF m 43 #[iv p1, iv p2, iv p3, iv p4, iv p5, iv (ab0_ p5), iv z2_, iv z5_, iv z8_, iv z11_, .unset, .unset, .unset, .unset] [.int 0, .ref b15, .ref b15])) rfl (hb hby at_43) rfl (by decide) (cap := 0) (by decide) (lE rfl) (lE rfl) (lE rfl)
  obtain ⟨b21, g21⟩ : ∃ z, z = h15.size := ⟨_, rfl⟩
  rw [← g21] at A21 st21
  replace X21 : Stand p l e room_1 (s.setVm s.vm) m #[.int p1, .int p2, .int p3, .int p4, .int p5] below meth c T21 _ 2 4 := X21
  have K22 := K16.ext E21
  have C23 : CHv Z consts_1 s.vm h21 := CHv.ext E21 C17
  have R24 : CHr Z consts_1 s.vm h0 s.vm h21 := R18.trans (CHr.ext E21 C17)
  have A25_ : Arv Z h21 b21 c21 .char (0 : Int32) [] (.int 0) := (Arv.new A21 (by decide)).pad (pad_rep [] (.int 0) 0)
  have E27_ := A15.ext E21
  have F28_ := F19_.ext E21
  have g_b15 : n0 ≤ b15 := Nat.le_trans (Nat.le_trans (Nat.le_of_eq X00.1.symm) X00.2.1) (Nat.le_of_eq g15.symm)
  have F29_ := F20_.ext E21
  have O30 := X00.ext E15
  have O31 := O30.ext E21
  have hk32' : _ ≤ h21.size := (Nat.le_trans (Nat.le_trans hk0 E15.1) E21.1)
  obtain ⟨_, T26, L26, X26, hQ26, hS26, hZ26, ho26, CR26, st26⟩ := own_cbS 2 4 4 8 6 12 (X21.specialBackS hx (y := Y2_) rfl hown (mvT hZ (w10_ hw)) (mvT hZ (w11_ hw)) (mvT hZ (w12_ hw)) (by decide) (backOfSH (W := 1) (EL := consts_1) (s := s) (rm3 l Z a0 hw  b15 b21 c21 h21 n0 O31 A25_ E27_ F28_ g_b15 F29_) hZ (w12_ hw) (w8_ hw) (lE rfl) (lE rfl) hEL C23) (g := (mkF m 45 #[iv p1, iv p2, iv p3, iv p4, iv p5, iv (ab0_ p5), iv z2_, iv z5_, iv z8_, iv z11_, .unset, .unset, .unset, .unset] [.ref b21, .ref b15, .ref b15])) rfl hml.symm (Steps.refl _) (a := b15) (argsL := [.ref b21]) (rest := [.ref b15]) (lenOf pd2 rfl) rfl (own_hw rfl) (hb hby at_45) (fun _ _ => ⟨rfl, e21, (lE rfl : 2 + 4 ≤ _), (lE rfl : 4 + 8 ≤ _)⟩)) rfl rfl hS0 (by rw [e21]; exact hk32') hZ hown
  obtain ⟨b33, c34_, rfl, N26q, K26q, w35, w36, w37, w38⟩ := hQ26
  have N26 := Fr.app N10 N26q
  have hk26 : T26.heap.size ≤ T26.heap.size := Nat.le_refl _
  have sz_b15 : h0.size ≤ b15 := (Nat.le_of_eq g15.symm)
  have K39 := K22.trans K26q (allS (Or.inr sz_b15) all0)
  have R41 := R24.trans CR26
  have pr42 : Pr p e below T26 m 178 #[iv p1, iv p2, iv p3, iv p4, iv p5, iv (ab0_ p5), iv z2_, iv z5_, iv z8_, iv z11_, rv b15, .unset, .unset, .unset] [] s₁ en := fun t k => pr13 t (by
   show Sx p e below T10 m 35 #[iv p1, iv p2, iv p3, iv p4, iv p5, iv (ab0_ p5), iv z2_, iv z5_, iv z8_, iv z11_, .unset, .unset, .unset, .unset] [(.int (ab0_ p5))] _
   refine zo X10 Bd at_35 (XT.i0_ne_f (hc14 : (ab0_ p5) = (0 : Int32))) ?_
   refine st15 _ ?_
   refine XS.dup X15.here hx rfl (hb hby at_41) rfl rfl ?_
   refine zc X15 Bd at_42 ?_
   refine st21 _ ?_
   refine st26.trans ?_
   refine XS.astore X26.here hx rfl (hb hby at_48) rfl rfl (l' := #[iv p1, iv p2, iv p3, iv p4, iv p5, iv (ab0_ p5), iv z2_, iv z5_, iv z8_, iv z11_, rv b15, .unset, .unset, .unset]) rfl ?_
   refine zg (pc' := 178) X26 Bd at_50 rfl ?_
   exact k)
  refine cps (A := ∃ T43 : State, ∃ L43 : List Loc, ∃ h43 : Heap, ∃ s1_ : Int32, Stand p l e room_1 (s.setVm T26.vm) m #[.int p1, .int p2, .int p3, .int p4, .int p5] below meth c T43 L43 6 12 ∧ T43.heap = h43 ∧ Fr n0 L43 ∧ Keep T26.heap h43 [] ∧ (s1_ = own_has (59 : Int32) ([] : List Int32)) ∧ Pr p e below T43 m 236 #[iv p1, iv p2, iv p3, iv p4, iv p5, iv (ab0_ p5), iv z2_, iv z5_, iv z8_, iv z11_, rv b15, iv s1_, .unset, .unset] [] s₁ en) (fun kont43 => ?_) (fun hA43 => ?_)
  ·
   skip
   have pr44 : Pr p e below T26 m 236 #[iv p1, iv p2, iv p3, iv p4, iv p5, iv (ab0_ p5), iv z2_, iv z5_, iv z8_, iv z11_, rv b15, iv 0, .unset, .unset] [] s₁ en := fun t k => pr42 t (by
    show Sx p e below T26 m 178 #[iv p1, iv p2, iv p3, iv p4, iv p5, iv (ab0_ p5), iv z2_, iv z5_, iv z8_, iv z11_, rv b15, .unset, .unset, .unset] [] _
    refine zi X26 Bd at_178 rfl ?_
    refine zp (pc' := 190) X26 Bd at_180 (XT.i0_le_t ((by have e_ : (ab0_ p5) = (0 : Int32) := hc14; rw [e_]; first | done | decide) : ¬ ((0 : Int32) < (ab0_ p5)))) rfl ?_
    refine zi X26 Bd at_190 rfl ?_
    refine zc X26 Bd at_192 ?_
    refine zy (pc' := 203) X26 Bd at_193 (XT.ii_le_t ((by have e_ : (ab0_ p5) = (0 : Int32) := hc14; rw [e_]; first | done | decide) : ¬ ((1 : Int32) < (ab0_ p5)))) rfl ?_
    refine zi X26 Bd at_203 rfl ?_
    refine zc X26 Bd at_205 ?_
    refine zy (pc' := 216) X26 Bd at_206 (XT.ii_le_t ((by have e_ : (ab0_ p5) = (0 : Int32) := hc14; rw [e_]; first | done | decide) : ¬ ((2 : Int32) < (ab0_ p5)))) rfl ?_
    refine zi X26 Bd at_216 rfl ?_
    refine zc X26 Bd at_218 ?_
    refine zy (pc' := 233) X26 Bd at_219 (XT.ii_le_t ((by have e_ : (ab0_ p5) = (0 : Int32) := hc14; rw [e_]; first | done | decide) : ¬ ((3 : Int32) < (ab0_ p5)))) rfl ?_
    refine zc X26 Bd at_233 ?_
    refine zs X26 Bd at_234 (l' := #[iv p1, iv p2, iv p3, iv p4, iv p5, iv (ab0_ p5), iv z2_, iv z5_, iv z8_, iv z11_, rv b15, iv 0, .unset, .unset]) rfl ?_
    exact k)
   exact kont43 ⟨T26, _, T26.heap, (0 : Int32), (X26.mono (lE rfl) (lE rfl)), rfl, N26, (Keep.refl T26.heap []), (by rw [own_has] <;> rfl), (fun t k => pr44 t k)⟩
  ·
   obtain ⟨T43, L43, h43, s1_, X43, e43, N43, K43j, hp43_0, pr43⟩ := hA43
   have K45 := K39.trans K43j (fun x q => nomatch q)
   have C46 : CHv Z consts_1 T26.vm h43 := CHv.keep K43j sf0 CR26.1
   have R47 : CHr Z consts_1 s.vm h0 T26.vm h43 := R41.trans (CHr.keep K43j sf0 CR26.1)
   refine cps (A := ∃ T48 : State, ∃ L48 : List Loc, ∃ h48 : Heap, ∃ a1_ : Int32, Stand p l e room_1 (s.setVm T26.vm) m #[.int p1, .int p2, .int p3, .int p4, .int p5] below meth c T48 L48 6 12 ∧ T48.heap = h48 ∧ Fr n0 L48 ∧ Keep h43 h48 [] ∧ (a1_ = own_has (38 : Int32) ([] : List Int32)) ∧ Pr p e below T48 m 294 #[iv p1, iv p2, iv p3, iv p4, iv p5, iv (ab0_ p5), iv z2_, iv z5_, iv z8_, iv z11_, rv b15, iv s1_, iv a1_, .unset] [] s₁ en) (fun kont48 => ?_) (fun hA48 => ?_)
   ·
    skip
    have pr49 : Pr p e below T43 m 294 #[iv p1, iv p2, iv p3, iv p4, iv p5, iv (ab0_ p5), iv z2_, iv z5_, iv z8_, iv z11_, rv b15, iv s1_, iv 0, .unset] [] s₁ en := fun t k => pr43 t (by
     show Sx p e below T43 m 236 #[iv p1, iv p2, iv p3, iv p4, iv p5, iv (ab0_ p5), iv z2_, iv z5_, iv z8_, iv z11_, rv b15, iv s1_, .unset, .unset] [] _
     refine zi X43 Bd at_236 rfl ?_
     refine zp (pc' := 248) X43 Bd at_238 (XT.i0_le_t ((by have e_ : (ab0_ p5) = (0 : Int32) := hc14; rw [e_]; first | done | decide) : ¬ ((0 : Int32) < (ab0_ p5)))) rfl ?_
     refine zi X43 Bd at_248 rfl ?_
     refine zc X43 Bd at_250 ?_
     refine zy (pc' := 261) X43 Bd at_251 (XT.ii_le_t ((by have e_ : (ab0_ p5) = (0 : Int32) := hc14; rw [e_]; first | done | decide) : ¬ ((1 : Int32) < (ab0_ p5)))) rfl ?_
     refine zi X43 Bd at_261 rfl ?_
     refine zc X43 Bd at_263 ?_
     refine zy (pc' := 274) X43 Bd at_264 (XT.ii_le_t ((by have e_ : (ab0_ p5) = (0 : Int32) := hc14; rw [e_]; first | done | decide) : ¬ ((2 : Int32) < (ab0_ p5)))) rfl ?_
     refine zi X43 Bd at_274 rfl ?_
     refine zc X43 Bd at_276 ?_
     refine zy (pc' := 291) X43 Bd at_277 (XT.ii_le_t ((by have e_ : (ab0_ p5) = (0 : Int32) := hc14; rw [e_]; first | done | decide) : ¬ ((3 : Int32) < (ab0_ p5)))) rfl ?_
     refine zc X43 Bd at_291 ?_
     refine zs X43 Bd at_292 (l' := #[iv p1, iv p2, iv p3, iv p4, iv p5, iv (ab0_ p5), iv z2_, iv z5_, iv z8_, iv z11_, rv b15, iv s1_, iv 0, .unset]) rfl ?_
     exact k)
    exact kont48 ⟨T43, _, h43, (0 : Int32), (X43.mono (lE rfl) (lE rfl)), e43, N43, (Keep.refl h43 []), (by rw [own_has] <;> rfl), (fun t k => pr49 t k)⟩
   ·
    obtain ⟨T48, L48, h48, a1_, X48, e48, N48, K48j, hp48_0, pr48⟩ := hA48
    have K50 := K45.trans K48j (fun x q => nomatch q)
    have C51 : CHv Z consts_1 T26.vm h48 := CHv.keep K48j sf0 C46
    have R52 : CHr Z consts_1 s.vm h0 T26.vm h48 := R47.trans (CHr.keep K48j sf0 C46)
    refine cps (A := ∃ T53 : State, ∃ L53 : List Loc, ∃ h53 : Heap, ∃ ex_ : Int32, Stand p l e room_1 (s.setVm T26.vm) m #[.int p1, .int p2, .int p3, .int p4, .int p5] below meth c T53 L53 6 12 ∧ T53.heap = h53 ∧ Fr n0 L53 ∧ Keep h48 h53 [] ∧ (ex_ = own_exp ([] : List Int32)) ∧ Pr p e below T53 m 313 #[iv p1, iv p2, iv p3, iv p4, iv p5, iv (ab0_ p5), iv z2_, iv z5_, iv z8_, iv z11_, rv b15, iv s1_, iv a1_, iv ex_] [] s₁ en) (fun kont53 => ?_) (fun hA53 => ?_)
    ·
     skip
     have pr54 : Pr p e below T48 m 296 #[iv p1, iv p2, iv p3, iv p4, iv p5, iv (ab0_ p5), iv z2_, iv z5_, iv z8_, iv z11_, rv b15, iv s1_, iv a1_, .unset] [.int s1_] s₁ en := fun t k => pr48 t (by
      show Sx p e below T48 m 294 #[iv p1, iv p2, iv p3, iv p4, iv p5, iv (ab0_ p5), iv z2_, iv z5_, iv z8_, iv z11_, rv b15, iv s1_, iv a1_, .unset] [] _
      refine zi X48 Bd at_294 rfl ?_
      exact k)
     by_cases hc55 : s1_ = (0 : Int32)
     ·
      skip
      have pr56 : Pr p e below T48 m 313 #[iv p1, iv p2, iv p3, iv p4, iv p5, iv (ab0_ p5), iv z2_, iv z5_, iv z8_, iv z11_, rv b15, iv s1_, iv a1_, iv 38] [] s₁ en := fun t k => pr54 t (by
       show Sx p e below T48 m 296 #[iv p1, iv p2, iv p3, iv p4, iv p5, iv (ab0_ p5), iv z2_, iv z5_, iv z8_, iv z11_, rv b15, iv s1_, iv a1_, .unset] [.int s1_] _
       refine zp (pc' := 309) X48 Bd at_296 (XT.i0_eq_t (hc55 : s1_ = (0 : Int32))) rfl ?_
       refine zd X48 Bd at_309 ?_
       refine zs X48 Bd at_311 (l' := #[iv p1, iv p2, iv p3, iv p4, iv p5, iv (ab0_ p5), iv z2_, iv z5_, iv z8_, iv z11_, rv b15, iv s1_, iv a1_, iv 38]) rfl ?_
       exact k)
      exact kont53 ⟨T48, _, h48, (38 : Int32), (X48.mono (lE rfl) (lE rfl)), e48, N48, (Keep.refl h48 []), (by rw [own_exp, ← hp43_0, if_pos hc55] <;> rfl), (fun t k => pr56 t k)⟩
     ·
      skip
      have pr57 : Pr p e below T48 m 301 #[iv p1, iv p2, iv p3, iv p4, iv p5, iv (ab0_ p5), iv z2_, iv z5_, iv z8_, iv z11_, rv b15, iv s1_, iv a1_, .unset] [.int a1_] s₁ en := fun t k => pr54 t (by
       show Sx p e below T48 m 296 #[iv p1, iv p2, iv p3, iv p4, iv p5, iv (ab0_ p5), iv z2_, iv z5_, iv z8_, iv z11_, rv b15, iv s1_, iv a1_, .unset] [.int s1_] _
       refine zo X48 Bd at_296 (XT.i0_eq_f (hc55 : ¬ (s1_ = (0 : Int32)))) ?_
       refine zi X48 Bd at_299 rfl ?_
       exact k)
      by_cases hc58 : a1_ = (0 : Int32)
      ·
       skip
       have pr59 : Pr p e below T48 m 313 #[iv p1, iv p2, iv p3, iv p4, iv p5, iv (ab0_ p5), iv z2_, iv z5_, iv z8_, iv z11_, rv b15, iv s1_, iv a1_, iv 59] [] s₁ en := fun t k => pr57 t (by
        show Sx p e below T48 m 301 #[iv p1, iv p2, iv p3, iv p4, iv p5, iv (ab0_ p5), iv z2_, iv z5_, iv z8_, iv z11_, rv b15, iv s1_, iv a1_, .unset] [.int a1_] _
        refine zo X48 Bd at_301 (XT.i0_ne_f (hc58 : a1_ = (0 : Int32))) ?_
        refine zd X48 Bd at_304 ?_
        refine zg (pc' := 311) X48 Bd at_306 rfl ?_
        refine zs X48 Bd at_311 (l' := #[iv p1, iv p2, iv p3, iv p4, iv p5, iv (ab0_ p5), iv z2_, iv z5_, iv z8_, iv z11_, rv b15, iv s1_, iv a1_, iv 59]) rfl ?_
        exact k)
       exact kont53 ⟨T48, _, h48, (59 : Int32), (X48.mono (lE rfl) (lE rfl)), e48, N48, (Keep.refl h48 []), (by rw [own_exp, ← hp43_0, if_neg hc55, ← hp48_0, if_pos hc58] <;> rfl), (fun t k => pr59 t k)⟩
      ·
       skip
       have pr60 : Pr p e below T48 m 313 #[iv p1, iv p2, iv p3, iv p4, iv p5, iv (ab0_ p5), iv z2_, iv z5_, iv z8_, iv z11_, rv b15, iv s1_, iv a1_, iv 38] [] s₁ en := fun t k => pr57 t (by
        show Sx p e below T48 m 301 #[iv p1, iv p2, iv p3, iv p4, iv p5, iv (ab0_ p5), iv z2_, iv z5_, iv z8_, iv z11_, rv b15, iv s1_, iv a1_, .unset] [.int a1_] _
        refine zp (pc' := 309) X48 Bd at_301 (XT.i0_ne_t (hc58 : ¬ (a1_ = (0 : Int32)))) rfl ?_
        refine zd X48 Bd at_309 ?_
        refine zs X48 Bd at_311 (l' := #[iv p1, iv p2, iv p3, iv p4, iv p5, iv (ab0_ p5), iv z2_, iv z5_, iv z8_, iv z11_, rv b15, iv s1_, iv a1_, iv 38]) rfl ?_
        exact k)
       exact kont53 ⟨T48, _, h48, (38 : Int32), (X48.mono (lE rfl) (lE rfl)), e48, N48, (Keep.refl h48 []), (by rw [own_exp, ← hp43_0, if_neg hc55, ← hp48_0, if_neg hc58] <;> rfl), (fun t k => pr60 t k)⟩
    ·
     obtain ⟨T53, L53, h53, ex_, X53, e53, N53, K53j, hp53_0, pr53⟩ := hA53
     have K61 := K50.trans K53j (fun x q => nomatch q)
     have C62 : CHv Z consts_1 T26.vm h53 := CHv.keep K53j sf0 C51
     have R63 : CHr Z consts_1 s.vm h0 T26.vm h53 := R52.trans (CHr.keep K53j sf0 C51)
     have E65_ := E27_.keep K26q
     have E66_ := E65_.keep K43j
     have E67_ := E66_.keep K48j
     have E68_ := E67_.keep K53j
     have F69_ := w37.keep K43j nin0
     have F70_ := F69_.keep K48j nin0
     have F71_ := F70_.keep K53j nin0
     have F72_ := w36.keep K43j nin0
     have F73_ := F72_.keep K48j nin0
     have F74_ := F73_.keep K53j nin0
     have hp75 : ∀ c ∈ ([] : List Int32), ¬ c < 0 ∧ ¬ (255 : Int32) < c := (fun _ q => nomatch q)
     have A76_ := w38.keep K43j nin0
     have A77_ := A76_.keep K48j nin0
     have A78_ := A77_.keep K53j nin0
     have O79 := O31.keep K26q (allS g_b15 all0)
     have O80 := O79.keep K43j all0
     have O81 := O80.keep K48j all0
     have O82 := O81.keep K53j all0
     obtain ⟨_, T64, L64, X64, hQ64, st64⟩ := own_cS 6 12 [] 315 #[iv p1, iv p2, iv p3, iv p4, iv p5, iv (ab0_ p5), iv z2_, iv z5_, iv z8_, iv z11_, rv b15, iv s1_, iv a1_, iv ex_] X53 hx hZ26 ho26 (w28_ hw) (w29_ hw) (w30_ hw) (w31_ hw) (rm11 l Z a0 hw G1 b15 b33 c34_ h53 n0 O82 O2 P5 E68_ F71_ F74_ A78_) pd9 hml.symm (hb hby at_315) e53 rfl rfl rfl rfl (by decide)
     obtain ⟨rfl, N64q, e64q⟩ := hQ64
     have N64 := Fr.app N53 N64q
     have hp83 : ∀ c ∈ ([] : List Int32), ¬ c < 0 ∧ ¬ (255 : Int32) < c := (fun _ q => nomatch q)
     have hk84' : _ ≤ h53.size := (Nat.le_trans (Nat.le_trans (Nat.le_trans hk26 K43j.1) K48j.1) K53j.1)
     refine own_lvW X64 Bd.notSynchronized hS26 hk84' (v := (some (.int 1))) (fun h => by rw [Bd.returns] at h; cases h) e64q hh ⟨rfl, N64⟩ (R63.trans (CHv.at X64 hZ26 hEL C62)) (lE rfl) (lE rfl) (fun fs hr => pr53 _ (by
      show Sx p e below T53 m 313 #[iv p1, iv p2, iv p3, iv p4, iv p5, iv (ab0_ p5), iv z2_, iv z5_, iv z8_, iv z11_, rv b15, iv s1_, iv a1_, iv ex_] [] _
      refine za X53 Bd at_313 rfl rfl ?_
      refine st64 _ ?_
      refine zi X64 Bd at_318 rfl ?_
      refine zn X64 Bd at_320 (XT.ii_ne_f (((own_finL (z := ([] : List Int32)) hp83 (lE rfl)).trans hp53_0.symm) : (own_sep ([] : List Int32)) = ex_)) ?_
      refine zc X64 Bd at_323 ?_
      refine zg (pc' := 328) X64 Bd at_324 rfl ?_
      exact retN X64 hx (t := .boolean) Bd.returns (by simp) (hb hby at_328) hr))
 ·
  skip
  have pr85 : Pr p e below T10 m 56 #[iv p1, iv p2, iv p3, iv p4, iv p5, iv (ab0_ p5), iv z2_, iv z5_, iv z8_, iv z11_, .unset, .unset, .unset, .unset] [.int 1, (.int (ab0_ p5))] s₁ en := fun t k => pr13 t (by
   show Sx p e below T10 m 35 #[iv p1, iv p2, iv p3, iv p4, iv p5, iv (ab0_ p5), iv z2_, iv z5_, iv z8_, iv z11_, .unset, .unset, .unset, .unset] [(.int (ab0_ p5))] _
   refine zp (pc' := 53) X10 Bd at_35 (XT.i0_ne_t (hc14 : ¬ ((ab0_ p5) = (0 : Int32)))) rfl ?_
   refine zi X10 Bd at_53 rfl ?_
   refine zc X10 Bd at_55 ?_
   exact k)
  by_cases hc86 : (ab0_ p5) = (1 : Int32)
  ·
   skip
   obtain ⟨T87, h87, X87, e87, E87, A87, D87, -, st87⟩ := newO X10 hx hZ hown (w6_ hw) (w7_ hw) (w8_ hw) e10q (g := (mkF m 59 #[iv p1, iv p2, iv p3, iv p4, iv p5, iv (ab0_ p5), iv z2_, iv z5_, iv z8_, iv z11_, .unset, .unset, .unset, .unset] [])) rfl (hb hby at_59) (lE rfl) (lE rfl)
   obtain ⟨b87, g87⟩ : ∃ z, z = h0.size := ⟨_, rfl⟩
   rw [← g87] at A87 D87 st87
   replace X87 : Stand p l e room_1 (s.setVm s.vm) m #[.int p1, .int p2, .int p3, .int p4, .int p5] below meth c T87 _ 1 4 := X87
   have K88 := (Keep.refl h0 []).ext E87
   have C89 : CHv Z consts_1 s.vm h87 := CHv.ext E87 hC0
   have R90 : CHr Z consts_1 s.vm h0 s.vm h87 := hR0.trans (CHr.ext E87 hC0)
   have F91_ : Fld Z h87 b87 "java/lang/String" "value" "[B" .null := D87 (Or.inr (w22_ hw)) (ty := (.array .byte)) (by decide)
   have F92_ : Fld Z h87 b87 "java/lang/String" "coder" "B" (.int 0) := D87 (Or.inr (w23_ hw)) (ty := .byte) (by decide)
   obtain ⟨T93, h93, c93, X93, e93, E93, A93, st93⟩ := newP (aty := .char) X87 hx hZ (w9_ hw) e87 (g := (mkF m 64 #[iv p1, iv p2, iv p3, iv p4, iv p5, iv (ab0_ p5), iv z2_, iv z5_, iv z8_, iv z11_, .unset, .unset, .unset, .unset] [.int 1, .ref b87, .ref b87])) rfl (hb hby at_64) rfl (by decide) (cap := 1) (by decide) (lE rfl) (lE rfl) (lE rfl)
   obtain ⟨b93, g93⟩ : ∃ z, z = h87.size := ⟨_, rfl⟩
   rw [← g93] at A93 st93
   replace X93 : Stand p l e room_1 (s.setVm s.vm) m #[.int p1, .int p2, .int p3, .int p4, .int p5] below meth c T93 _ 2 5 := X93
   have K94 := K88.ext E93
   have C95 : CHv Z consts_1 s.vm h93 := CHv.ext E93 C89
   have R96 : CHr Z consts_1 s.vm h0 s.vm h93 := R90.trans (CHr.ext E93 C89)
   have A97_ : Arv Z h93 b93 c93 .char (1 : Int32) [.int 0] (.int 0) := (Arv.new A93 (by decide)).pad (pad_rep [] (.int 0) 1)
   have av98 := A97_
   obtain ⟨cl98, Ar98, q98, S98, N98, H98, Gf98⟩ := av98
   have hin99 : ¬ ((0 : Int32) < 0 ∨ cl98.slots.size ≤ ((0 : Int32) : Int32).toNatClampNeg) := inb_of S98 (by decide)
   obtain ⟨T99, h99, X99, e99, W99, st99⟩ := stC X93 hx hZ e93 Ar98 (j := (0 : Int32)) hin99 (g := (mkF m 70 #[iv p1, iv p2, iv p3, iv p4, iv p5, iv (ab0_ p5), iv z2_, iv z5_, iv z8_, iv z11_, .unset, .unset, .unset, .unset] [.int z2_, .int 0, .ref b93, .ref b93, .ref b87, .ref b87])) rfl rfl (hb hby at_70)
   have O100 := X00.ext E87
   have g_b93 : n0 ≤ b93 := Nat.le_trans (Nat.le_trans (Nat.le_of_eq O100.1.symm) O100.2.1) (Nat.le_of_eq g93.symm)
   have N99_ := Fr.snoc X99 N10 g_b93
   have sz_b93 : h0.size ≤ b93 := Nat.le_trans K88.1 (Nat.le_of_eq g93.symm)
   have K101 := K94.wr W99 (Or.inr sz_b93)
   have C102 : CHv Z consts_1 s.vm h99 := CHv.wr W99 (Safe.arv hZ.alike A97_ (by simp)) C95
   have R103 : CHr Z consts_1 s.vm h0 s.vm h99 := R96.trans (CHr.wr W99 (Safe.arv hZ.alike A97_ (by simp)) C95)
   have A104_ : Arv Z h99 b93 c93 .char (1 : Int32) [.int z2_] (.int 0) := by have q := Arv.set (v := .int (nar .char z2_)) Ar98 q98 S98 N98 H98 Gf98 (fits_nar_char _) W99 0 (by decide) (lE rfl); rw [(w3 : nar .char z2_ = z2_)] at q; exact q
   have pr106 : Pr p e below T99 m 71 #[iv p1, iv p2, iv p3, iv p4, iv p5, iv (ab0_ p5), iv z2_, iv z5_, iv z8_, iv z11_, .unset, .unset, .unset, .unset] [.ref b93, .ref b87, .ref b87] s₁ en := fun t k => pr85 t (by
    show Sx p e below T10 m 56 #[iv p1, iv p2, iv p3, iv p4, iv p5, iv (ab0_ p5), iv z2_, iv z5_, iv z8_, iv z11_, .unset, .unset, .unset, .unset] [.int 1, (.int (ab0_ p5))] _
    refine zn X10 Bd at_56 (XT.ii_ne_f (hc86 : (ab0_ p5) = (1 : Int32))) ?_
    refine st87 _ ?_
    refine XS.dup X87.here hx rfl (hb hby at_62) rfl rfl ?_
    refine zc X87 Bd at_63 ?_
    refine st93 _ ?_
    refine XS.dup X93.here hx rfl (hb hby at_66) rfl rfl ?_
    refine zc X93 Bd at_67 ?_
    refine zi X93 Bd at_68 rfl ?_
    refine st99 _ ?_
    exact k)
   by_cases hc107 : (255 : Int32) < (own_max ([z2_] : List Int32))
   ·
    skip
    have E109_ := A87.ext E93
    have E110_ := E109_.wr W99
    have F111_ := F92_.ext E93
    have F112_ := F111_.other W99 (Or.inl (Nat.ne_of_lt (Nat.lt_of_lt_of_le A87.lt (Nat.le_of_eq g93.symm))))
    have g_b87 : n0 ≤ b87 := Nat.le_trans (Nat.le_trans (Nat.le_of_eq X00.1.symm) X00.2.1) (Nat.le_of_eq g87.symm)
    have F113_ := F91_.ext E93
    have F114_ := F113_.other W99 (Or.inl (Nat.ne_of_lt (Nat.lt_of_lt_of_le A87.lt (Nat.le_of_eq g93.symm))))
    have O115 := O100.ext E93
    have O116 := O115.wr W99 g_b93
    obtain ⟨_, T108, L108, X108, hQ108, st108⟩ := own_cI 4 8 [.ref b87] 71 #[iv p1, iv p2, iv p3, iv p4, iv p5, iv (ab0_ p5), iv z2_, iv z5_, iv z8_, iv z11_, .unset, .unset, .unset, .unset] X99 hx hZ hown (w10_ hw) (w11_ hw) (w8_ hw) (w12_ hw) (rm21 l Z a0 hw G1 b87 b93 c93 z2_ h99 n0 O116 O2 P5 uS12 uS15 uS18 A104_ hc107 w3 E110_ F112_ g_b87 F114_) pd2 hml.symm (hb hby at_71) e99 rfl rfl rfl rfl rfl (by decide)
    obtain ⟨b117, c118_, rfl, N108q, K108q, w119, w120, w121, w122, w123⟩ := hQ108
    have N108 := Fr.app N99_ N108q
    have sz_b87 : h0.size ≤ b87 := (Nat.le_of_eq g87.symm)
    have K124 := K101.trans K108q (allS (Or.inr sz_b87) all0)
    have f126 : Safe Z consts_1 s.vm h87 b87 := Safe.ext E87 hC0 (Safe.new (Nat.le_of_eq g87.symm))
    have f127 : Safe Z consts_1 s.vm h93 b87 := Safe.ext E93 C89 f126
    have f128 : Safe Z consts_1 s.vm h99 b87 := Safe.wr W99 (Safe.arv hZ.alike A97_ (by simp)) C95 f127
    have C125 : CHv Z consts_1 s.vm T108.heap := CHv.keep K108q (sfS f128 sf0) C102
    have R129 : CHr Z consts_1 s.vm h0 s.vm T108.heap := R103.trans (CHr.keep K108q (sfS f128 sf0) C102)
    have pr130 : Pr p e below T108 m 178 #[iv p1, iv p2, iv p3, iv p4, iv p5, iv (ab0_ p5), iv z2_, iv z5_, iv z8_, iv z11_, rv b87, .unset, .unset, .unset] [] s₁ en := fun t k => pr106 t (by
     show Sx p e below T99 m 71 #[iv p1, iv p2, iv p3, iv p4, iv p5, iv (ab0_ p5), iv z2_, iv z5_, iv z8_, iv z11_, .unset, .unset, .unset, .unset] [.ref b93, .ref b87, .ref b87] _
     refine st108 _ ?_
     refine XS.astore X108.here hx rfl (hb hby at_74) rfl rfl (l' := #[iv p1, iv p2, iv p3, iv p4, iv p5, iv (ab0_ p5), iv z2_, iv z5_, iv z8_, iv z11_, rv b87, .unset, .unset, .unset]) rfl ?_
     refine zg (pc' := 178) X108 Bd at_76 rfl ?_
     exact k)
    refine cps (A := ∃ T131 : State, ∃ L131 : List Loc, ∃ h131 : Heap, ∃ s1_ : Int32, Stand p l e room_1 (s.setVm s.vm) m #[.int p1, .int p2, .int p3, .int p4, .int p5] below meth c T131 L131 4 8 ∧ T131.heap = h131 ∧ Fr n0 L131 ∧ Keep T108.heap h131 [] ∧ (s1_ = own_has (59 : Int32) ([z2_] : List Int32)) ∧ Pr p e below T131 m 236 #[iv p1, iv p2, iv p3, iv p4, iv p5, iv (ab0_ p5), iv z2_, iv z5_, iv z8_, iv z11_, rv b87, iv s1_, .unset, .unset] [] s₁ en) (fun kont131 => ?_) (fun hA131 => ?_)
    ·
     skip
     have pr132 : Pr p e below T108 m 187 #[iv p1, iv p2, iv p3, iv p4, iv p5, iv (ab0_ p5), iv z2_, iv z5_, iv z8_, iv z11_, rv b87, .unset, .unset, .unset] [.int 59, .int z2_] s₁ en := fun t k => pr130 t (by
      show Sx p e below T108 m 178 #[iv p1, iv p2, iv p3, iv p4, iv p5, iv (ab0_ p5), iv z2_, iv z5_, iv z8_, iv z11_, rv b87, .unset, .unset, .unset] [] _
      refine zi X108 Bd at_178 rfl ?_
      refine zo X108 Bd at_180 (XT.i0_le_f ((by have e_ : (ab0_ p5) = (1 : Int32) := hc86; rw [e_]; first | done | decide) : (0 : Int32) < (ab0_ p5))) ?_
      refine zi X108 Bd at_183 rfl ?_
      refine zd X108 Bd at_185 ?_
      exact k)
     by_cases hc133 : z2_ = (59 : Int32)
     ·
      skip
      have pr134 : Pr p e below T108 m 236 #[iv p1, iv p2, iv p3, iv p4, iv p5, iv (ab0_ p5), iv z2_, iv z5_, iv z8_, iv z11_, rv b87, iv 1, .unset, .unset] [] s₁ en := fun t k => pr132 t (by
       show Sx p e below T108 m 187 #[iv p1, iv p2, iv p3, iv p4, iv p5, iv (ab0_ p5), iv z2_, iv z5_, iv z8_, iv z11_, rv b87, .unset, .unset, .unset] [.int 59, .int z2_] _
       refine zy (pc' := 229) X108 Bd at_187 (XT.ii_eq_t (hc133 : z2_ = (59 : Int32))) rfl ?_
       refine zc X108 Bd at_229 ?_
       refine zg (pc' := 234) X108 Bd at_230 rfl ?_
       refine zs X108 Bd at_234 (l' := #[iv p1, iv p2, iv p3, iv p4, iv p5, iv (ab0_ p5), iv z2_, iv z5_, iv z8_, iv z11_, rv b87, iv 1, .unset, .unset]) rfl ?_
       exact k)
      exact kont131 ⟨T108, _, T108.heap, (1 : Int32), (X108.mono (lE rfl) (lE rfl)), rfl, N108, (Keep.refl T108.heap []), (by rw [own_has, if_pos hc133] <;> rfl), (fun t k => pr134 t k)⟩
     ·
      skip
      have pr135 : Pr p e below T108 m 236 #[iv p1, iv p2, iv p3, iv p4, iv p5, iv (ab0_ p5), iv z2_, iv z5_, iv z8_, iv z11_, rv b87, iv 0, .unset, .unset] [] s₁ en := fun t k => pr132 t (by
       show Sx p e below T108 m 187 #[iv p1, iv p2, iv p3, iv p4, iv p5, iv (ab0_ p5), iv z2_, iv z5_, iv z8_, iv z11_, rv b87, .unset, .unset, .unset] [.int 59, .int z2_] _
       refine zn X108 Bd at_187 (XT.ii_eq_f (hc133 : ¬ (z2_ = (59 : Int32)))) ?_
       refine zi X108 Bd at_190 rfl ?_
       refine zc X108 Bd at_192 ?_
       refine zy (pc' := 203) X108 Bd at_193 (XT.ii_le_t ((by have e_ : (ab0_ p5) = (1 : Int32) := hc86; rw [e_]; first | done | decide) : ¬ ((1 : Int32) < (ab0_ p5)))) rfl ?_
       refine zi X108 Bd at_203 rfl ?_
       refine zc X108 Bd at_205 ?_
       refine zy (pc' := 216) X108 Bd at_206 (XT.ii_le_t ((by have e_ : (ab0_ p5) = (1 : Int32) := hc86; rw [e_]; first | done | decide) : ¬ ((2 : Int32) < (ab0_ p5)))) rfl ?_
       refine zi X108 Bd at_216 rfl ?_
       refine zc X108 Bd at_218 ?_
       refine zy (pc' := 233) X108 Bd at_219 (XT.ii_le_t ((by have e_ : (ab0_ p5) = (1 : Int32) := hc86; rw [e_]; first | done | decide) : ¬ ((3 : Int32) < (ab0_ p5)))) rfl ?_
       refine zc X108 Bd at_233 ?_
       refine zs X108 Bd at_234 (l' := #[iv p1, iv p2, iv p3, iv p4, iv p5, iv (ab0_ p5), iv z2_, iv z5_, iv z8_, iv z11_, rv b87, iv 0, .unset, .unset]) rfl ?_
       exact k)
      exact kont131 ⟨T108, _, T108.heap, (0 : Int32), (X108.mono (lE rfl) (lE rfl)), rfl, N108, (Keep.refl T108.heap []), (by rw [own_has, if_neg hc133, own_has] <;> rfl), (fun t k => pr135 t k)⟩
    ·
     obtain ⟨T131, L131, h131, s1_, X131, e131, N131, K131j, hp131_0, pr131⟩ := hA131
     have K136 := K124.trans K131j (fun x q => nomatch q)
     have C137 : CHv Z consts_1 s.vm h131 := CHv.keep K131j sf0 C125
     have R138 : CHr Z consts_1 s.vm h0 s.vm h131 := R129.trans (CHr.keep K131j sf0 C125)
     refine cps (A := ∃ T139 : State, ∃ L139 : List Loc, ∃ h139 : Heap, ∃ a1_ : Int32, Stand p l e room_1 (s.setVm s.vm) m #[.int p1, .int p2, .int p3, .int p4, .int p5] below meth c T139 L139 4 8 ∧ T139.heap = h139 ∧ Fr n0 L139 ∧ Keep h131 h139 [] ∧ (a1_ = own_has (38 : Int32) ([z2_] : List Int32)) ∧ Pr p e below T139 m 294 #[iv p1, iv p2, iv p3, iv p4, iv p5, iv (ab0_ p5), iv z2_, iv z5_, iv z8_, iv z11_, rv b87, iv s1_, iv a1_, .unset] [] s₁ en) (fun kont139 => ?_) (fun hA139 => ?_)
     ·
      skip
      have pr140 : Pr p e below T131 m 245 #[iv p1, iv p2, iv p3, iv p4, iv p5, iv (ab0_ p5), iv z2_, iv z5_, iv z8_, iv z11_, rv b87, iv s1_, .unset, .unset] [.int 38, .int z2_] s₁ en := fun t k => pr131 t (by
       show Sx p e below T131 m 236 #[iv p1, iv p2, iv p3, iv p4, iv p5, iv (ab0_ p5), iv z2_, iv z5_, iv z8_, iv z11_, rv b87, iv s1_, .unset, .unset] [] _
       refine zi X131 Bd at_236 rfl ?_
       refine zo X131 Bd at_238 (XT.i0_le_f ((by have e_ : (ab0_ p5) = (1 : Int32) := hc86; rw [e_]; first | done | decide) : (0 : Int32) < (ab0_ p5))) ?_
       refine zi X131 Bd at_241 rfl ?_
       refine zd X131 Bd at_243 ?_
       exact k)
      by_cases hc141 : z2_ = (38 : Int32)
      ·
       skip
       have pr142 : Pr p e below T131 m 294 #[iv p1, iv p2, iv p3, iv p4, iv p5, iv (ab0_ p5), iv z2_, iv z5_, iv z8_, iv z11_, rv b87, iv s1_, iv 1, .unset] [] s₁ en := fun t k => pr140 t (by
        show Sx p e below T131 m 245 #[iv p1, iv p2, iv p3, iv p4, iv p5, iv (ab0_ p5), iv z2_, iv z5_, iv z8_, iv z11_, rv b87, iv s1_, .unset, .unset] [.int 38, .int z2_] _
        refine zy (pc' := 287) X131 Bd at_245 (XT.ii_eq_t (hc141 : z2_ = (38 : Int32))) rfl ?_
        refine zc X131 Bd at_287 ?_
        refine zg (pc' := 292) X131 Bd at_288 rfl ?_
        refine zs X131 Bd at_292 (l' := #[iv p1, iv p2, iv p3, iv p4, iv p5, iv (ab0_ p5), iv z2_, iv z5_, iv z8_, iv z11_, rv b87, iv s1_, iv 1, .unset]) rfl ?_
        exact k)
       exact kont139 ⟨T131, _, h131, (1 : Int32), (X131.mono (lE rfl) (lE rfl)), e131, N131, (Keep.refl h131 []), (by rw [own_has, if_pos hc141] <;> rfl), (fun t k => pr142 t k)⟩
      ·
       skip
       have pr143 : Pr p e below T131 m 294 #[iv p1, iv p2, iv p3, iv p4, iv p5, iv (ab0_ p5), iv z2_, iv z5_, iv z8_, iv z11_, rv b87, iv s1_, iv 0, .unset] [] s₁ en := fun t k => pr140 t (by
        show Sx p e below T131 m 245 #[iv p1, iv p2, iv p3, iv p4, iv p5, iv (ab0_ p5), iv z2_, iv z5_, iv z8_, iv z11_, rv b87, iv s1_, .unset, .unset] [.int 38, .int z2_] _
        refine zn X131 Bd at_245 (XT.ii_eq_f (hc141 : ¬ (z2_ = (38 : Int32)))) ?_
        refine zi X131 Bd at_248 rfl ?_
        refine zc X131 Bd at_250 ?_
        refine zy (pc' := 261) X131 Bd at_251 (XT.ii_le_t ((by have e_ : (ab0_ p5) = (1 : Int32) := hc86; rw [e_]; first | done | decide) : ¬ ((1 : Int32) < (ab0_ p5)))) rfl ?_
        refine zi X131 Bd at_261 rfl ?_
        refine zc X131 Bd at_263 ?_
        refine zy (pc' := 274) X131 Bd at_264 (XT.ii_le_t ((by have e_ : (ab0_ p5) = (1 : Int32) := hc86; rw [e_]; first | done | decide) : ¬ ((2 : Int32) < (ab0_ p5)))) rfl ?_
        refine zi X131 Bd at_274 rfl ?_
        refine zc X131 Bd at_276 ?_
        refine zy (pc' := 291) X131 Bd at_277 (XT.ii_le_t ((by have e_ : (ab0_ p5) = (1 : Int32) := hc86; rw [e_]; first | done | decide) : ¬ ((3 : Int32) < (ab0_ p5)))) rfl ?_
        refine zc X131 Bd at_291 ?_
        refine zs X131 Bd at_292 (l' := #[iv p1, iv p2, iv p3, iv p4, iv p5, iv (ab0_ p5), iv z2_, iv z5_, iv z8_, iv z11_, rv b87, iv s1_, iv 0, .unset]) rfl ?_
        exact k)
       exact kont139 ⟨T131, _, h131, (0 : Int32), (X131.mono (lE rfl) (lE rfl)), e131, N131, (Keep.refl h131 []), (by rw [own_has, if_neg hc141, own_has] <;> rfl), (fun t k => pr143 t k)⟩
     ·
      obtain ⟨T139, L139, h139, a1_, X139, e139, N139, K139j, hp139_0, pr139⟩ := hA139
      have K144 := K136.trans K139j (fun x q => nomatch q)
      have C145 : CHv Z consts_1 s.vm h139 := CHv.keep K139j sf0 C137
      have R146 : CHr Z consts_1 s.vm h0 s.vm h139 := R138.trans (CHr.keep K139j sf0 C137)
      refine cps (A := ∃ T147 : State, ∃ L147 : List Loc, ∃ h147 : Heap, ∃ ex_ : Int32, Stand p l e room_1 (s.setVm s.vm) m #[.int p1, .int p2, .int p3, .int p4, .int p5] below meth c T147 L147 4 8 ∧ T147.heap = h147 ∧ Fr n0 L147 ∧ Keep h139 h147 [] ∧ (ex_ = own_exp ([z2_] : List Int32)) ∧ Pr p e below T147 m 313 #[iv p1, iv p2, iv p3, iv p4, iv p5, iv (ab0_ p5), iv z2_, iv z5_, iv z8_, iv z11_, rv b87, iv s1_, iv a1_, iv ex_] [] s₁ en) (fun kont147 => ?_) (fun hA147 => ?_)
      ·
       skip
       have pr148 : Pr p e below T139 m 296 #[iv p1, iv p2, iv p3, iv p4, iv p5, iv (ab0_ p5), iv z2_, iv z5_, iv z8_, iv z11_, rv b87, iv s1_, iv a1_, .unset] [.int s1_] s₁ en := fun t k => pr139 t (by
        show Sx p e below T139 m 294 #[iv p1, iv p2, iv p3, iv p4, iv p5, iv (ab0_ p5), iv z2_, iv z5_, iv z8_, iv z11_, rv b87, iv s1_, iv a1_, .unset] [] _
        refine zi X139 Bd at_294 rfl ?_
        exact k)
       by_cases hc149 : s1_ = (0 : Int32)
       ·
        skip
        have pr150 : Pr p e below T139 m 313 #[iv p1, iv p2, iv p3, iv p4, iv p5, iv (ab0_ p5), iv z2_, iv z5_, iv z8_, iv z11_, rv b87, iv s1_, iv a1_, iv 38] [] s₁ en := fun t k => pr148 t (by
         show Sx p e below T139 m 296 #[iv p1, iv p2, iv p3, iv p4, iv p5, iv (ab0_ p5), iv z2_, iv z5_, iv z8_, iv z11_, rv b87, iv s1_, iv a1_, .unset] [.int s1_] _
         refine zp (pc' := 309) X139 Bd at_296 (XT.i0_eq_t (hc149 : s1_ = (0 : Int32))) rfl ?_
         refine zd X139 Bd at_309 ?_
         refine zs X139 Bd at_311 (l' := #[iv p1, iv p2, iv p3, iv p4, iv p5, iv (ab0_ p5), iv z2_, iv z5_, iv z8_, iv z11_, rv b87, iv s1_, iv a1_, iv 38]) rfl ?_
         exact k)
        exact kont147 ⟨T139, _, h139, (38 : Int32), (X139.mono (lE rfl) (lE rfl)), e139, N139, (Keep.refl h139 []), (by rw [own_exp, ← hp131_0, if_pos hc149] <;> rfl), (fun t k => pr150 t k)⟩
       ·
        skip
        have pr151 : Pr p e below T139 m 301 #[iv p1, iv p2, iv p3, iv p4, iv p5, iv (ab0_ p5), iv z2_, iv z5_, iv z8_, iv z11_, rv b87, iv s1_, iv a1_, .unset] [.int a1_] s₁ en := fun t k => pr148 t (by
         show Sx p e below T139 m 296 #[iv p1, iv p2, iv p3, iv p4, iv p5, iv (ab0_ p5), iv z2_, iv z5_, iv z8_, iv z11_, rv b87, iv s1_, iv a1_, .unset] [.int s1_] _
         refine zo X139 Bd at_296 (XT.i0_eq_f (hc149 : ¬ (s1_ = (0 : Int32)))) ?_
         refine zi X139 Bd at_299 rfl ?_
         exact k)
        by_cases hc152 : a1_ = (0 : Int32)
        ·
         skip
         have pr153 : Pr p e below T139 m 313 #[iv p1, iv p2, iv p3, iv p4, iv p5, iv (ab0_ p5), iv z2_, iv z5_, iv z8_, iv z11_, rv b87, iv s1_, iv a1_, iv 59] [] s₁ en := fun t k => pr151 t (by
          show Sx p e below T139 m 301 #[iv p1, iv p2, iv p3, iv p4, iv p5, iv (ab0_ p5), iv z2_, iv z5_, iv z8_, iv z11_, rv b87, iv s1_, iv a1_, .unset] [.int a1_] _
          refine zo X139 Bd at_301 (XT.i0_ne_f (hc152 : a1_ = (0 : Int32))) ?_
          refine zd X139 Bd at_304 ?_
          refine zg (pc' := 311) X139 Bd at_306 rfl ?_
          refine zs X139 Bd at_311 (l' := #[iv p1, iv p2, iv p3, iv p4, iv p5, iv (ab0_ p5), iv z2_, iv z5_, iv z8_, iv z11_, rv b87, iv s1_, iv a1_, iv 59]) rfl ?_
          exact k)
         exact kont147 ⟨T139, _, h139, (59 : Int32), (X139.mono (lE rfl) (lE rfl)), e139, N139, (Keep.refl h139 []), (by rw [own_exp, ← hp131_0, if_neg hc149, ← hp139_0, if_pos hc152] <;> rfl), (fun t k => pr153 t k)⟩
        ·
         skip
         have pr154 : Pr p e below T139 m 313 #[iv p1, iv p2, iv p3, iv p4, iv p5, iv (ab0_ p5), iv z2_, iv z5_, iv z8_, iv z11_, rv b87, iv s1_, iv a1_, iv 38] [] s₁ en := fun t k => pr151 t (by
          show Sx p e below T139 m 301 #[iv p1, iv p2, iv p3, iv p4, iv p5, iv (ab0_ p5), iv z2_, iv z5_, iv z8_, iv z11_, rv b87, iv s1_, iv a1_, .unset] [.int a1_] _
          refine zp (pc' := 309) X139 Bd at_301 (XT.i0_ne_t (hc152 : ¬ (a1_ = (0 : Int32)))) rfl ?_
          refine zd X139 Bd at_309 ?_
          refine zs X139 Bd at_311 (l' := #[iv p1, iv p2, iv p3, iv p4, iv p5, iv (ab0_ p5), iv z2_, iv z5_, iv z8_, iv z11_, rv b87, iv s1_, iv a1_, iv 38]) rfl ?_
          exact k)
         exact kont147 ⟨T139, _, h139, (38 : Int32), (X139.mono (lE rfl) (lE rfl)), e139, N139, (Keep.refl h139 []), (by rw [own_exp, ← hp131_0, if_neg hc149, ← hp139_0, if_neg hc152] <;> rfl), (fun t k => pr154 t k)⟩
      ·
       obtain ⟨T147, L147, h147, ex_, X147, e147, N147, K147j, hp147_0, pr147⟩ := hA147
       have K155 := K144.trans K147j (fun x q => nomatch q)
       have C156 : CHv Z consts_1 s.vm h147 := CHv.keep K147j sf0 C145
       have R157 : CHr Z consts_1 s.vm h0 s.vm h147 := R146.trans (CHr.keep K147j sf0 C145)
       have E159_ := E110_.keep K108q
       have E160_ := E159_.keep K131j
       have E161_ := E160_.keep K139j
       have E162_ := E161_.keep K147j
       have F163_ := w121.keep K131j nin0
       have F164_ := F163_.keep K139j nin0
       have F165_ := F164_.keep K147j nin0
       have F166_ := w122.keep K131j nin0
       have F167_ := F166_.keep K139j nin0
       have F168_ := F167_.keep K147j nin0
       have A169_ := w123.keep K131j nin0
       have A170_ := A169_.keep K139j nin0
       have A171_ := A170_.keep K147j nin0
       have O172 := O116.keep K108q (allS g_b87 all0)
       have O173 := O172.keep K131j all0
       have O174 := O173.keep K139j all0
       have O175 := O174.keep K147j all0
       obtain ⟨_, T158, L158, X158, hQ158, st158⟩ := own_cS 4 8 [] 315 #[iv p1, iv p2, iv p3, iv p4, iv p5, iv (ab0_ p5), iv z2_, iv z5_, iv z8_, iv z11_, rv b87, iv s1_, iv a1_, iv ex_] X147 hx hZ hown (w28_ hw) (w29_ hw) (w30_ hw) (w31_ hw) (rm35 l Z a0 hw G1 G3 b87 b117 c118_ ((((z2_ >>> ((0 : Int32) &&& 31)))).toInt8.toInt32) ((((z2_ >>> ((8 : Int32) &&& 31)))).toInt8.toInt32) h147 n0 O175 O2 P5 O4 rG3 uS12 uS15 uS18 E162_ F165_ F168_ A171_) pd9 hml.symm (hb hby at_315) e147 rfl rfl rfl rfl (by decide)
       obtain ⟨rfl, N158q, e158q⟩ := hQ158
       have N158 := Fr.app N147 N158q
       have hk176' : _ ≤ h147.size := (Nat.le_trans (Nat.le_trans (Nat.le_trans (Nat.le_trans (Nat.le_trans (Nat.le_trans (Nat.le_trans hk0 E87.1) E93.1) (Nat.le_of_eq W99.size.symm)) K108q.1) K131j.1) K139j.1) K147j.1)
       refine own_lvW X158 Bd.notSynchronized hS0 hk176' (v := (some (.int 1))) (fun h => by rw [Bd.returns] at h; cases h) e158q hh ⟨rfl, N158⟩ (R157.trans (CHv.at X158 hZ hEL C156)) (lE rfl) (lE rfl) (fun fs hr => pr147 _ (by
        show Sx p e below T147 m 313 #[iv p1, iv p2, iv p3, iv p4, iv p5, iv (ab0_ p5), iv z2_, iv z5_, iv z8_, iv z11_, rv b87, iv s1_, iv a1_, iv ex_] [] _
        refine za X147 Bd at_313 rfl rfl ?_
        refine st158 _ ?_
        refine zi X158 Bd at_318 rfl ?_
        refine zn X158 Bd at_320 (XT.ii_ne_f (((own_fin16 (l := (own_L1 ((((z2_ >>> ((0 : Int32) &&& 31)))).toInt8.toInt32) ((((z2_ >>> ((8 : Int32) &&& 31)))).toInt8.toInt32))) (z := ([z2_] : List Int32)) (own_cons (own_get16 w3) rfl) (lE rfl)).trans hp147_0.symm) : (own_sep (own_L1 ((((z2_ >>> ((0 : Int32) &&& 31)))).toInt8.toInt32) ((((z2_ >>> ((8 : Int32) &&& 31)))).toInt8.toInt32))) = ex_)) ?_
        refine zc X158 Bd at_323 ?_
        refine zg (pc' := 328) X158 Bd at_324 rfl ?_
        exact retN X158 hx (t := .boolean) Bd.returns (by simp) (hb hby at_328) hr))
   ·
    skip
    have hp178 : ∀ c ∈ ([z2_] : List Int32), ¬ c < 0 ∧ ¬ (255 : Int32) < c := (List.forall_mem_cons.mpr ⟨(And.intro (own_ch0 w3) (own_maxle hc107 (mI 0 rfl))), (fun _ q => nomatch q)⟩)
    have g_b87 : n0 ≤ b87 := Nat.le_trans (Nat.le_trans (Nat.le_of_eq X00.1.symm) X00.2.1) (Nat.le_of_eq g87.symm)
    have O179 := O100.ext E93
    have O180 := O179.wr W99 g_b93
    have E181_ := A87.ext E93
    have E182_ := E181_.wr W99
    have F183_ := F91_.ext E93
    have F184_ := F183_.other W99 (Or.inl (Nat.ne_of_lt (Nat.lt_of_lt_of_le A87.lt (Nat.le_of_eq g93.symm))))
    have F185_ := F92_.ext E93
    have F186_ := F185_.other W99 (Or.inl (Nat.ne_of_lt (Nat.lt_of_lt_of_le A87.lt (Nat.le_of_eq g93.symm))))
    obtain ⟨_, T177, L177, X177, hQ177, st177⟩ := own_cb 2 5 1 1 3 6 (X99.specialBack hx (y := Y2_) rfl hown (mvT hZ (w10_ hw)) (mvT hZ (w11_ hw)) (mvT hZ (w12_ hw)) (by decide) (StrChars.Road.backV (s := s.setVm s.vm) (W := 1) hZ (own_ws hw) (kI := 4) (w7_ hw) (cs := ([z2_] : List Int32)) (bs := ([z2_] : List Int32).map (fun c => c.toInt8.toInt32)) (n := 1) g_b87 (Nat.le_trans (Nat.le_of_eq O180.1.symm) O180.2.1) E182_ F184_ F186_ A104_ (O2.ext O180.2) P5 rfl rfl (lE rfl) (lE rfl) hp178 rfl (lE rfl) (lE rfl)) (g := (mkF m 71 #[iv p1, iv p2, iv p3, iv p4, iv p5, iv (ab0_ p5), iv z2_, iv z5_, iv z8_, iv z11_, .unset, .unset, .unset, .unset] [.ref b93, .ref b87, .ref b87])) rfl hml.symm (Steps.refl _) (a := b87) (argsL := [.ref b93]) (rest := [.ref b87]) (lenOf pd2 rfl) rfl (own_hw rfl) (hb hby at_71) (fun _ _ => ⟨rfl, e99, (lE rfl : 2 + 1 ≤ _), (lE rfl : 5 + 1 ≤ _)⟩)) rfl rfl
    obtain ⟨rfl, N177q, K177q, E177q, C177q, b187, c187_, u187, g187, ne187, V187_, A187_⟩ := hQ177
    have N177 := Fr.app N99_ N177q
    have sz_b87 : h0.size ≤ b87 := (Nat.le_of_eq g87.symm)
    have K188 := K101.trans K177q (allS (Or.inr sz_b87) all0)
    have f190 : Safe Z consts_1 s.vm h87 b87 := Safe.ext E87 hC0 (Safe.new (Nat.le_of_eq g87.symm))
    have f191 : Safe Z consts_1 s.vm h93 b87 := Safe.ext E93 C89 f190
    have f192 : Safe Z consts_1 s.vm h99 b87 := Safe.wr W99 (Safe.arv hZ.alike A97_ (by simp)) C95 f191
    have C189 : CHv Z consts_1 s.vm T177.heap := CHv.keep K177q (sfS f192 sf0) C102
    have R193 : CHr Z consts_1 s.vm h0 s.vm T177.heap := R103.trans (CHr.keep K177q (sfS f192 sf0) C102)
    have pr194 : Pr p e below T177 m 178 #[iv p1, iv p2, iv p3, iv p4, iv p5, iv (ab0_ p5), iv z2_, iv z5_, iv z8_, iv z11_, rv b87, .unset, .unset, .unset] [] s₁ en := fun t k => pr106 t (by
     show Sx p e below T99 m 71 #[iv p1, iv p2, iv p3, iv p4, iv p5, iv (ab0_ p5), iv z2_, iv z5_, iv z8_, iv z11_, .unset, .unset, .unset, .unset] [.ref b93, .ref b87, .ref b87] _
     refine st177.trans ?_
     refine XS.astore X177.here hx rfl (hb hby at_74) rfl rfl (l' := #[iv p1, iv p2, iv p3, iv p4, iv p5, iv (ab0_ p5), iv z2_, iv z5_, iv z8_, iv z11_, rv b87, .unset, .unset, .unset]) rfl ?_
     refine zg (pc' := 178) X177 Bd at_76 rfl ?_
     exact k)
    refine cps (A := ∃ T195 : State, ∃ L195 : List Loc, ∃ h195 : Heap, ∃ s1_ : Int32, Stand p l e room_1 (s.setVm s.vm) m #[.int p1, .int p2, .int p3, .int p4, .int p5] below meth c T195 L195 3 6 ∧ T195.heap = h195 ∧ Fr n0 L195 ∧ Keep T177.heap h195 [] ∧ (s1_ = own_has (59 : Int32) ([z2_] : List Int32)) ∧ Pr p e below T195 m 236 #[iv p1, iv p2, iv p3, iv p4, iv p5, iv (ab0_ p5), iv z2_, iv z5_, iv z8_, iv z11_, rv b87, iv s1_, .unset, .unset] [] s₁ en) (fun kont195 => ?_) (fun hA195 => ?_)
    ·
     skip
     have pr196 : Pr p e below T177 m 187 #[iv p1, iv p2, iv p3, iv p4, iv p5, iv (ab0_ p5), iv z2_, iv z5_, iv z8_, iv z11_, rv b87, .unset, .unset, .unset] [.int 59, .int z2_] s₁ en := fun t k => pr194 t (by
      show Sx p e below T177 m 178 #[iv p1, iv p2, iv p3, iv p4, iv p5, iv (ab0_ p5), iv z2_, iv z5_, iv z8_, iv z11_, rv b87, .unset, .unset, .unset] [] _
      refine zi X177 Bd at_178 rfl ?_
      refine zo X177 Bd at_180 (XT.i0_le_f ((by have e_ : (ab0_ p5) = (1 : Int32) := hc86; rw [e_]; first | done | decide) : (0 : Int32) < (ab0_ p5))) ?_
      refine zi X177 Bd at_183 rfl ?_
      refine zd X177 Bd at_185 ?_
      exact k)
     by_cases hc197 : z2_ = (59 : Int32)
     ·
      skip
      have pr198 : Pr p e below T177 m 236 #[iv p1, iv p2, iv p3, iv p4, iv p5, iv (ab0_ p5), iv z2_, iv z5_, iv z8_, iv z11_, rv b87, iv 1, .unset, .unset] [] s₁ en := fun t k => pr196 t (by
       show Sx p e below T177 m 187 #[iv p1, iv p2, iv p3, iv p4, iv p5, iv (ab0_ p5), iv z2_, iv z5_, iv z8_, iv z11_, rv b87, .unset, .unset, .unset] [.int 59, .int z2_] _
       refine zy (pc' := 229) X177 Bd at_187 (XT.ii_eq_t (hc197 : z2_ = (59 : Int32))) rfl ?_
       refine zc X177 Bd at_229 ?_
       refine zg (pc' := 234) X177 Bd at_230 rfl ?_
       refine zs X177 Bd at_234 (l' := #[iv p1, iv p2, iv p3, iv p4, iv p5, iv (ab0_ p5), iv z2_, iv z5_, iv z8_, iv z11_, rv b87, iv 1, .unset, .unset]) rfl ?_
       exact k)
      exact kont195 ⟨T177, _, T177.heap, (1 : Int32), (X177.mono (lE rfl) (lE rfl)), rfl, N177, (Keep.refl T177.heap []), (by rw [own_has, if_pos hc197] <;> rfl), (fun t k => pr198 t k)⟩
     ·
      skip
      have pr199 : Pr p e below T177 m 236 #[iv p1, iv p2, iv p3, iv p4, iv p5, iv (ab0_ p5), iv z2_, iv z5_, iv z8_, iv z11_, rv b87, iv 0, .unset, .unset] [] s₁ en := fun t k => pr196 t (by
       show Sx p e below T177 m 187 #[iv p1, iv p2, iv p3, iv p4, iv p5, iv (ab0_ p5), iv z2_, iv z5_, iv z8_, iv z11_, rv b87, .unset, .unset, .unset] [.int 59, .int z2_] _
       refine zn X177 Bd at_187 (XT.ii_eq_f (hc197 : ¬ (z2_ = (59 : Int32)))) ?_
       refine zi X177 Bd at_190 rfl ?_
       refine zc X177 Bd at_192 ?_
       refine zy (pc' := 203) X177 Bd at_193 (XT.ii_le_t ((by have e_ : (ab0_ p5) = (1 : Int32) := hc86; rw [e_]; first | done | decide) : ¬ ((1 : Int32) < (ab0_ p5)))) rfl ?_
       refine zi X177 Bd at_203 rfl ?_
       refine zc X177 Bd at_205 ?_
       refine zy (pc' := 216) X177 Bd at_206 (XT.ii_le_t ((by have e_ : (ab0_ p5) = (1 : Int32) := hc86; rw [e_]; first | done | decide) : ¬ ((2 : Int32) < (ab0_ p5)))) rfl ?_
       refine zi X177 Bd at_216 rfl ?_
       refine zc X177 Bd at_218 ?_
       refine zy (pc' := 233) X177 Bd at_219 (XT.ii_le_t ((by have e_ : (ab0_ p5) = (1 : Int32) := hc86; rw [e_]; first | done | decide) : ¬ ((3 : Int32) < (ab0_ p5)))) rfl ?_
       refine zc X177 Bd at_233 ?_
       refine zs X177 Bd at_234 (l' := #[iv p1, iv p2, iv p3, iv p4, iv p5, iv (ab0_ p5), iv z2_, iv z5_, iv z8_, iv z11_, rv b87, iv 0, .unset, .unset]) rfl ?_
       exact k)
      exact kont195 ⟨T177, _, T177.heap, (0 : Int32), (X177.mono (lE rfl) (lE rfl)), rfl, N177, (Keep.refl T177.heap []), (by rw [own_has, if_neg hc197, own_has] <;> rfl), (fun t k => pr199 t k)⟩
    ·
     obtain ⟨T195, L195, h195, s1_, X195, e195, N195, K195j, hp195_0, pr195⟩ := hA195
     have K200 := K188.trans K195j (fun x q => nomatch q)
     have C201 : CHv Z consts_1 s.vm h195 := CHv.keep K195j sf0 C189
     have R202 : CHr Z consts_1 s.vm h0 s.vm h195 := R193.trans (CHr.keep K195j sf0 C189)
     refine cps (A := ∃ T203 : State, ∃ L203 : List Loc, ∃ h203 : Heap, ∃ a1_ : Int32, Stand p l e room_1 (s.setVm s.vm) m #[.int p1, .int p2, .int p3, .int p4, .int p5] below meth c T203 L203 3 6 ∧ T203.heap = h203 ∧ Fr n0 L203 ∧ Keep h195 h203 [] ∧ (a1_ = own_has (38 : Int32) ([z2_] : List Int32)) ∧ Pr p e below T203 m 294 #[iv p1, iv p2, iv p3, iv p4, iv p5, iv (ab0_ p5), iv z2_, iv z5_, iv z8_, iv z11_, rv b87, iv s1_, iv a1_, .unset] [] s₁ en) (fun kont203 => ?_) (fun hA203 => ?_)
     ·
      skip
      have pr204 : Pr p e below T195 m 245 #[iv p1, iv p2, iv p3, iv p4, iv p5, iv (ab0_ p5), iv z2_, iv z5_, iv z8_, iv z11_, rv b87, iv s1_, .unset, .unset] [.int 38, .int z2_] s₁ en := fun t k => pr195 t (by
       show Sx p e below T195 m 236 #[iv p1, iv p2, iv p3, iv p4, iv p5, iv (ab0_ p5), iv z2_, iv z5_, iv z8_, iv z11_, rv b87, iv s1_, .unset, .unset] [] _
       refine zi X195 Bd at_236 rfl ?_
       refine zo X195 Bd at_238 (XT.i0_le_f ((by have e_ : (ab0_ p5) = (1 : Int32) := hc86; rw [e_]; first | done | decide) : (0 : Int32) < (ab0_ p5))) ?_
       refine zi X195 Bd at_241 rfl ?_
       refine zd X195 Bd at_243 ?_
       exact k)
      by_cases hc205 : z2_ = (38 : Int32)
      ·
       skip
       have pr206 : Pr p e below T195 m 294 #[iv p1, iv p2, iv p3, iv p4, iv p5, iv (ab0_ p5), iv z2_, iv z5_, iv z8_, iv z11_, rv b87, iv s1_, iv 1, .unset] [] s₁ en := fun t k => pr204 t (by
        show Sx p e below T195 m 245 #[iv p1, iv p2, iv p3, iv p4, iv p5, iv (ab0_ p5), iv z2_, iv z5_, iv z8_, iv z11_, rv b87, iv s1_, .unset, .unset] [.int 38, .int z2_] _
        refine zy (pc' := 287) X195 Bd at_245 (XT.ii_eq_t (hc205 : z2_ = (38 : Int32))) rfl ?_
        refine zc X195 Bd at_287 ?_
        refine zg (pc' := 292) X195 Bd at_288 rfl ?_
        refine zs X195 Bd at_292 (l' := #[iv p1, iv p2, iv p3, iv p4, iv p5, iv (ab0_ p5), iv z2_, iv z5_, iv z8_, iv z11_, rv b87, iv s1_, iv 1, .unset]) rfl ?_
        exact k)
       exact kont203 ⟨T195, _, h195, (1 : Int32), (X195.mono (lE rfl) (lE rfl)), e195, N195, (Keep.refl h195 []), (by rw [own_has, if_pos hc205] <;> rfl), (fun t k => pr206 t k)⟩
      ·
       skip
       have pr207 : Pr p e below T195 m 294 #[iv p1, iv p2, iv p3, iv p4, iv p5, iv (ab0_ p5), iv z2_, iv z5_, iv z8_, iv z11_, rv b87, iv s1_, iv 0, .unset] [] s₁ en := fun t k => pr204 t (by
        show Sx p e below T195 m 245 #[iv p1, iv p2, iv p3, iv p4, iv p5, iv (ab0_ p5), iv z2_, iv z5_, iv z8_, iv z11_, rv b87, iv s1_, .unset, .unset] [.int 38, .int z2_] _
        refine zn X195 Bd at_245 (XT.ii_eq_f (hc205 : ¬ (z2_ = (38 : Int32)))) ?_
        refine zi X195 Bd at_248 rfl ?_
        refine zc X195 Bd at_250 ?_
        refine zy (pc' := 261) X195 Bd at_251 (XT.ii_le_t ((by have e_ : (ab0_ p5) = (1 : Int32) := hc86; rw [e_]; first | done | decide) : ¬ ((1 : Int32) < (ab0_ p5)))) rfl ?_
        refine zi X195 Bd at_261 rfl ?_
        refine zc X195 Bd at_263 ?_
        refine zy (pc' := 274) X195 Bd at_264 (XT.ii_le_t ((by have e_ : (ab0_ p5) = (1 : Int32) := hc86; rw [e_]; first | done | decide) : ¬ ((2 : Int32) < (ab0_ p5)))) rfl ?_
        refine zi X195 Bd at_274 rfl ?_
        refine zc X195 Bd at_276 ?_
        refine zy (pc' := 291) X195 Bd at_277 (XT.ii_le_t ((by have e_ : (ab0_ p5) = (1 : Int32) := hc86; rw [e_]; first | done | decide) : ¬ ((3 : Int32) < (ab0_ p5)))) rfl ?_
        refine zc X195 Bd at_291 ?_
        refine zs X195 Bd at_292 (l' := #[iv p1, iv p2, iv p3, iv p4, iv p5, iv (ab0_ p5), iv z2_, iv z5_, iv z8_, iv z11_, rv b87, iv s1_, iv 0, .unset]) rfl ?_
        exact k)
       exact kont203 ⟨T195, _, h195, (0 : Int32), (X195.mono (lE rfl) (lE rfl)), e195, N195, (Keep.refl h195 []), (by rw [own_has, if_neg hc205, own_has] <;> rfl), (fun t k => pr207 t k)⟩
     ·
      obtain ⟨T203, L203, h203, a1_, X203, e203, N203, K203j, hp203_0, pr203⟩ := hA203
      have K208 := K200.trans K203j (fun x q => nomatch q)
      have C209 : CHv Z consts_1 s.vm h203 := CHv.keep K203j sf0 C201
      have R210 : CHr Z consts_1 s.vm h0 s.vm h203 := R202.trans (CHr.keep K203j sf0 C201)
      refine cps (A := ∃ T211 : State, ∃ L211 : List Loc, ∃ h211 : Heap, ∃ ex_ : Int32, Stand p l e room_1 (s.setVm s.vm) m #[.int p1, .int p2, .int p3, .int p4, .int p5] below meth c T211 L211 3 6 ∧ T211.heap = h211 ∧ Fr n0 L211 ∧ Keep h203 h211 [] ∧ (ex_ = own_exp ([z2_] : List Int32)) ∧ Pr p e below T211 m 313 #[iv p1, iv p2, iv p3, iv p4, iv p5, iv (ab0_ p5), iv z2_, iv z5_, iv z8_, iv z11_, rv b87, iv s1_, iv a1_, iv ex_] [] s₁ en) (fun kont211 => ?_) (fun hA211 => ?_)
      ·
       skip
       have pr212 : Pr p e below T203 m 296 #[iv p1, iv p2, iv p3, iv p4, iv p5, iv (ab0_ p5), iv z2_, iv z5_, iv z8_, iv z11_, rv b87, iv s1_, iv a1_, .unset] [.int s1_] s₁ en := fun t k => pr203 t (by
        show Sx p e below T203 m 294 #[iv p1, iv p2, iv p3, iv p4, iv p5, iv (ab0_ p5), iv z2_, iv z5_, iv z8_, iv z11_, rv b87, iv s1_, iv a1_, .unset] [] _
        refine zi X203 Bd at_294 rfl ?_
        exact k)
       by_cases hc213 : s1_ = (0 : Int32)
       ·
        skip
        have pr214 : Pr p e below T203 m 313 #[iv p1, iv p2, iv p3, iv p4, iv p5, iv (ab0_ p5), iv z2_, iv z5_, iv z8_, iv z11_, rv b87, iv s1_, iv a1_, iv 38] [] s₁ en := fun t k => pr212 t (by
         show Sx p e below T203 m 296 #[iv p1, iv p2, iv p3, iv p4, iv p5, iv (ab0_ p5), iv z2_, iv z5_, iv z8_, iv z11_, rv b87, iv s1_, iv a1_, .unset] [.int s1_] _
         refine zp (pc' := 309) X203 Bd at_296 (XT.i0_eq_t (hc213 : s1_ = (0 : Int32))) rfl ?_
         refine zd X203 Bd at_309 ?_
         refine zs X203 Bd at_311 (l' := #[iv p1, iv p2, iv p3, iv p4, iv p5, iv (ab0_ p5), iv z2_, iv z5_, iv z8_, iv z11_, rv b87, iv s1_, iv a1_, iv 38]) rfl ?_
         exact k)
        exact kont211 ⟨T203, _, h203, (38 : Int32), (X203.mono (lE rfl) (lE rfl)), e203, N203, (Keep.refl h203 []), (by rw [own_exp, ← hp195_0, if_pos hc213] <;> rfl), (fun t k => pr214 t k)⟩
       ·
        skip
        have pr215 : Pr p e below T203 m 301 #[iv p1, iv p2, iv p3, iv p4, iv p5, iv (ab0_ p5), iv z2_, iv z5_, iv z8_, iv z11_, rv b87, iv s1_, iv a1_, .unset] [.int a1_] s₁ en := fun t k => pr212 t (by
         show Sx p e below T203 m 296 #[iv p1, iv p2, iv p3, iv p4, iv p5, iv (ab0_ p5), iv z2_, iv z5_, iv z8_, iv z11_, rv b87, iv s1_, iv a1_, .unset] [.int s1_] _
         refine zo X203 Bd at_296 (XT.i0_eq_f (hc213 : ¬ (s1_ = (0 : Int32)))) ?_
         refine zi X203 Bd at_299 rfl ?_
         exact k)
        by_cases hc216 : a1_ = (0 : Int32)
        ·
         skip
         have pr217 : Pr p e below T203 m 313 #[iv p1, iv p2, iv p3, iv p4, iv p5, iv (ab0_ p5), iv z2_, iv z5_, iv z8_, iv z11_, rv b87, iv s1_, iv a1_, iv 59] [] s₁ en := fun t k => pr215 t (by
          show Sx p e below T203 m 301 #[iv p1, iv p2, iv p3, iv p4, iv p5, iv (ab0_ p5), iv z2_, iv z5_, iv z8_, iv z11_, rv b87, iv s1_, iv a1_, .unset] [.int a1_] _
          refine zo X203 Bd at_301 (XT.i0_ne_f (hc216 : a1_ = (0 : Int32))) ?_
          refine zd X203 Bd at_304 ?_
          refine zg (pc' := 311) X203 Bd at_306 rfl ?_
          refine zs X203 Bd at_311 (l' := #[iv p1, iv p2, iv p3, iv p4, iv p5, iv (ab0_ p5), iv z2_, iv z5_, iv z8_, iv z11_, rv b87, iv s1_, iv a1_, iv 59]) rfl ?_
          exact k)
         exact kont211 ⟨T203, _, h203, (59 : Int32), (X203.mono (lE rfl) (lE rfl)), e203, N203, (Keep.refl h203 []), (by rw [own_exp, ← hp195_0, if_neg hc213, ← hp203_0, if_pos hc216] <;> rfl), (fun t k => pr217 t k)⟩
        ·
         skip
         have pr218 : Pr p e below T203 m 313 #[iv p1, iv p2, iv p3, iv p4, iv p5, iv (ab0_ p5), iv z2_, iv z5_, iv z8_, iv z11_, rv b87, iv s1_, iv a1_, iv 38] [] s₁ en := fun t k => pr215 t (by
          show Sx p e below T203 m 301 #[iv p1, iv p2, iv p3, iv p4, iv p5, iv (ab0_ p5), iv z2_, iv z5_, iv z8_, iv z11_, rv b87, iv s1_, iv a1_, .unset] [.int a1_] _
          refine zp (pc' := 309) X203 Bd at_301 (XT.i0_ne_t (hc216 : ¬ (a1_ = (0 : Int32)))) rfl ?_
          refine zd X203 Bd at_309 ?_
          refine zs X203 Bd at_311 (l' := #[iv p1, iv p2, iv p3, iv p4, iv p5, iv (ab0_ p5), iv z2_, iv z5_, iv z8_, iv z11_, rv b87, iv s1_, iv a1_, iv 38]) rfl ?_
          exact k)
         exact kont211 ⟨T203, _, h203, (38 : Int32), (X203.mono (lE rfl) (lE rfl)), e203, N203, (Keep.refl h203 []), (by rw [own_exp, ← hp195_0, if_neg hc213, ← hp203_0, if_neg hc216] <;> rfl), (fun t k => pr218 t k)⟩
      ·
       obtain ⟨T211, L211, h211, ex_, X211, e211, N211, K211j, hp211_0, pr211⟩ := hA211
       have K219 := K208.trans K211j (fun x q => nomatch q)
       have C220 : CHv Z consts_1 s.vm h211 := CHv.keep K211j sf0 C209
       have R221 : CHr Z consts_1 s.vm h0 s.vm h211 := R210.trans (CHr.keep K211j sf0 C209)
       have E223_ := E182_.keep K177q
       have E224_ := E223_.keep K195j
       have E225_ := E224_.keep K203j
       have E226_ := E225_.keep K211j
       have F227_ := C177q.keep K195j nin0
       have F228_ := F227_.keep K203j nin0
       have F229_ := F228_.keep K211j nin0
       have F230_ := V187_.keep K195j nin0
       have F231_ := F230_.keep K203j nin0
       have F232_ := F231_.keep K211j nin0
       have A233_ := A187_.keep K195j nin0
       have A234_ := A233_.keep K203j nin0
       have A235_ := A234_.keep K211j nin0
       have O236 := O180.keep K177q (allS g_b87 all0)
       have O237 := O236.keep K195j all0
       have O238 := O237.keep K203j all0
       have O239 := O238.keep K211j all0
       obtain ⟨_, T222, L222, X222, hQ222, st222⟩ := own_cS 3 6 [] 315 #[iv p1, iv p2, iv p3, iv p4, iv p5, iv (ab0_ p5), iv z2_, iv z5_, iv z8_, iv z11_, rv b87, iv s1_, iv a1_, iv ex_] X211 hx hZ hown (w28_ hw) (w29_ hw) (w30_ hw) (w31_ hw) (rm40 l Z a0 hw G1 b87 b187 z2_ c187_ h211 n0 O239 O2 P5 E226_ F229_ F232_ hp178 A235_) pd9 hml.symm (hb hby at_315) e211 rfl rfl rfl rfl (by decide)
       obtain ⟨rfl, N222q, e222q⟩ := hQ222
       have N222 := Fr.app N211 N222q
       have hp240 : ∀ c ∈ ([z2_] : List Int32), ¬ c < 0 ∧ ¬ (255 : Int32) < c := (List.forall_mem_cons.mpr ⟨(And.intro (own_ch0 w3) (own_maxle hc107 (mI 0 rfl))), (fun _ q => nomatch q)⟩)
       have hk241' : _ ≤ h211.size := (Nat.le_trans (Nat.le_trans (Nat.le_trans (Nat.le_trans (Nat.le_trans (Nat.le_trans (Nat.le_trans hk0 E87.1) E93.1) (Nat.le_of_eq W99.size.symm)) K177q.1) K195j.1) K203j.1) K211j.1)
       refine own_lvW X222 Bd.notSynchronized hS0 hk241' (v := (some (.int 1))) (fun h => by rw [Bd.returns] at h; cases h) e222q hh ⟨rfl, N222⟩ (R221.trans (CHv.at X222 hZ hEL C220)) (lE rfl) (lE rfl) (fun fs hr => pr211 _ (by
        show Sx p e below T211 m 313 #[iv p1, iv p2, iv p3, iv p4, iv p5, iv (ab0_ p5), iv z2_, iv z5_, iv z8_, iv z11_, rv b87, iv s1_, iv a1_, iv ex_] [] _
        refine za X211 Bd at_313 rfl rfl ?_
        refine st222 _ ?_
        refine zi X222 Bd at_318 rfl ?_
        refine zn X222 Bd at_320 (XT.ii_ne_f (((own_finL (z := ([z2_] : List Int32)) hp240 (lE rfl)).trans hp211_0.symm) : (own_sep ([((z2_).toInt8.toInt32)] : List Int32)) = ex_)) ?_
        refine zc X222 Bd at_323 ?_
        refine zg (pc' := 328) X222 Bd at_324 rfl ?_
        exact retN X222 hx (t := .boolean) Bd.returns (by simp) (hb hby at_328) hr))
  ·
   skip
   have pr242 : Pr p e below T10 m 82 #[iv p1, iv p2, iv p3, iv p4, iv p5, iv (ab0_ p5), iv z2_, iv z5_, iv z8_, iv z11_, .unset, .unset, .unset, .unset] [.int 2, (.int (ab0_ p5))] s₁ en := fun t k => pr85 t (by
    show Sx p e below T10 m 56 #[iv p1, iv p2, iv p3, iv p4, iv p5, iv (ab0_ p5), iv z2_, iv z5_, iv z8_, iv z11_, .unset, .unset, .unset, .unset] [.int 1, (.int (ab0_ p5))] _
    refine zy (pc' := 79) X10 Bd at_56 (XT.ii_ne_t (hc86 : ¬ ((ab0_ p5) = (1 : Int32)))) rfl ?_
    refine zi X10 Bd at_79 rfl ?_
    refine zc X10 Bd at_81 ?_
    exact k)
   by_cases hc243 : (ab0_ p5) = (2 : Int32)
   ·
    skip
    obtain ⟨T244, h244, X244, e244, E244, A244, D244, -, st244⟩ := newO X10 hx hZ hown (w6_ hw) (w7_ hw) (w8_ hw) e10q (g := (mkF m 85 #[iv p1, iv p2, iv p3, iv p4, iv p5, iv (ab0_ p5), iv z2_, iv z5_, iv z8_, iv z11_, .unset, .unset, .unset, .unset] [])) rfl (hb hby at_85) (lE rfl) (lE rfl)
    obtain ⟨b244, g244⟩ : ∃ z, z = h0.size := ⟨_, rfl⟩
    rw [← g244] at A244 D244 st244
    replace X244 : Stand p l e room_1 (s.setVm s.vm) m #[.int p1, .int p2, .int p3, .int p4, .int p5] below meth c T244 _ 1 4 := X244
    have K245 := (Keep.refl h0 []).ext E244
    have C246 : CHv Z consts_1 s.vm h244 := CHv.ext E244 hC0
    have R247 : CHr Z consts_1 s.vm h0 s.vm h244 := hR0.trans (CHr.ext E244 hC0)
    have F248_ : Fld Z h244 b244 "java/lang/String" "value" "[B" .null := D244 (Or.inr (w22_ hw)) (ty := (.array .byte)) (by decide)
    have F249_ : Fld Z h244 b244 "java/lang/String" "coder" "B" (.int 0) := D244 (Or.inr (w23_ hw)) (ty := .byte) (by decide)
    obtain ⟨T250, h250, c250, X250, e250, E250, A250, st250⟩ := newP (aty := .char) X244 hx hZ (w9_ hw) e244 (g := (mkF m 90 #[iv p1, iv p2, iv p3, iv p4, iv p5, iv (ab0_ p5), iv z2_, iv z5_, iv z8_, iv z11_, .unset, .unset, .unset, .unset] [.int 2, .ref b244, .ref b244])) rfl (hb hby at_90) rfl (by decide) (cap := 2) (by decide) (lE rfl) (lE rfl) (lE rfl)
    obtain ⟨b250, g250⟩ : ∃ z, z = h244.size := ⟨_, rfl⟩
    rw [← g250] at A250 st250
    replace X250 : Stand p l e room_1 (s.setVm s.vm) m #[.int p1, .int p2, .int p3, .int p4, .int p5] below meth c T250 _ 2 6 := X250
    have K251 := K245.ext E250
    have C252 : CHv Z consts_1 s.vm h250 := CHv.ext E250 C246
    have R253 : CHr Z consts_1 s.vm h0 s.vm h250 := R247.trans (CHr.ext E250 C246)
    have A254_ : Arv Z h250 b250 c250 .char (2 : Int32) [.int 0, .int 0] (.int 0) := (Arv.new A250 (by decide)).pad (pad_rep [] (.int 0) 2)
    have av255 := A254_
    obtain ⟨cl255, Ar255, q255, S255, N255, H255, Gf255⟩ := av255
    have hin256 : ¬ ((0 : Int32) < 0 ∨ cl255.slots.size ≤ ((0 : Int32) : Int32).toNatClampNeg) := inb_of S255 (by decide)
    obtain ⟨T256, h256, X256, e256, W256, st256⟩ := stC X250 hx hZ e250 Ar255 (j := (0 : Int32)) hin256 (g := (mkF m 96 #[iv p1, iv p2, iv p3, iv p4, iv p5, iv (ab0_ p5), iv z2_, iv z5_, iv z8_, iv z11_, .unset, .unset, .unset, .unset] [.int z2_, .int 0, .ref b250, .ref b250, .ref b244, .ref b244])) rfl rfl (hb hby at_96)
    have O257 := X00.ext E244
    have g_b250 : n0 ≤ b250 := Nat.le_trans (Nat.le_trans (Nat.le_of_eq O257.1.symm) O257.2.1) (Nat.le_of_eq g250.symm)
    have N256_ := Fr.snoc X256 N10 g_b250
    have sz_b250 : h0.size ≤ b250 := Nat.le_trans K245.1 (Nat.le_of_eq g250.symm)
    have K258 := K251.wr W256 (Or.inr sz_b250)
    have C259 : CHv Z consts_1 s.vm h256 := CHv.wr W256 (Safe.arv hZ.alike A254_ (by simp)) C252
    have R260 : CHr Z consts_1 s.vm h0 s.vm h256 := R253.trans (CHr.wr W256 (Safe.arv hZ.alike A254_ (by simp)) C252)
    have A261_ : Arv Z h256 b250 c250 .char (2 : Int32) [.int z2_, .int 0] (.int 0) := by have q := Arv.set (v := .int (nar .char z2_)) Ar255 q255 S255 N255 H255 Gf255 (fits_nar_char _) W256 0 (by decide) (lE rfl); rw [(w3 : nar .char z2_ = z2_)] at q; exact q
    have av262 := A261_
    obtain ⟨cl262, Ar262, q262, S262, N262, H262, Gf262⟩ := av262
    have hin263 : ¬ ((1 : Int32) < 0 ∨ cl262.slots.size ≤ ((1 : Int32) : Int32).toNatClampNeg) := inb_of S262 (by decide)
    obtain ⟨T263, h263, X263, e263, W263, st263⟩ := stC X256 hx hZ e256 Ar262 (j := (1 : Int32)) hin263 (g := (mkF m 101 #[iv p1, iv p2, iv p3, iv p4, iv p5, iv (ab0_ p5), iv z2_, iv z5_, iv z8_, iv z11_, .unset, .unset, .unset, .unset] [.int z5_, .int 1, .ref b250, .ref b250, .ref b244, .ref b244])) rfl rfl (hb hby at_101)
    have N263_ := Fr.snoc X263 N256_ g_b250
    have K264 := K258.wr W263 (Or.inr sz_b250)
    have C265 : CHv Z consts_1 s.vm h263 := CHv.wr W263 (Safe.arv hZ.alike A261_ (by simp)) C259
    have R266 : CHr Z consts_1 s.vm h0 s.vm h263 := R260.trans (CHr.wr W263 (Safe.arv hZ.alike A261_ (by simp)) C259)
    have A267_ : Arv Z h263 b250 c250 .char (2 : Int32) [.int z2_, .int z5_] (.int 0) := by have q := Arv.set (v := .int (nar .char z5_)) Ar262 q262 S262 N262 H262 Gf262 (fits_nar_char _) W263 1 (by decide) (lE rfl); rw [(w6 : nar .char z5_ = z5_)] at q; exact q
    have pr269 : Pr p e below T263 m 102 #[iv p1, iv p2, iv p3, iv p4, iv p5, iv (ab0_ p5), iv z2_, iv z5_, iv z8_, iv z11_, .unset, .unset, .unset, .unset] [.ref b250, .ref b244, .ref b244] s₁ en := fun t k => pr242 t (by
     show Sx p e below T10 m 82 #[iv p1, iv p2, iv p3, iv p4, iv p5, iv (ab0_ p5), iv z2_, iv z5_, iv z8_, iv z11_, .unset, .unset, .unset, .unset] [.int 2, (.int (ab0_ p5))] _
     refine zn X10 Bd at_82 (XT.ii_ne_f (hc243 : (ab0_ p5) = (2 : Int32))) ?_
     refine st244 _ ?_
     refine XS.dup X244.here hx rfl (hb hby at_88) rfl rfl ?_
     refine zc X244 Bd at_89 ?_
     refine st250 _ ?_
     refine XS.dup X250.here hx rfl (hb hby at_92) rfl rfl ?_
     refine zc X250 Bd at_93 ?_
     refine zi X250 Bd at_94 rfl ?_
     refine st256 _ ?_
     refine XS.dup X256.here hx rfl (hb hby at_97) rfl rfl ?_
     refine zc X256 Bd at_98 ?_
     refine zi X256 Bd at_99 rfl ?_
     refine st263 _ ?_
     exact k)
    by_cases hc270 : (255 : Int32) < (own_max ([z2_, z5_] : List Int32))
    ·
     skip
     have E272_ := A244.ext E250
     have E273_ := E272_.wr W256
     have E274_ := E273_.wr W263
     have F275_ := F249_.ext E250
     have F276_ := F275_.other W256 (Or.inl (Nat.ne_of_lt (Nat.lt_of_lt_of_le A244.lt (Nat.le_of_eq g250.symm))))
     have F277_ := F276_.other W263 (Or.inl (Nat.ne_of_lt (Nat.lt_of_lt_of_le A244.lt (Nat.le_of_eq g250.symm))))
     have g_b244 : n0 ≤ b244 := Nat.le_trans (Nat.le_trans (Nat.le_of_eq X00.1.symm) X00.2.1) (Nat.le_of_eq g244.symm)
     have F278_ := F248_.ext E250
     have F279_ := F278_.other W256 (Or.inl (Nat.ne_of_lt (Nat.lt_of_lt_of_le A244.lt (Nat.le_of_eq g250.symm))))
     have F280_ := F279_.other W263 (Or.inl (Nat.ne_of_lt (Nat.lt_of_lt_of_le A244.lt (Nat.le_of_eq g250.symm))))
     have O281 := O257.ext E250
     have O282 := O281.wr W256 g_b250
     have O283 := O282.wr W263 g_b250
     obtain ⟨_, T271, L271, X271, hQ271, st271⟩ := own_cI 4 12 [.ref b244] 102 #[iv p1, iv p2, iv p3, iv p4, iv p5, iv (ab0_ p5), iv z2_, iv z5_, iv z8_, iv z11_, .unset, .unset, .unset, .unset] X263 hx hZ hown (w10_ hw) (w11_ hw) (w8_ hw) (w12_ hw) (rm51 l Z a0 hw G1 b244 b250 c250 z2_ z5_ h263 n0 O283 O2 P5 uS12 uS15 uS18 A267_ hc270 w3 w6 E274_ F277_ g_b244 F280_) pd2 hml.symm (hb hby at_102) e263 rfl rfl rfl rfl rfl (by decide)
     obtain ⟨b284, c285_, rfl, N271q, K271q, w286, w287, w288, w289, w290⟩ := hQ271
     have N271 := Fr.app N263_ N271q
     have sz_b244 : h0.size ≤ b244 := (Nat.le_of_eq g244.symm)
     have K291 := K264.trans K271q (allS (Or.inr sz_b244) all0)
     have f293 : Safe Z consts_1 s.vm h244 b244 := Safe.ext E244 hC0 (Safe.new (Nat.le_of_eq g244.symm))
     have f294 : Safe Z consts_1 s.vm h250 b244 := Safe.ext E250 C246 f293
     have f295 : Safe Z consts_1 s.vm h256 b244 := Safe.wr W256 (Safe.arv hZ.alike A254_ (by simp)) C252 f294
     have f296 : Safe Z consts_1 s.vm h263 b244 := Safe.wr W263 (Safe.arv hZ.alike A261_ (by simp)) C259 f295
     have C292 : CHv Z consts_1 s.vm T271.heap := CHv.keep K271q (sfS f296 sf0) C265
     have R297 : CHr Z consts_1 s.vm h0 s.vm T271.heap := R266.trans (CHr.keep K271q (sfS f296 sf0) C265)
     have pr298 : Pr p e below T271 m 178 #[iv p1, iv p2, iv p3, iv p4, iv p5, iv (ab0_ p5), iv z2_, iv z5_, iv z8_, iv z11_, rv b244, .unset, .unset, .unset] [] s₁ en := fun t k => pr269 t (by
      show Sx p e below T263 m 102 #[iv p1, iv p2, iv p3, iv p4, iv p5, iv (ab0_ p5), iv z2_, iv z5_, iv z8_, iv z11_, .unset, .unset, .unset, .unset] [.ref b250, .ref b244, .ref b244] _
      refine st271 _ ?_
      refine XS.astore X271.here hx rfl (hb hby at_105) rfl rfl (l' := #[iv p1, iv p2, iv p3, iv p4, iv p5, iv (ab0_ p5), iv z2_, iv z5_, iv z8_, iv z11_, rv b244, .unset, .unset, .unset]) rfl ?_
      refine zg (pc' := 178) X271 Bd at_107 rfl ?_
      exact k)
     refine cps (A := ∃ T299 : State, ∃ L299 : List Loc, ∃ h299 : Heap, ∃ s1_ : Int32, Stand p l e room_1 (s.setVm s.vm) m #[.int p1, .int p2, .int p3, .int p4, .int p5] below meth c T299 L299 4 12 ∧ T299.heap = h299 ∧ Fr n0 L299 ∧ Keep T271.heap h299 [] ∧ (s1_ = own_has (59 : Int32) ([z2_, z5_] : List Int32)) ∧ Pr p e below T299 m 236 #[iv p1, iv p2, iv p3, iv p4, iv p5, iv (ab0_ p5), iv z2_, iv z5_, iv z8_, iv z11_, rv b244, iv s1_, .unset, .unset] [] s₁ en) (fun kont299 => ?_) (fun hA299 => ?_)
     ·
      skip
      have pr300 : Pr p e below T271 m 187 #[iv p1, iv p2, iv p3, iv p4, iv p5, iv (ab0_ p5), iv z2_, iv z5_, iv z8_, iv z11_, rv b244, .unset, .unset, .unset] [.int 59, .int z2_] s₁ en := fun t k => pr298 t (by
       show Sx p e below T271 m 178 #[iv p1, iv p2, iv p3, iv p4, iv p5, iv (ab0_ p5), iv z2_, iv z5_, iv z8_, iv z11_, rv b244, .unset, .unset, .unset] [] _
       refine zi X271 Bd at_178 rfl ?_
       refine zo X271 Bd at_180 (XT.i0_le_f ((by have e_ : (ab0_ p5) = (2 : Int32) := hc243; rw [e_]; first | done | decide) : (0 : Int32) < (ab0_ p5))) ?_
       refine zi X271 Bd at_183 rfl ?_
       refine zd X271 Bd at_185 ?_
       exact k)
      by_cases hc301 : z2_ = (59 : Int32)
      ·
       skip
       have pr302 : Pr p e below T271 m 236 #[iv p1, iv p2, iv p3, iv p4, iv p5, iv (ab0_ p5), iv z2_, iv z5_, iv z8_, iv z11_, rv b244, iv 1, .unset, .unset] [] s₁ en := fun t k => pr300 t (by
        show Sx p e below T271 m 187 #[iv p1, iv p2, iv p3, iv p4, iv p5, iv (ab0_ p5), iv z2_, iv z5_, iv z8_, iv z11_, rv b244, .unset, .unset, .unset] [.int 59, .int z2_] _
        refine zy (pc' := 229) X271 Bd at_187 (XT.ii_eq_t (hc301 : z2_ = (59 : Int32))) rfl ?_
        refine zc X271 Bd at_229 ?_
        refine zg (pc' := 234) X271 Bd at_230 rfl ?_
        refine zs X271 Bd at_234 (l' := #[iv p1, iv p2, iv p3, iv p4, iv p5, iv (ab0_ p5), iv z2_, iv z5_, iv z8_, iv z11_, rv b244, iv 1, .unset, .unset]) rfl ?_
        exact k)
       exact kont299 ⟨T271, _, T271.heap, (1 : Int32), (X271.mono (lE rfl) (lE rfl)), rfl, N271, (Keep.refl T271.heap []), (by rw [own_has, if_pos hc301] <;> rfl), (fun t k => pr302 t k)⟩
      ·
       skip
       have pr303 : Pr p e below T271 m 200 #[iv p1, iv p2, iv p3, iv p4, iv p5, iv (ab0_ p5), iv z2_, iv z5_, iv z8_, iv z11_, rv b244, .unset, .unset, .unset] [.int 59, .int z5_] s₁ en := fun t k => pr300 t (by
        show Sx p e below T271 m 187 #[iv p1, iv p2, iv p3, iv p4, iv p5, iv (ab0_ p5), iv z2_, iv z5_, iv z8_, iv z11_, rv b244, .unset, .unset, .unset] [.int 59, .int z2_] _
        refine zn X271 Bd at_187 (XT.ii_eq_f (hc301 : ¬ (z2_ = (59 : Int32)))) ?_
        refine zi X271 Bd at_190 rfl ?_
        refine zc X271 Bd at_192 ?_
        refine zn X271 Bd at_193 (XT.ii_le_f ((by have e_ : (ab0_ p5) = (2 : Int32) := hc243; rw [e_]; first | done | decide) : (1 : Int32) < (ab0_ p5))) ?_
        refine zi X271 Bd at_196 rfl ?_
        refine zd X271 Bd at_198 ?_
        exact k)
       by_cases hc304 : z5_ = (59 : Int32)
       ·
        skip
        have pr305 : Pr p e below T271 m 236 #[iv p1, iv p2, iv p3, iv p4, iv p5, iv (ab0_ p5), iv z2_, iv z5_, iv z8_, iv z11_, rv b244, iv 1, .unset, .unset] [] s₁ en := fun t k => pr303 t (by
         show Sx p e below T271 m 200 #[iv p1, iv p2, iv p3, iv p4, iv p5, iv (ab0_ p5), iv z2_, iv z5_, iv z8_, iv z11_, rv b244, .unset, .unset, .unset] [.int 59, .int z5_] _
         refine zy (pc' := 229) X271 Bd at_200 (XT.ii_eq_t (hc304 : z5_ = (59 : Int32))) rfl ?_
         refine zc X271 Bd at_229 ?_
         refine zg (pc' := 234) X271 Bd at_230 rfl ?_
         refine zs X271 Bd at_234 (l' := #[iv p1, iv p2, iv p3, iv p4, iv p5, iv (ab0_ p5), iv z2_, iv z5_, iv z8_, iv z11_, rv b244, iv 1, .unset, .unset]) rfl ?_
         exact k)
        exact kont299 ⟨T271, _, T271.heap, (1 : Int32), (X271.mono (lE rfl) (lE rfl)), rfl, N271, (Keep.refl T271.heap []), (by rw [own_has, if_neg hc301, own_has, if_pos hc304] <;> rfl), (fun t k => pr305 t k)⟩
       ·
        skip
        have pr306 : Pr p e below T271 m 236 #[iv p1, iv p2, iv p3, iv p4, iv p5, iv (ab0_ p5), iv z2_, iv z5_, iv z8_, iv z11_, rv b244, iv 0, .unset, .unset] [] s₁ en := fun t k => pr303 t (by
         show Sx p e below T271 m 200 #[iv p1, iv p2, iv p3, iv p4, iv p5, iv (ab0_ p5), iv z2_, iv z5_, iv z8_, iv z11_, rv b244, .unset, .unset, .unset] [.int 59, .int z5_] _
         refine zn X271 Bd at_200 (XT.ii_eq_f (hc304 : ¬ (z5_ = (59 : Int32)))) ?_
         refine zi X271 Bd at_203 rfl ?_
         refine zc X271 Bd at_205 ?_
         refine zy (pc' := 216) X271 Bd at_206 (XT.ii_le_t ((by have e_ : (ab0_ p5) = (2 : Int32) := hc243; rw [e_]; first | done | decide) : ¬ ((2 : Int32) < (ab0_ p5)))) rfl ?_
         refine zi X271 Bd at_216 rfl ?_
         refine zc X271 Bd at_218 ?_
         refine zy (pc' := 233) X271 Bd at_219 (XT.ii_le_t ((by have e_ : (ab0_ p5) = (2 : Int32) := hc243; rw [e_]; first | done | decide) : ¬ ((3 : Int32) < (ab0_ p5)))) rfl ?_
         refine zc X271 Bd at_233 ?_
         refine zs X271 Bd at_234 (l' := #[iv p1, iv p2, iv p3, iv p4, iv p5, iv (ab0_ p5), iv z2_, iv z5_, iv z8_, iv z11_, rv b244, iv 0, .unset, .unset]) rfl ?_
         exact k)
        exact kont299 ⟨T271, _, T271.heap, (0 : Int32), (X271.mono (lE rfl) (lE rfl)), rfl, N271, (Keep.refl T271.heap []), (by rw [own_has, if_neg hc301, own_has, if_neg hc304, own_has] <;> rfl), (fun t k => pr306 t k)⟩
     ·
      obtain ⟨T299, L299, h299, s1_, X299, e299, N299, K299j, hp299_0, pr299⟩ := hA299
      have K307 := K291.trans K299j (fun x q => nomatch q)
      have C308 : CHv Z consts_1 s.vm h299 := CHv.keep K299j sf0 C292
      have R309 : CHr Z consts_1 s.vm h0 s.vm h299 := R297.trans (CHr.keep K299j sf0 C292)
      refine cps (A := ∃ T310 : State, ∃ L310 : List Loc, ∃ h310 : Heap, ∃ a1_ : Int32, Stand p l e room_1 (s.setVm s.vm) m #[.int p1, .int p2, .int p3, .int p4, .int p5] below meth c T310 L310 4 12 ∧ T310.heap = h310 ∧ Fr n0 L310 ∧ Keep h299 h310 [] ∧ (a1_ = own_has (38 : Int32) ([z2_, z5_] : List Int32)) ∧ Pr p e below T310 m 294 #[iv p1, iv p2, iv p3, iv p4, iv p5, iv (ab0_ p5), iv z2_, iv z5_, iv z8_, iv z11_, rv b244, iv s1_, iv a1_, .unset] [] s₁ en) (fun kont310 => ?_) (fun hA310 => ?_)
      ·
       skip
       have pr311 : Pr p e below T299 m 245 #[iv p1, iv p2, iv p3, iv p4, iv p5, iv (ab0_ p5), iv z2_, iv z5_, iv z8_, iv z11_, rv b244, iv s1_, .unset, .unset] [.int 38, .int z2_] s₁ en := fun t k => pr299 t (by
        show Sx p e below T299 m 236 #[iv p1, iv p2, iv p3, iv p4, iv p5, iv (ab0_ p5), iv z2_, iv z5_, iv z8_, iv z11_, rv b244, iv s1_, .unset, .unset] [] _
        refine zi X299 Bd at_236 rfl ?_
        refine zo X299 Bd at_238 (XT.i0_le_f ((by have e_ : (ab0_ p5) = (2 : Int32) := hc243; rw [e_]; first | done | decide) : (0 : Int32) < (ab0_ p5))) ?_
        refine zi X299 Bd at_241 rfl ?_
        refine zd X299 Bd at_243 ?_
        exact k)
       by_cases hc312 : z2_ = (38 : Int32)
       ·
        skip
        have pr313 : Pr p e below T299 m 294 #[iv p1, iv p2, iv p3, iv p4, iv p5, iv (ab0_ p5), iv z2_, iv z5_, iv z8_, iv z11_, rv b244, iv s1_, iv 1, .unset] [] s₁ en := fun t k => pr311 t (by
         show Sx p e below T299 m 245 #[iv p1, iv p2, iv p3, iv p4, iv p5, iv (ab0_ p5), iv z2_, iv z5_, iv z8_, iv z11_, rv b244, iv s1_, .unset, .unset] [.int 38, .int z2_] _
         refine zy (pc' := 287) X299 Bd at_245 (XT.ii_eq_t (hc312 : z2_ = (38 : Int32))) rfl ?_
         refine zc X299 Bd at_287 ?_
         refine zg (pc' := 292) X299 Bd at_288 rfl ?_
         refine zs X299 Bd at_292 (l' := #[iv p1, iv p2, iv p3, iv p4, iv p5, iv (ab0_ p5), iv z2_, iv z5_, iv z8_, iv z11_, rv b244, iv s1_, iv 1, .unset]) rfl ?_
         exact k)
        exact kont310 ⟨T299, _, h299, (1 : Int32), (X299.mono (lE rfl) (lE rfl)), e299, N299, (Keep.refl h299 []), (by rw [own_has, if_pos hc312] <;> rfl), (fun t k => pr313 t k)⟩
       ·
        skip
        have pr314 : Pr p e below T299 m 258 #[iv p1, iv p2, iv p3, iv p4, iv p5, iv (ab0_ p5), iv z2_, iv z5_, iv z8_, iv z11_, rv b244, iv s1_, .unset, .unset] [.int 38, .int z5_] s₁ en := fun t k => pr311 t (by
         show Sx p e below T299 m 245 #[iv p1, iv p2, iv p3, iv p4, iv p5, iv (ab0_ p5), iv z2_, iv z5_, iv z8_, iv z11_, rv b244, iv s1_, .unset, .unset] [.int 38, .int z2_] _
         refine zn X299 Bd at_245 (XT.ii_eq_f (hc312 : ¬ (z2_ = (38 : Int32)))) ?_
         refine zi X299 Bd at_248 rfl ?_
         refine zc X299 Bd at_250 ?_
         refine zn X299 Bd at_251 (XT.ii_le_f ((by have e_ : (ab0_ p5) = (2 : Int32) := hc243; rw [e_]; first | done | decide) : (1 : Int32) < (ab0_ p5))) ?_
         refine zi X299 Bd at_254 rfl ?_
         refine zd X299 Bd at_256 ?_
         exact k)
        by_cases hc315 : z5_ = (38 : Int32)
        ·
         skip
         have pr316 : Pr p e below T299 m 294 #[iv p1, iv p2, iv p3, iv p4, iv p5, iv (ab0_ p5), iv z2_, iv z5_, iv z8_, iv z11_, rv b244, iv s1_, iv 1, .unset] [] s₁ en := fun t k => pr314 t (by
          show Sx p e below T299 m 258 #[iv p1, iv p2, iv p3, iv p4, iv p5, iv (ab0_ p5), iv z2_, iv z5_, iv z8_, iv z11_, rv b244, iv s1_, .unset, .unset] [.int 38, .int z5_] _
          refine zy (pc' := 287) X299 Bd at_258 (XT.ii_eq_t (hc315 : z5_ = (38 : Int32))) rfl ?_
          refine zc X299 Bd at_287 ?_
          refine zg (pc' := 292) X299 Bd at_288 rfl ?_
          refine zs X299 Bd at_292 (l' := #[iv p1, iv p2, iv p3, iv p4, iv p5, iv (ab0_ p5), iv z2_, iv z5_, iv z8_, iv z11_, rv b244, iv s1_, iv 1, .unset]) rfl ?_
          exact k)
         exact kont310 ⟨T299, _, h299, (1 : Int32), (X299.mono (lE rfl) (lE rfl)), e299, N299, (Keep.refl h299 []), (by rw [own_has, if_neg hc312, own_has, if_pos hc315] <;> rfl), (fun t k => pr316 t k)⟩
        ·
         skip
         have pr317 : Pr p e below T299 m 294 #[iv p1, iv p2, iv p3, iv p4, iv p5, iv (ab0_ p5), iv z2_, iv z5_, iv z8_, iv z11_, rv b244, iv s1_, iv 0, .unset] [] s₁ en := fun t k => pr314 t (by
          show Sx p e below T299 m 258 #[iv p1, iv p2, iv p3, iv p4, iv p5, iv (ab0_ p5), iv z2_, iv z5_, iv z8_, iv z11_, rv b244, iv s1_, .unset, .unset] [.int 38, .int z5_] _
          refine zn X299 Bd at_258 (XT.ii_eq_f (hc315 : ¬ (z5_ = (38 : Int32)))) ?_
          refine zi X299 Bd at_261 rfl ?_
          refine zc X299 Bd at_263 ?_
          refine zy (pc' := 274) X299 Bd at_264 (XT.ii_le_t ((by have e_ : (ab0_ p5) = (2 : Int32) := hc243; rw [e_]; first | done | decide) : ¬ ((2 : Int32) < (ab0_ p5)))) rfl ?_
          refine zi X299 Bd at_274 rfl ?_
          refine zc X299 Bd at_276 ?_
          refine zy (pc' := 291) X299 Bd at_277 (XT.ii_le_t ((by have e_ : (ab0_ p5) = (2 : Int32) := hc243; rw [e_]; first | done | decide) : ¬ ((3 : Int32) < (ab0_ p5)))) rfl ?_
          refine zc X299 Bd at_291 ?_
          refine zs X299 Bd at_292 (l' := #[iv p1, iv p2, iv p3, iv p4, iv p5, iv (ab0_ p5), iv z2_, iv z5_, iv z8_, iv z11_, rv b244, iv s1_, iv 0, .unset]) rfl ?_
          exact k)
         exact kont310 ⟨T299, _, h299, (0 : Int32), (X299.mono (lE rfl) (lE rfl)), e299, N299, (Keep.refl h299 []), (by rw [own_has, if_neg hc312, own_has, if_neg hc315, own_has] <;> rfl), (fun t k => pr317 t k)⟩
      ·
       obtain ⟨T310, L310, h310, a1_, X310, e310, N310, K310j, hp310_0, pr310⟩ := hA310
       have K318 := K307.trans K310j (fun x q => nomatch q)
       have C319 : CHv Z consts_1 s.vm h310 := CHv.keep K310j sf0 C308
       have R320 : CHr Z consts_1 s.vm h0 s.vm h310 := R309.trans (CHr.keep K310j sf0 C308)
       refine cps (A := ∃ T321 : State, ∃ L321 : List Loc, ∃ h321 : Heap, ∃ ex_ : Int32, Stand p l e room_1 (s.setVm s.vm) m #[.int p1, .int p2, .int p3, .int p4, .int p5] below meth c T321 L321 4 12 ∧ T321.heap = h321 ∧ Fr n0 L321 ∧ Keep h310 h321 [] ∧ (ex_ = own_exp ([z2_, z5_] : List Int32)) ∧ Pr p e below T321 m 313 #[iv p1, iv p2, iv p3, iv p4, iv p5, iv (ab0_ p5), iv z2_, iv z5_, iv z8_, iv z11_, rv b244, iv s1_, iv a1_, iv ex_] [] s₁ en) (fun kont321 => ?_) (fun hA321 => ?_)
       ·
        skip
        have pr322 : Pr p e below T310 m 296 #[iv p1, iv p2, iv p3, iv p4, iv p5, iv (ab0_ p5), iv z2_, iv z5_, iv z8_, iv z11_, rv b244, iv s1_, iv a1_, .unset] [.int s1_] s₁ en := fun t k => pr310 t (by
         show Sx p e below T310 m 294 #[iv p1, iv p2, iv p3, iv p4, iv p5, iv (ab0_ p5), iv z2_, iv z5_, iv z8_, iv z11_, rv b244, iv s1_, iv a1_, .unset] [] _
         refine zi X310 Bd at_294 rfl ?_
         exact k)
        by_cases hc323 : s1_ = (0 : Int32)
        ·
         skip
         have pr324 : Pr p e below T310 m 313 #[iv p1, iv p2, iv p3, iv p4, iv p5, iv (ab0_ p5), iv z2_, iv z5_, iv z8_, iv z11_, rv b244, iv s1_, iv a1_, iv 38] [] s₁ en := fun t k => pr322 t (by
          show Sx p e below T310 m 296 #[iv p1, iv p2, iv p3, iv p4, iv p5, iv (ab0_ p5), iv z2_, iv z5_, iv z8_, iv z11_, rv b244, iv s1_, iv a1_, .unset] [.int s1_] _
          refine zp (pc' := 309) X310 Bd at_296 (XT.i0_eq_t (hc323 : s1_ = (0 : Int32))) rfl ?_
          refine zd X310 Bd at_309 ?_
          refine zs X310 Bd at_311 (l' := #[iv p1, iv p2, iv p3, iv p4, iv p5, iv (ab0_ p5), iv z2_, iv z5_, iv z8_, iv z11_, rv b244, iv s1_, iv a1_, iv 38]) rfl ?_
          exact k)
         exact kont321 ⟨T310, _, h310, (38 : Int32), (X310.mono (lE rfl) (lE rfl)), e310, N310, (Keep.refl h310 []), (by rw [own_exp, ← hp299_0, if_pos hc323] <;> rfl), (fun t k => pr324 t k)⟩
        ·
         skip
         have pr325 : Pr p e below T310 m 301 #[iv p1, iv p2, iv p3, iv p4, iv p5, iv (ab0_ p5), iv z2_, iv z5_, iv z8_, iv z11_, rv b244, iv s1_, iv a1_, .unset] [.int a1_] s₁ en := fun t k => pr322 t (by
          show Sx p e below T310 m 296 #[iv p1, iv p2, iv p3, iv p4, iv p5, iv (ab0_ p5), iv z2_, iv z5_, iv z8_, iv z11_, rv b244, iv s1_, iv a1_, .unset] [.int s1_] _
          refine zo X310 Bd at_296 (XT.i0_eq_f (hc323 : ¬ (s1_ = (0 : Int32)))) ?_
          refine zi X310 Bd at_299 rfl ?_
          exact k)
         by_cases hc326 : a1_ = (0 : Int32)
         ·
          skip
          have pr327 : Pr p e below T310 m 313 #[iv p1, iv p2, iv p3, iv p4, iv p5, iv (ab0_ p5), iv z2_, iv z5_, iv z8_, iv z11_, rv b244, iv s1_, iv a1_, iv 59] [] s₁ en := fun t k => pr325 t (by
           show Sx p e below T310 m 301 #[iv p1, iv p2, iv p3, iv p4, iv p5, iv (ab0_ p5), iv z2_, iv z5_, iv z8_, iv z11_, rv b244, iv s1_, iv a1_, .unset] [.int a1_] _
           refine zo X310 Bd at_301 (XT.i0_ne_f (hc326 : a1_ = (0 : Int32))) ?_
           refine zd X310 Bd at_304 ?_
           refine zg (pc' := 311) X310 Bd at_306 rfl ?_
           refine zs X310 Bd at_311 (l' := #[iv p1, iv p2, iv p3, iv p4, iv p5, iv (ab0_ p5), iv z2_, iv z5_, iv z8_, iv z11_, rv b244, iv s1_, iv a1_, iv 59]) rfl ?_
           exact k)
          exact kont321 ⟨T310, _, h310, (59 : Int32), (X310.mono (lE rfl) (lE rfl)), e310, N310, (Keep.refl h310 []), (by rw [own_exp, ← hp299_0, if_neg hc323, ← hp310_0, if_pos hc326] <;> rfl), (fun t k => pr327 t k)⟩
         ·
          skip
          have pr328 : Pr p e below T310 m 313 #[iv p1, iv p2, iv p3, iv p4, iv p5, iv (ab0_ p5), iv z2_, iv z5_, iv z8_, iv z11_, rv b244, iv s1_, iv a1_, iv 38] [] s₁ en := fun t k => pr325 t (by
           show Sx p e below T310 m 301 #[iv p1, iv p2, iv p3, iv p4, iv p5, iv (ab0_ p5), iv z2_, iv z5_, iv z8_, iv z11_, rv b244, iv s1_, iv a1_, .unset] [.int a1_] _
           refine zp (pc' := 309) X310 Bd at_301 (XT.i0_ne_t (hc326 : ¬ (a1_ = (0 : Int32)))) rfl ?_
           refine zd X310 Bd at_309 ?_
           refine zs X310 Bd at_311 (l' := #[iv p1, iv p2, iv p3, iv p4, iv p5, iv (ab0_ p5), iv z2_, iv z5_, iv z8_, iv z11_, rv b244, iv s1_, iv a1_, iv 38]) rfl ?_
           exact k)
          exact kont321 ⟨T310, _, h310, (38 : Int32), (X310.mono (lE rfl) (lE rfl)), e310, N310, (Keep.refl h310 []), (by rw [own_exp, ← hp299_0, if_neg hc323, ← hp310_0, if_neg hc326] <;> rfl), (fun t k => pr328 t k)⟩
       ·
        obtain ⟨T321, L321, h321, ex_, X321, e321, N321, K321j, hp321_0, pr321⟩ := hA321
        have K329 := K318.trans K321j (fun x q => nomatch q)
        have C330 : CHv Z consts_1 s.vm h321 := CHv.keep K321j sf0 C319
        have R331 : CHr Z consts_1 s.vm h0 s.vm h321 := R320.trans (CHr.keep K321j sf0 C319)
        have E333_ := E274_.keep K271q
        have E334_ := E333_.keep K299j
        have E335_ := E334_.keep K310j
        have E336_ := E335_.keep K321j
        have F337_ := w288.keep K299j nin0
        have F338_ := F337_.keep K310j nin0
        have F339_ := F338_.keep K321j nin0
        have F340_ := w289.keep K299j nin0
        have F341_ := F340_.keep K310j nin0
        have F342_ := F341_.keep K321j nin0
        have A343_ := w290.keep K299j nin0
        have A344_ := A343_.keep K310j nin0
        have A345_ := A344_.keep K321j nin0
        have O346 := O283.keep K271q (allS g_b244 all0)
        have O347 := O346.keep K299j all0
        have O348 := O347.keep K310j all0
        have O349 := O348.keep K321j all0
        obtain ⟨_, T332, L332, X332, hQ332, st332⟩ := own_cS 4 12 [] 315 #[iv p1, iv p2, iv p3, iv p4, iv p5, iv (ab0_ p5), iv z2_, iv z5_, iv z8_, iv z11_, rv b244, iv s1_, iv a1_, iv ex_] X321 hx hZ hown (w28_ hw) (w29_ hw) (w30_ hw) (w31_ hw) (rm63 l Z a0 hw G1 G3 b244 b284 c285_ ((((z2_ >>> ((0 : Int32) &&& 31)))).toInt8.toInt32) ((((z2_ >>> ((8 : Int32) &&& 31)))).toInt8.toInt32) ((((z5_ >>> ((0 : Int32) &&& 31)))).toInt8.toInt32) ((((z5_ >>> ((8 : Int32) &&& 31)))).toInt8.toInt32) h321 n0 O349 O2 P5 O4 rG3 uS12 uS15 uS18 E336_ F339_ F342_ A345_) pd9 hml.symm (hb hby at_315) e321 rfl rfl rfl rfl (by decide)
        obtain ⟨rfl, N332q, e332q⟩ := hQ332
        have N332 := Fr.app N321 N332q
        have hk350' : _ ≤ h321.size := (Nat.le_trans (Nat.le_trans (Nat.le_trans (Nat.le_trans (Nat.le_trans (Nat.le_trans (Nat.le_trans (Nat.le_trans hk0 E244.1) E250.1) (Nat.le_of_eq W256.size.symm)) (Nat.le_of_eq W263.size.symm)) K271q.1) K299j.1) K310j.1) K321j.1)
        refine own_lvW X332 Bd.notSynchronized hS0 hk350' (v := (some (.int 1))) (fun h => by rw [Bd.returns] at h; cases h) e332q hh ⟨rfl, N332⟩ (R331.trans (CHv.at X332 hZ hEL C330)) (lE rfl) (lE rfl) (fun fs hr => pr321 _ (by
         show Sx p e below T321 m 313 #[iv p1, iv p2, iv p3, iv p4, iv p5, iv (ab0_ p5), iv z2_, iv z5_, iv z8_, iv z11_, rv b244, iv s1_, iv a1_, iv ex_] [] _
         refine za X321 Bd at_313 rfl rfl ?_
         refine st332 _ ?_
         refine zi X332 Bd at_318 rfl ?_
         refine zn X332 Bd at_320 (XT.ii_ne_f (((own_fin16 (l := (own_L2 ((((z2_ >>> ((0 : Int32) &&& 31)))).toInt8.toInt32) ((((z2_ >>> ((8 : Int32) &&& 31)))).toInt8.toInt32) ((((z5_ >>> ((0 : Int32) &&& 31)))).toInt8.toInt32) ((((z5_ >>> ((8 : Int32) &&& 31)))).toInt8.toInt32))) (z := ([z2_, z5_] : List Int32)) (own_cons (own_get16 w3) (own_cons (own_get16 w6) rfl)) (lE rfl)).trans hp321_0.symm) : (own_sep (own_L2 ((((z2_ >>> ((0 : Int32) &&& 31)))).toInt8.toInt32) ((((z2_ >>> ((8 : Int32) &&& 31)))).toInt8.toInt32) ((((z5_ >>> ((0 : Int32) &&& 31)))).toInt8.toInt32) ((((z5_ >>> ((8 : Int32) &&& 31)))).toInt8.toInt32))) = ex_)) ?_
         refine zc X332 Bd at_323 ?_
         refine zg (pc' := 328) X332 Bd at_324 rfl ?_
         exact retN X332 hx (t := .boolean) Bd.returns (by simp) (hb hby at_328) hr))
    ·
     skip
     have hp352 : ∀ c ∈ ([z2_, z5_] : List Int32), ¬ c < 0 ∧ ¬ (255 : Int32) < c := (List.forall_mem_cons.mpr ⟨(And.intro (own_ch0 w3) (own_maxle hc270 (mI 0 rfl))), (List.forall_mem_cons.mpr ⟨(And.intro (own_ch0 w6) (own_maxle hc270 (mI 1 rfl))), (fun _ q => nomatch q)⟩)⟩)
     have g_b244 : n0 ≤ b244 := Nat.le_trans (Nat.le_trans (Nat.le_of_eq X00.1.symm) X00.2.1) (Nat.le_of_eq g244.symm)
     have O353 := O257.ext E250
     have O354 := O353.wr W256 g_b250
     have O355 := O354.wr W263 g_b250
     have E356_ := A244.ext E250
     have E357_ := E356_.wr W256
     have E358_ := E357_.wr W263
     have F359_ := F248_.ext E250
     have F360_ := F359_.other W256 (Or.inl (Nat.ne_of_lt (Nat.lt_of_lt_of_le A244.lt (Nat.le_of_eq g250.symm))))
     have F361_ := F360_.other W263 (Or.inl (Nat.ne_of_lt (Nat.lt_of_lt_of_le A244.lt (Nat.le_of_eq g250.symm))))
     have F362_ := F249_.ext E250
     have F363_ := F362_.other W256 (Or.inl (Nat.ne_of_lt (Nat.lt_of_lt_of_le A244.lt (Nat.le_of_eq g250.symm))))
     have F364_ := F363_.other W263 (Or.inl (Nat.ne_of_lt (Nat.lt_of_lt_of_le A244.lt (Nat.le_of_eq g250.symm))))
     obtain ⟨_, T351, L351, X351, hQ351, st351⟩ := own_cb 2 6 1 2 3 8 (X263.specialBack hx (y := Y2_) rfl hown (mvT hZ (w10_ hw)) (mvT hZ (w11_ hw)) (mvT hZ (w12_ hw)) (by decide) (StrChars.Road.backV (s := s.setVm s.vm) (W := 1) hZ (own_ws hw) (kI := 4) (w7_ hw) (cs := ([z2_, z5_] : List Int32)) (bs := ([z2_, z5_] : List Int32).map (fun c => c.toInt8.toInt32)) (n := 2) g_b244 (Nat.le_trans (Nat.le_of_eq O355.1.symm) O355.2.1) E358_ F361_ F364_ A267_ (O2.ext O355.2) P5 rfl rfl (lE rfl) (lE rfl) hp352 rfl (lE rfl) (lE rfl)) (g := (mkF m 102 #[iv p1, iv p2, iv p3, iv p4, iv p5, iv (ab0_ p5), iv z2_, iv z5_, iv z8_, iv z11_, .unset, .unset, .unset, .unset] [.ref b250, .ref b244, .ref b244])) rfl hml.symm (Steps.refl _) (a := b244) (argsL := [.ref b250]) (rest := [.ref b244]) (lenOf pd2 rfl) rfl (own_hw rfl) (hb hby at_102) (fun _ _ => ⟨rfl, e263, (lE rfl : 2 + 1 ≤ _), (lE rfl : 6 + 2 ≤ _)⟩)) rfl rfl
     obtain ⟨rfl, N351q, K351q, E351q, C351q, b365, c365_, u365, g365, ne365, V365_, A365_⟩ := hQ351
     have N351 := Fr.app N263_ N351q
     have sz_b244 : h0.size ≤ b244 := (Nat.le_of_eq g244.symm)
     have K366 := K264.trans K351q (allS (Or.inr sz_b244) all0)
     have f368 : Safe Z consts_1 s.vm h244 b244 := Safe.ext E244 hC0 (Safe.new (Nat.le_of_eq g244.symm))
     have f369 : Safe Z consts_1 s.vm h250 b244 := Safe.ext E250 C246 f368
     have f370 : Safe Z consts_1 s.vm h256 b244 := Safe.wr W256 (Safe.arv hZ.alike A254_ (by simp)) C252 f369
     have f371 : Safe Z consts_1 s.vm h263 b244 := Safe.wr W263 (Safe.arv hZ.alike A261_ (by simp)) C259 f370
     have C367 : CHv Z consts_1 s.vm T351.heap := CHv.keep K351q (sfS f371 sf0) C265
     have R372 : CHr Z consts_1 s.vm h0 s.vm T351.heap := R266.trans (CHr.keep K351q (sfS f371 sf0) C265)
     have pr373 : Pr p e below T351 m 178 #[iv p1, iv p2, iv p3, iv p4, iv p5, iv (ab0_ p5), iv z2_, iv z5_, iv z8_, iv z11_, rv b244, .unset, .unset, .unset] [] s₁ en := fun t k => pr269 t (by
      show Sx p e below T263 m 102 #[iv p1, iv p2, iv p3, iv p4, iv p5, iv (ab0_ p5), iv z2_, iv z5_, iv z8_, iv z11_, .unset, .unset, .unset, .unset] [.ref b250, .ref b244, .ref b244] _
      refine st351.trans ?_
      refine XS.astore X351.here hx rfl (hb hby at_105) rfl rfl (l' := #[iv p1, iv p2, iv p3, iv p4, iv p5, iv (ab0_ p5), iv z2_, iv z5_, iv z8_, iv z11_, rv b244, .unset, .unset, .unset]) rfl ?_
      refine zg (pc' := 178) X351 Bd at_107 rfl ?_
      exact k)
     refine cps (A := ∃ T374 : State, ∃ L374 : List Loc, ∃ h374 : Heap, ∃ s1_ : Int32, Stand p l e room_1 (s.setVm s.vm) m #[.int p1, .int p2, .int p3, .int p4, .int p5] below meth c T374 L374 3 8 ∧ T374.heap = h374 ∧ Fr n0 L374 ∧ Keep T351.heap h374 [] ∧ (s1_ = own_has (59 : Int32) ([z2_, z5_] : List Int32)) ∧ Pr p e below T374 m 236 #[iv p1, iv p2, iv p3, iv p4, iv p5, iv (ab0_ p5), iv z2_, iv z5_, iv z8_, iv z11_, rv b244, iv s1_, .unset, .unset] [] s₁ en) (fun kont374 => ?_) (fun hA374 => ?_)
     ·
      skip
      have pr375 : Pr p e below T351 m 187 #[iv p1, iv p2, iv p3, iv p4, iv p5, iv (ab0_ p5), iv z2_, iv z5_, iv z8_, iv z11_, rv b244, .unset, .unset, .unset] [.int 59, .int z2_] s₁ en := fun t k => pr373 t (by
       show Sx p e below T351 m 178 #[iv p1, iv p2, iv p3, iv p4, iv p5, iv (ab0_ p5), iv z2_, iv z5_, iv z8_, iv z11_, rv b244, .unset, .unset, .unset] [] _
       refine zi X351 Bd at_178 rfl ?_
       refine zo X351 Bd at_180 (XT.i0_le_f ((by have e_ : (ab0_ p5) = (2 : Int32) := hc243; rw [e_]; first | done | decide) : (0 : Int32) < (ab0_ p5))) ?_
       refine zi X351 Bd at_183 rfl ?_
       refine zd X351 Bd at_185 ?_
       exact k)
      by_cases hc376 : z2_ = (59 : Int32)
      ·
       skip
       have pr377 : Pr p e below T351 m 236 #[iv p1, iv p2, iv p3, iv p4, iv p5, iv (ab0_ p5), iv z2_, iv z5_, iv z8_, iv z11_, rv b244, iv 1, .unset, .unset] [] s₁ en := fun t k => pr375 t (by
        show Sx p e below T351 m 187 #[iv p1, iv p2, iv p3, iv p4, iv p5, iv (ab0_ p5), iv z2_, iv z5_, iv z8_, iv z11_, rv b244, .unset, .unset, .unset] [.int 59, .int z2_] _
        refine zy (pc' := 229) X351 Bd at_187 (XT.ii_eq_t (hc376 : z2_ = (59 : Int32))) rfl ?_
        refine zc X351 Bd at_229 ?_
        refine zg (pc' := 234) X351 Bd at_230 rfl ?_
        refine zs X351 Bd at_234 (l' := #[iv p1, iv p2, iv p3, iv p4, iv p5, iv (ab0_ p5), iv z2_, iv z5_, iv z8_, iv z11_, rv b244, iv 1, .unset, .unset]) rfl ?_
        exact k)
       exact kont374 ⟨T351, _, T351.heap, (1 : Int32), (X351.mono (lE rfl) (lE rfl)), rfl, N351, (Keep.refl T351.heap []), (by rw [own_has, if_pos hc376] <;> rfl), (fun t k => pr377 t k)⟩
      ·
       skip
       have pr378 : Pr p e below T351 m 200 #[iv p1, iv p2, iv p3, iv p4, iv p5, iv (ab0_ p5), iv z2_, iv z5_, iv z8_, iv z11_, rv b244, .unset, .unset, .unset] [.int 59, .int z5_] s₁ en := fun t k => pr375 t (by
        show Sx p e below T351 m 187 #[iv p1, iv p2, iv p3, iv p4, iv p5, iv (ab0_ p5), iv z2_, iv z5_, iv z8_, iv z11_, rv b244, .unset, .unset, .unset] [.int 59, .int z2_] _
        refine zn X351 Bd at_187 (XT.ii_eq_f (hc376 : ¬ (z2_ = (59 : Int32)))) ?_
        refine zi X351 Bd at_190 rfl ?_
        refine zc X351 Bd at_192 ?_
        refine zn X351 Bd at_193 (XT.ii_le_f ((by have e_ : (ab0_ p5) = (2 : Int32) := hc243; rw [e_]; first | done | decide) : (1 : Int32) < (ab0_ p5))) ?_
        refine zi X351 Bd at_196 rfl ?_
        refine zd X351 Bd at_198 ?_
        exact k)
       by_cases hc379 : z5_ = (59 : Int32)
       ·
        skip
        have pr380 : Pr p e below T351 m 236 #[iv p1, iv p2, iv p3, iv p4, iv p5, iv (ab0_ p5), iv z2_, iv z5_, iv z8_, iv z11_, rv b244, iv 1, .unset, .unset] [] s₁ en := fun t k => pr378 t (by
         show Sx p e below T351 m 200 #[iv p1, iv p2, iv p3, iv p4, iv p5, iv (ab0_ p5), iv z2_, iv z5_, iv z8_, iv z11_, rv b244, .unset, .unset, .unset] [.int 59, .int z5_] _
         refine zy (pc' := 229) X351 Bd at_200 (XT.ii_eq_t (hc379 : z5_ = (59 : Int32))) rfl ?_
         refine zc X351 Bd at_229 ?_
         refine zg (pc' := 234) X351 Bd at_230 rfl ?_
         refine zs X351 Bd at_234 (l' := #[iv p1, iv p2, iv p3, iv p4, iv p5, iv (ab0_ p5), iv z2_, iv z5_, iv z8_, iv z11_, rv b244, iv 1, .unset, .unset]) rfl ?_
         exact k)
        exact kont374 ⟨T351, _, T351.heap, (1 : Int32), (X351.mono (lE rfl) (lE rfl)), rfl, N351, (Keep.refl T351.heap []), (by rw [own_has, if_neg hc376, own_has, if_pos hc379] <;> rfl), (fun t k => pr380 t k)⟩
       ·
        skip
        have pr381 : Pr p e below T351 m 236 #[iv p1, iv p2, iv p3, iv p4, iv p5, iv (ab0_ p5), iv z2_, iv z5_, iv z8_, iv z11_, rv b244, iv 0, .unset, .unset] [] s₁ en := fun t k => pr378 t (by
         show Sx p e below T351 m 200 #[iv p1, iv p2, iv p3, iv p4, iv p5, iv (ab0_ p5), iv z2_, iv z5_, iv z8_, iv z11_, rv b244, .unset, .unset, .unset] [.int 59, .int z5_] _
         refine zn X351 Bd at_200 (XT.ii_eq_f (hc379 : ¬ (z5_ = (59 : Int32)))) ?_
         refine zi X351 Bd at_203 rfl ?_
         refine zc X351 Bd at_205 ?_
         refine zy (pc' := 216) X351 Bd at_206 (XT.ii_le_t ((by have e_ : (ab0_ p5) = (2 : Int32) := hc243; rw [e_]; first | done | decide) : ¬ ((2 : Int32) < (ab0_ p5)))) rfl ?_
         refine zi X351 Bd at_216 rfl ?_
         refine zc X351 Bd at_218 ?_
         refine zy (pc' := 233) X351 Bd at_219 (XT.ii_le_t ((by have e_ : (ab0_ p5) = (2 : Int32) := hc243; rw [e_]; first | done | decide) : ¬ ((3 : Int32) < (ab0_ p5)))) rfl ?_
         refine zc X351 Bd at_233 ?_
         refine zs X351 Bd at_234 (l' := #[iv p1, iv p2, iv p3, iv p4, iv p5, iv (ab0_ p5), iv z2_, iv z5_, iv z8_, iv z11_, rv b244, iv 0, .unset, .unset]) rfl ?_
         exact k)
        exact kont374 ⟨T351, _, T351.heap, (0 : Int32), (X351.mono (lE rfl) (lE rfl)), rfl, N351, (Keep.refl T351.heap []), (by rw [own_has, if_neg hc376, own_has, if_neg hc379, own_has] <;> rfl), (fun t k => pr381 t k)⟩
     ·
      obtain ⟨T374, L374, h374, s1_, X374, e374, N374, K374j, hp374_0, pr374⟩ := hA374
      have K382 := K366.trans K374j (fun x q => nomatch q)
      have C383 : CHv Z consts_1 s.vm h374 := CHv.keep K374j sf0 C367
      have R384 : CHr Z consts_1 s.vm h0 s.vm h374 := R372.trans (CHr.keep K374j sf0 C367)
      refine cps (A := ∃ T385 : State, ∃ L385 : List Loc, ∃ h385 : Heap, ∃ a1_ : Int32, Stand p l e room_1 (s.setVm s.vm) m #[.int p1, .int p2, .int p3, .int p4, .int p5] below meth c T385 L385 3 8 ∧ T385.heap = h385 ∧ Fr n0 L385 ∧ Keep h374 h385 [] ∧ (a1_ = own_has (38 : Int32) ([z2_, z5_] : List Int32)) ∧ Pr p e below T385 m 294 #[iv p1, iv p2, iv p3, iv p4, iv p5, iv (ab0_ p5), iv z2_, iv z5_, iv z8_, iv z11_, rv b244, iv s1_, iv a1_, .unset] [] s₁ en) (fun kont385 => ?_) (fun hA385 => ?_)
      ·
       skip
       have pr386 : Pr p e below T374 m 245 #[iv p1, iv p2, iv p3, iv p4, iv p5, iv (ab0_ p5), iv z2_, iv z5_, iv z8_, iv z11_, rv b244, iv s1_, .unset, .unset] [.int 38, .int z2_] s₁ en := fun t k => pr374 t (by
        show Sx p e below T374 m 236 #[iv p1, iv p2, iv p3, iv p4, iv p5, iv (ab0_ p5), iv z2_, iv z5_, iv z8_, iv z11_, rv b244, iv s1_, .unset, .unset] [] _
        refine zi X374 Bd at_236 rfl ?_
        refine zo X374 Bd at_238 (XT.i0_le_f ((by have e_ : (ab0_ p5) = (2 : Int32) := hc243; rw [e_]; first | done | decide) : (0 : Int32) < (ab0_ p5))) ?_
        refine zi X374 Bd at_241 rfl ?_
        refine zd X374 Bd at_243 ?_
        exact k)
       by_cases hc387 : z2_ = (38 : Int32)
       ·
        skip
        have pr388 : Pr p e below T374 m 294 #[iv p1, iv p2, iv p3, iv p4, iv p5, iv (ab0_ p5), iv z2_, iv z5_, iv z8_, iv z11_, rv b244, iv s1_, iv 1, .unset] [] s₁ en := fun t k => pr386 t (by
         show Sx p e below T374 m 245 #[iv p1, iv p2, iv p3, iv p4, iv p5, iv (ab0_ p5), iv z2_, iv z5_, iv z8_, iv z11_, rv b244, iv s1_, .unset, .unset] [.int 38, .int z2_] _
         refine zy (pc' := 287) X374 Bd at_245 (XT.ii_eq_t (hc387 : z2_ = (38 : Int32))) rfl ?_
         refine zc X374 Bd at_287 ?_
         refine zg (pc' := 292) X374 Bd at_288 rfl ?_
         refine zs X374 Bd at_292 (l' := #[iv p1, iv p2, iv p3, iv p4, iv p5, iv (ab0_ p5), iv z2_, iv z5_, iv z8_, iv z11_, rv b244, iv s1_, iv 1, .unset]) rfl ?_
         exact k)
        exact kont385 ⟨T374, _, h374, (1 : Int32), (X374.mono (lE rfl) (lE rfl)), e374, N374, (Keep.refl h374 []), (by rw [own_has, if_pos hc387] <;> rfl), (fun t k => pr388 t k)⟩
       ·
        skip
        have pr389 : Pr p e below T374 m 258 #[iv p1, iv p2, iv p3, iv p4, iv p5, iv (ab0_ p5), iv z2_, iv z5_, iv z8_, iv z11_, rv b244, iv s1_, .unset, .unset] [.int 38, .int z5_] s₁ en := fun t k => pr386 t (by
         show Sx p e below T374 m 245 #[iv p1, iv p2, iv p3, iv p4, iv p5, iv (ab0_ p5), iv z2_, iv z5_, iv z8_, iv z11_, rv b244, iv s1_, .unset, .unset] [.int 38, .int z2_] _
         refine zn X374 Bd at_245 (XT.ii_eq_f (hc387 : ¬ (z2_ = (38 : Int32)))) ?_
         refine zi X374 Bd at_248 rfl ?_
         refine zc X374 Bd at_250 ?_
         refine zn X374 Bd at_251 (XT.ii_le_f ((by have e_ : (ab0_ p5) = (2 : Int32) := hc243; rw [e_]; first | done | decide) : (1 : Int32) < (ab0_ p5))) ?_
         refine zi X374 Bd at_254 rfl ?_
         refine zd X374 Bd at_256 ?_
         exact k)
        by_cases hc390 : z5_ = (38 : Int32)
        ·
         skip
         have pr391 : Pr p e below T374 m 294 #[iv p1, iv p2, iv p3, iv p4, iv p5, iv (ab0_ p5), iv z2_, iv z5_, iv z8_, iv z11_, rv b244, iv s1_, iv 1, .unset] [] s₁ en := fun t k => pr389 t (by
          show Sx p e below T374 m 258 #[iv p1, iv p2, iv p3, iv p4, iv p5, iv (ab0_ p5), iv z2_, iv z5_, iv z8_, iv z11_, rv b244, iv s1_, .unset, .unset] [.int 38, .int z5_] _
          refine zy (pc' := 287) X374 Bd at_258 (XT.ii_eq_t (hc390 : z5_ = (38 : Int32))) rfl ?_
          refine zc X374 Bd at_287 ?_
          refine zg (pc' := 292) X374 Bd at_288 rfl ?_
          refine zs X374 Bd at_292 (l' := #[iv p1, iv p2, iv p3, iv p4, iv p5, iv (ab0_ p5), iv z2_, iv z5_, iv z8_, iv z11_, rv b244, iv s1_, iv 1, .unset]) rfl ?_
          exact k)
         exact kont385 ⟨T374, _, h374, (1 : Int32), (X374.mono (lE rfl) (lE rfl)), e374, N374, (Keep.refl h374 []), (by rw [own_has, if_neg hc387, own_has, if_pos hc390] <;> rfl), (fun t k => pr391 t k)⟩
        ·
         skip
         have pr392 : Pr p e below T374 m 294 #[iv p1, iv p2, iv p3, iv p4, iv p5, iv (ab0_ p5), iv z2_, iv z5_, iv z8_, iv z11_, rv b244, iv s1_, iv 0, .unset] [] s₁ en := fun t k => pr389 t (by
          show Sx p e below T374 m 258 #[iv p1, iv p2, iv p3, iv p4, iv p5, iv (ab0_ p5), iv z2_, iv z5_, iv z8_, iv z11_, rv b244, iv s1_, .unset, .unset] [.int 38, .int z5_] _
          refine zn X374 Bd at_258 (XT.ii_eq_f (hc390 : ¬ (z5_ = (38 : Int32)))) ?_
          refine zi X374 Bd at_261 rfl ?_
          refine zc X374 Bd at_263 ?_
          refine zy (pc' := 274) X374 Bd at_264 (XT.ii_le_t ((by have e_ : (ab0_ p5) = (2 : Int32) := hc243; rw [e_]; first | done | decide) : ¬ ((2 : Int32) < (ab0_ p5)))) rfl ?_
          refine zi X374 Bd at_274 rfl ?_
          refine zc X374 Bd at_276 ?_
          refine zy (pc' := 291) X374 Bd at_277 (XT.ii_le_t ((by have e_ : (ab0_ p5) = (2 : Int32) := hc243; rw [e_]; first | done | decide) : ¬ ((3 : Int32) < (ab0_ p5)))) rfl ?_
          refine zc X374 Bd at_291 ?_
          refine zs X374 Bd at_292 (l' := #[iv p1, iv p2, iv p3, iv p4, iv p5, iv (ab0_ p5), iv z2_, iv z5_, iv z8_, iv z11_, rv b244, iv s1_, iv 0, .unset]) rfl ?_
          exact k)
         exact kont385 ⟨T374, _, h374, (0 : Int32), (X374.mono (lE rfl) (lE rfl)), e374, N374, (Keep.refl h374 []), (by rw [own_has, if_neg hc387, own_has, if_neg hc390, own_has] <;> rfl), (fun t k => pr392 t k)⟩
      ·
       obtain ⟨T385, L385, h385, a1_, X385, e385, N385, K385j, hp385_0, pr385⟩ := hA385
       have K393 := K382.trans K385j (fun x q => nomatch q)
       have C394 : CHv Z consts_1 s.vm h385 := CHv.keep K385j sf0 C383
       have R395 : CHr Z consts_1 s.vm h0 s.vm h385 := R384.trans (CHr.keep K385j sf0 C383)
       refine cps (A := ∃ T396 : State, ∃ L396 : List Loc, ∃ h396 : Heap, ∃ ex_ : Int32, Stand p l e room_1 (s.setVm s.vm) m #[.int p1, .int p2, .int p3, .int p4, .int p5] below meth c T396 L396 3 8 ∧ T396.heap = h396 ∧ Fr n0 L396 ∧ Keep h385 h396 [] ∧ (ex_ = own_exp ([z2_, z5_] : List Int32)) ∧ Pr p e below T396 m 313 #[iv p1, iv p2, iv p3, iv p4, iv p5, iv (ab0_ p5), iv z2_, iv z5_, iv z8_, iv z11_, rv b244, iv s1_, iv a1_, iv ex_] [] s₁ en) (fun kont396 => ?_) (fun hA396 => ?_)
       ·
        skip
        have pr397 : Pr p e below T385 m 296 #[iv p1, iv p2, iv p3, iv p4, iv p5, iv (ab0_ p5), iv z2_, iv z5_, iv z8_, iv z11_, rv b244, iv s1_, iv a1_, .unset] [.int s1_] s₁ en := fun t k => pr385 t (by
         show Sx p e below T385 m 294 #[iv p1, iv p2, iv p3, iv p4, iv p5, iv (ab0_ p5), iv z2_, iv z5_, iv z8_, iv z11_, rv b244, iv s1_, iv a1_, .unset] [] _
         refine zi X385 Bd at_294 rfl ?_
         exact k)
        by_cases hc398 : s1_ = (0 : Int32)
        ·
         skip
         have pr399 : Pr p e below T385 m 313 #[iv p1, iv p2, iv p3, iv p4, iv p5, iv (ab0_ p5), iv z2_, iv z5_, iv z8_, iv z11_, rv b244, iv s1_, iv a1_, iv 38] [] s₁ en := fun t k => pr397 t (by
          show Sx p e below T385 m 296 #[iv p1, iv p2, iv p3, iv p4, iv p5, iv (ab0_ p5), iv z2_, iv z5_, iv z8_, iv z11_, rv b244, iv s1_, iv a1_, .unset] [.int s1_] _
          refine zp (pc' := 309) X385 Bd at_296 (XT.i0_eq_t (hc398 : s1_ = (0 : Int32))) rfl ?_
          refine zd X385 Bd at_309 ?_
          refine zs X385 Bd at_311 (l' := #[iv p1, iv p2, iv p3, iv p4, iv p5, iv (ab0_ p5), iv z2_, iv z5_, iv z8_, iv z11_, rv b244, iv s1_, iv a1_, iv 38]) rfl ?_
          exact k)
         exact kont396 ⟨T385, _, h385, (38 : Int32), (X385.mono (lE rfl) (lE rfl)), e385, N385, (Keep.refl h385 []), (by rw [own_exp, ← hp374_0, if_pos hc398] <;> rfl), (fun t k => pr399 t k)⟩
        ·
         skip
         have pr400 : Pr p e below T385 m 301 #[iv p1, iv p2, iv p3, iv p4, iv p5, iv (ab0_ p5), iv z2_, iv z5_, iv z8_, iv z11_, rv b244, iv s1_, iv a1_, .unset] [.int a1_] s₁ en := fun t k => pr397 t (by
          show Sx p e below T385 m 296 #[iv p1, iv p2, iv p3, iv p4, iv p5, iv (ab0_ p5), iv z2_, iv z5_, iv z8_, iv z11_, rv b244, iv s1_, iv a1_, .unset] [.int s1_] _
          refine zo X385 Bd at_296 (XT.i0_eq_f (hc398 : ¬ (s1_ = (0 : Int32)))) ?_
          refine zi X385 Bd at_299 rfl ?_
          exact k)
         by_cases hc401 : a1_ = (0 : Int32)
         ·
          skip
          have pr402 : Pr p e below T385 m 313 #[iv p1, iv p2, iv p3, iv p4, iv p5, iv (ab0_ p5), iv z2_, iv z5_, iv z8_, iv z11_, rv b244, iv s1_, iv a1_, iv 59] [] s₁ en := fun t k => pr400 t (by
           show Sx p e below T385 m 301 #[iv p1, iv p2, iv p3, iv p4, iv p5, iv (ab0_ p5), iv z2_, iv z5_, iv z8_, iv z11_, rv b244, iv s1_, iv a1_, .unset] [.int a1_] _
           refine zo X385 Bd at_301 (XT.i0_ne_f (hc401 : a1_ = (0 : Int32))) ?_
           refine zd X385 Bd at_304 ?_
           refine zg (pc' := 311) X385 Bd at_306 rfl ?_
           refine zs X385 Bd at_311 (l' := #[iv p1, iv p2, iv p3, iv p4, iv p5, iv (ab0_ p5), iv z2_, iv z5_, iv z8_, iv z11_, rv b244, iv s1_, iv a1_, iv 59]) rfl ?_
           exact k)
          exact kont396 ⟨T385, _, h385, (59 : Int32), (X385.mono (lE rfl) (lE rfl)), e385, N385, (Keep.refl h385 []), (by rw [own_exp, ← hp374_0, if_neg hc398, ← hp385_0, if_pos hc401] <;> rfl), (fun t k => pr402 t k)⟩
         ·
          skip
          have pr403 : Pr p e below T385 m 313 #[iv p1, iv p2, iv p3, iv p4, iv p5, iv (ab0_ p5), iv z2_, iv z5_, iv z8_, iv z11_, rv b244, iv s1_, iv a1_, iv 38] [] s₁ en := fun t k => pr400 t (by
           show Sx p e below T385 m 301 #[iv p1, iv p2, iv p3, iv p4, iv p5, iv (ab0_ p5), iv z2_, iv z5_, iv z8_, iv z11_, rv b244, iv s1_, iv a1_, .unset] [.int a1_] _
           refine zp (pc' := 309) X385 Bd at_301 (XT.i0_ne_t (hc401 : ¬ (a1_ = (0 : Int32)))) rfl ?_
           refine zd X385 Bd at_309 ?_
           refine zs X385 Bd at_311 (l' := #[iv p1, iv p2, iv p3, iv p4, iv p5, iv (ab0_ p5), iv z2_, iv z5_, iv z8_, iv z11_, rv b244, iv s1_, iv a1_, iv 38]) rfl ?_
           exact k)
          exact kont396 ⟨T385, _, h385, (38 : Int32), (X385.mono (lE rfl) (lE rfl)), e385, N385, (Keep.refl h385 []), (by rw [own_exp, ← hp374_0, if_neg hc398, ← hp385_0, if_neg hc401] <;> rfl), (fun t k => pr403 t k)⟩
       ·
        obtain ⟨T396, L396, h396, ex_, X396, e396, N396, K396j, hp396_0, pr396⟩ := hA396
        have K404 := K393.trans K396j (fun x q => nomatch q)
        have C405 : CHv Z consts_1 s.vm h396 := CHv.keep K396j sf0 C394
        have R406 : CHr Z consts_1 s.vm h0 s.vm h396 := R395.trans (CHr.keep K396j sf0 C394)
        have E408_ := E358_.keep K351q
        have E409_ := E408_.keep K374j
        have E410_ := E409_.keep K385j
        have E411_ := E410_.keep K396j
        have F412_ := C351q.keep K374j nin0
        have F413_ := F412_.keep K385j nin0
        have F414_ := F413_.keep K396j nin0
        have F415_ := V365_.keep K374j nin0
        have F416_ := F415_.keep K385j nin0
        have F417_ := F416_.keep K396j nin0
        have A418_ := A365_.keep K374j nin0
        have A419_ := A418_.keep K385j nin0
        have A420_ := A419_.keep K396j nin0
        have O421 := O355.keep K351q (allS g_b244 all0)
        have O422 := O421.keep K374j all0
        have O423 := O422.keep K385j all0
        have O424 := O423.keep K396j all0
        obtain ⟨_, T407, L407, X407, hQ407, st407⟩ := own_cS 3 8 [] 315 #[iv p1, iv p2, iv p3, iv p4, iv p5, iv (ab0_ p5), iv z2_, iv z5_, iv z8_, iv z11_, rv b244, iv s1_, iv a1_, iv ex_] X396 hx hZ hown (w28_ hw) (w29_ hw) (w30_ hw) (w31_ hw) (rm68 l Z a0 hw G1 b244 b365 z2_ z5_ c365_ h396 n0 O424 O2 P5 E411_ F414_ F417_ hp352 A420_) pd9 hml.symm (hb hby at_315) e396 rfl rfl rfl rfl (by decide)
        obtain ⟨rfl, N407q, e407q⟩ := hQ407
        have N407 := Fr.app N396 N407q
        have hp425 : ∀ c ∈ ([z2_, z5_] : List Int32), ¬ c < 0 ∧ ¬ (255 : Int32) < c := (List.forall_mem_cons.mpr ⟨(And.intro (own_ch0 w3) (own_maxle hc270 (mI 0 rfl))), (List.forall_mem_cons.mpr ⟨(And.intro (own_ch0 w6) (own_maxle hc270 (mI 1 rfl))), (fun _ q => nomatch q)⟩)⟩)
        have hk426' : _ ≤ h396.size := (Nat.le_trans (Nat.le_trans (Nat.le_trans (Nat.le_trans (Nat.le_trans (Nat.le_trans (Nat.le_trans (Nat.le_trans hk0 E244.1) E250.1) (Nat.le_of_eq W256.size.symm)) (Nat.le_of_eq W263.size.symm)) K351q.1) K374j.1) K385j.1) K396j.1)
        refine own_lvW X407 Bd.notSynchronized hS0 hk426' (v := (some (.int 1))) (fun h => by rw [Bd.returns] at h; cases h) e407q hh ⟨rfl, N407⟩ (R406.trans (CHv.at X407 hZ hEL C405)) (lE rfl) (lE rfl) (fun fs hr => pr396 _ (by
         show Sx p e below T396 m 313 #[iv p1, iv p2, iv p3, iv p4, iv p5, iv (ab0_ p5), iv z2_, iv z5_, iv z8_, iv z11_, rv b244, iv s1_, iv a1_, iv ex_] [] _
         refine za X396 Bd at_313 rfl rfl ?_
         refine st407 _ ?_
         refine zi X407 Bd at_318 rfl ?_
         refine zn X407 Bd at_320 (XT.ii_ne_f (((own_finL (z := ([z2_, z5_] : List Int32)) hp425 (lE rfl)).trans hp396_0.symm) : (own_sep ([((z2_).toInt8.toInt32), ((z5_).toInt8.toInt32)] : List Int32)) = ex_)) ?_
         refine zc X407 Bd at_323 ?_
         refine zg (pc' := 328) X407 Bd at_324 rfl ?_
         exact retN X407 hx (t := .boolean) Bd.returns (by simp) (hb hby at_328) hr))
   ·
    skip
    have pr427 : Pr p e below T10 m 113 #[iv p1, iv p2, iv p3, iv p4, iv p5, iv (ab0_ p5), iv z2_, iv z5_, iv z8_, iv z11_, .unset, .unset, .unset, .unset] [.int 3, (.int (ab0_ p5))] s₁ en := fun t k => pr242 t (by
     show Sx p e below T10 m 82 #[iv p1, iv p2, iv p3, iv p4, iv p5, iv (ab0_ p5), iv z2_, iv z5_, iv z8_, iv z11_, .unset, .unset, .unset, .unset] [.int 2, (.int (ab0_ p5))] _
     refine zy (pc' := 110) X10 Bd at_82 (XT.ii_ne_t (hc243 : ¬ ((ab0_ p5) = (2 : Int32)))) rfl ?_
     refine zi X10 Bd at_110 rfl ?_
     refine zc X10 Bd at_112 ?_
     exact k)
    by_cases hc428 : (ab0_ p5) = (3 : Int32)
    ·
     skip
     obtain ⟨T429, h429, X429, e429, E429, A429, D429, -, st429⟩ := newO X10 hx hZ hown (w6_ hw) (w7_ hw) (w8_ hw) e10q (g := (mkF m 116 #[iv p1, iv p2, iv p3, iv p4, iv p5, iv (ab0_ p5), iv z2_, iv z5_, iv z8_, iv z11_, .unset, .unset, .unset, .unset] [])) rfl (hb hby at_116) (lE rfl) (lE rfl)
     obtain ⟨b429, g429⟩ : ∃ z, z = h0.size := ⟨_, rfl⟩
     rw [← g429] at A429 D429 st429
     replace X429 : Stand p l e room_1 (s.setVm s.vm) m #[.int p1, .int p2, .int p3, .int p4, .int p5] below meth c T429 _ 1 4 := X429
     have K430 := (Keep.refl h0 []).ext E429
     have C431 : CHv Z consts_1 s.vm h429 := CHv.ext E429 hC0
     have R432 : CHr Z consts_1 s.vm h0 s.vm h429 := hR0.trans (CHr.ext E429 hC0)
     have F433_ : Fld Z h429 b429 "java/lang/String" "value" "[B" .null := D429 (Or.inr (w22_ hw)) (ty := (.array .byte)) (by decide)
     have F434_ : Fld Z h429 b429 "java/lang/String" "coder" "B" (.int 0) := D429 (Or.inr (w23_ hw)) (ty := .byte) (by decide)
     obtain ⟨T435, h435, c435, X435, e435, E435, A435, st435⟩ := newP (aty := .char) X429 hx hZ (w9_ hw) e429 (g := (mkF m 121 #[iv p1, iv p2, iv p3, iv p4, iv p5, iv (ab0_ p5), iv z2_, iv z5_, iv z8_, iv z11_, .unset, .unset, .unset, .unset] [.int 3, .ref b429, .ref b429])) rfl (hb hby at_121) rfl (by decide) (cap := 3) (by decide) (lE rfl) (lE rfl) (lE rfl)
     obtain ⟨b435, g435⟩ : ∃ z, z = h429.size := ⟨_, rfl⟩
     rw [← g435] at A435 st435
     replace X435 : Stand p l e room_1 (s.setVm s.vm) m #[.int p1, .int p2, .int p3, .int p4, .int p5] below meth c T435 _ 2 7 := X435
     have K436 := K430.ext E435
     have C437 : CHv Z consts_1 s.vm h435 := CHv.ext E435 C431
     have R438 : CHr Z consts_1 s.vm h0 s.vm h435 := R432.trans (CHr.ext E435 C431)
     have A439_ : Arv Z h435 b435 c435 .char (3 : Int32) [.int 0, .int 0, .int 0] (.int 0) := (Arv.new A435 (by decide)).pad (pad_rep [] (.int 0) 3)
     have av440 := A439_
     obtain ⟨cl440, Ar440, q440, S440, N440, H440, Gf440⟩ := av440
     have hin441 : ¬ ((0 : Int32) < 0 ∨ cl440.slots.size ≤ ((0 : Int32) : Int32).toNatClampNeg) := inb_of S440 (by decide)
     obtain ⟨T441, h441, X441, e441, W441, st441⟩ := stC X435 hx hZ e435 Ar440 (j := (0 : Int32)) hin441 (g := (mkF m 127 #[iv p1, iv p2, iv p3, iv p4, iv p5, iv (ab0_ p5), iv z2_, iv z5_, iv z8_, iv z11_, .unset, .unset, .unset, .unset] [.int z2_, .int 0, .ref b435, .ref b435, .ref b429, .ref b429])) rfl rfl (hb hby at_127)
     have O442 := X00.ext E429
     have g_b435 : n0 ≤ b435 := Nat.le_trans (Nat.le_trans (Nat.le_of_eq O442.1.symm) O442.2.1) (Nat.le_of_eq g435.symm)
     have N441_ := Fr.snoc X441 N10 g_b435
     have sz_b435 : h0.size ≤ b435 := Nat.le_trans K430.1 (Nat.le_of_eq g435.symm)
     have K443 := K436.wr W441 (Or.inr sz_b435)
     have C444 : CHv Z consts_1 s.vm h441 := CHv.wr W441 (Safe.arv hZ.alike A439_ (by simp)) C437
     have R445 : CHr Z consts_1 s.vm h0 s.vm h441 := R438.trans (CHr.wr W441 (Safe.arv hZ.alike A439_ (by simp)) C437)
     have A446_ : Arv Z h441 b435 c435 .char (3 : Int32) [.int z2_, .int 0, .int 0] (.int 0) := by have q := Arv.set (v := .int (nar .char z2_)) Ar440 q440 S440 N440 H440 Gf440 (fits_nar_char _) W441 0 (by decide) (lE rfl); rw [(w3 : nar .char z2_ = z2_)] at q; exact q
     have av447 := A446_
     obtain ⟨cl447, Ar447, q447, S447, N447, H447, Gf447⟩ := av447
     have hin448 : ¬ ((1 : Int32) < 0 ∨ cl447.slots.size ≤ ((1 : Int32) : Int32).toNatClampNeg) := inb_of S447 (by decide)
     obtain ⟨T448, h448, X448, e448, W448, st448⟩ := stC X441 hx hZ e441 Ar447 (j := (1 : Int32)) hin448 (g := (mkF m 132 #[iv p1, iv p2, iv p3, iv p4, iv p5, iv (ab0_ p5), iv z2_, iv z5_, iv z8_, iv z11_, .unset, .unset, .unset, .unset] [.int z5_, .int 1, .ref b435, .ref b435, .ref b429, .ref b429])) rfl rfl (hb hby at_132)
     have N448_ := Fr.snoc X448 N441_ g_b435
     have K449 := K443.wr W448 (Or.inr sz_b435)
     have C450 : CHv Z consts_1 s.vm h448 := CHv.wr W448 (Safe.arv hZ.alike A446_ (by simp)) C444
     have R451 : CHr Z consts_1 s.vm h0 s.vm h448 := R445.trans (CHr.wr W448 (Safe.arv hZ.alike A446_ (by simp)) C444)
     have A452_ : Arv Z h448 b435 c435 .char (3 : Int32) [.int z2_, .int z5_, .int 0] (.int 0) := by have q := Arv.set (v := .int (nar .char z5_)) Ar447 q447 S447 N447 H447 Gf447 (fits_nar_char _) W448 1 (by decide) (lE rfl); rw [(w6 : nar .char z5_ = z5_)] at q; exact q
     have av453 := A452_
     obtain ⟨cl453, Ar453, q453, S453, N453, H453, Gf453⟩ := av453
     have hin454 : ¬ ((2 : Int32) < 0 ∨ cl453.slots.size ≤ ((2 : Int32) : Int32).toNatClampNeg) := inb_of S453 (by decide)
     obtain ⟨T454, h454, X454, e454, W454, st454⟩ := stC X448 hx hZ e448 Ar453 (j := (2 : Int32)) hin454 (g := (mkF m 137 #[iv p1, iv p2, iv p3, iv p4, iv p5, iv (ab0_ p5), iv z2_, iv z5_, iv z8_, iv z11_, .unset, .unset, .unset, .unset] [.int z8_, .int 2, .ref b435, .ref b435, .ref b429, .ref b429])) rfl rfl (hb hby at_137)
     have N454_ := Fr.snoc X454 N448_ g_b435
     have K455 := K449.wr W454 (Or.inr sz_b435)
     have C456 : CHv Z consts_1 s.vm h454 := CHv.wr W454 (Safe.arv hZ.alike A452_ (by simp)) C450
     have R457 : CHr Z consts_1 s.vm h0 s.vm h454 := R451.trans (CHr.wr W454 (Safe.arv hZ.alike A452_ (by simp)) C450)
     have A458_ : Arv Z h454 b435 c435 .char (3 : Int32) [.int z2_, .int z5_, .int z8_] (.int 0) := by have q := Arv.set (v := .int (nar .char z8_)) Ar453 q453 S453 N453 H453 Gf453 (fits_nar_char _) W454 2 (by decide) (lE rfl); rw [(w9 : nar .char z8_ = z8_)] at q; exact q
     have pr460 : Pr p e below T454 m 138 #[iv p1, iv p2, iv p3, iv p4, iv p5, iv (ab0_ p5), iv z2_, iv z5_, iv z8_, iv z11_, .unset, .unset, .unset, .unset] [.ref b435, .ref b429, .ref b429] s₁ en := fun t k => pr427 t (by
      show Sx p e below T10 m 113 #[iv p1, iv p2, iv p3, iv p4, iv p5, iv (ab0_ p5), iv z2_, iv z5_, iv z8_, iv z11_, .unset, .unset, .unset, .unset] [.int 3, (.int (ab0_ p5))] _
      refine zn X10 Bd at_113 (XT.ii_ne_f (hc428 : (ab0_ p5) = (3 : Int32))) ?_
      refine st429 _ ?_
      refine XS.dup X429.here hx rfl (hb hby at_119) rfl rfl ?_
      refine zc X429 Bd at_120 ?_
      refine st435 _ ?_
      refine XS.dup X435.here hx rfl (hb hby at_123) rfl rfl ?_
      refine zc X435 Bd at_124 ?_
      refine zi X435 Bd at_125 rfl ?_
      refine st441 _ ?_
      refine XS.dup X441.here hx rfl (hb hby at_128) rfl rfl ?_
      refine zc X441 Bd at_129 ?_
      refine zi X441 Bd at_130 rfl ?_
      refine st448 _ ?_
      refine XS.dup X448.here hx rfl (hb hby at_133) rfl rfl ?_
      refine zc X448 Bd at_134 ?_
      refine zi X448 Bd at_135 rfl ?_
      refine st454 _ ?_
      exact k)
     by_cases hc461 : (255 : Int32) < (own_max ([z2_, z5_, z8_] : List Int32))
     ·
      skip
      have E463_ := A429.ext E435
      have E464_ := E463_.wr W441
      have E465_ := E464_.wr W448
      have E466_ := E465_.wr W454
      have F467_ := F434_.ext E435
      have F468_ := F467_.other W441 (Or.inl (Nat.ne_of_lt (Nat.lt_of_lt_of_le A429.lt (Nat.le_of_eq g435.symm))))
      have F469_ := F468_.other W448 (Or.inl (Nat.ne_of_lt (Nat.lt_of_lt_of_le A429.lt (Nat.le_of_eq g435.symm))))
      have F470_ := F469_.other W454 (Or.inl (Nat.ne_of_lt (Nat.lt_of_lt_of_le A429.lt (Nat.le_of_eq g435.symm))))
      have g_b429 : n0 ≤ b429 := Nat.le_trans (Nat.le_trans (Nat.le_of_eq X00.1.symm) X00.2.1) (Nat.le_of_eq g429.symm)
      have F471_ := F433_.ext E435
      have F472_ := F471_.other W441 (Or.inl (Nat.ne_of_lt (Nat.lt_of_lt_of_le A429.lt (Nat.le_of_eq g435.symm))))
      have F473_ := F472_.other W448 (Or.inl (Nat.ne_of_lt (Nat.lt_of_lt_of_le A429.lt (Nat.le_of_eq g435.symm))))
      have F474_ := F473_.other W454 (Or.inl (Nat.ne_of_lt (Nat.lt_of_lt_of_le A429.lt (Nat.le_of_eq g435.symm))))
      have O475 := O442.ext E435
      have O476 := O475.wr W441 g_b435
      have O477 := O476.wr W448 g_b435
      have O478 := O477.wr W454 g_b435
      obtain ⟨_, T462, L462, X462, hQ462, st462⟩ := own_cI 4 16 [.ref b429] 138 #[iv p1, iv p2, iv p3, iv p4, iv p5, iv (ab0_ p5), iv z2_, iv z5_, iv z8_, iv z11_, .unset, .unset, .unset, .unset] X454 hx hZ hown (w10_ hw) (w11_ hw) (w8_ hw) (w12_ hw) (rm80 l Z a0 hw G1 b429 b435 c435 z2_ z5_ z8_ h454 n0 O478 O2 P5 uS12 uS15 uS18 A458_ hc461 w3 w6 w9 E466_ F470_ g_b429 F474_) pd2 hml.symm (hb hby at_138) e454 rfl rfl rfl rfl rfl (by decide)
      obtain ⟨b479, c480_, rfl, N462q, K462q, w481, w482, w483, w484, w485⟩ := hQ462
      have N462 := Fr.app N454_ N462q
      have sz_b429 : h0.size ≤ b429 := (Nat.le_of_eq g429.symm)
      have K486 := K455.trans K462q (allS (Or.inr sz_b429) all0)
      have f488 : Safe Z consts_1 s.vm h429 b429 := Safe.ext E429 hC0 (Safe.new (Nat.le_of_eq g429.symm))
      have f489 : Safe Z consts_1 s.vm h435 b429 := Safe.ext E435 C431 f488
      have f490 : Safe Z consts_1 s.vm h441 b429 := Safe.wr W441 (Safe.arv hZ.alike A439_ (by simp)) C437 f489
      have f491 : Safe Z consts_1 s.vm h448 b429 := Safe.wr W448 (Safe.arv hZ.alike A446_ (by simp)) C444 f490
      have f492 : Safe Z consts_1 s.vm h454 b429 := Safe.wr W454 (Safe.arv hZ.alike A452_ (by simp)) C450 f491
      have C487 : CHv Z consts_1 s.vm T462.heap := CHv.keep K462q (sfS f492 sf0) C456
      have R493 : CHr Z consts_1 s.vm h0 s.vm T462.heap := R457.trans (CHr.keep K462q (sfS f492 sf0) C456)
      have pr494 : Pr p e below T462 m 178 #[iv p1, iv p2, iv p3, iv p4, iv p5, iv (ab0_ p5), iv z2_, iv z5_, iv z8_, iv z11_, rv b429, .unset, .unset, .unset] [] s₁ en := fun t k => pr460 t (by
       show Sx p e below T454 m 138 #[iv p1, iv p2, iv p3, iv p4, iv p5, iv (ab0_ p5), iv z2_, iv z5_, iv z8_, iv z11_, .unset, .unset, .unset, .unset] [.ref b435, .ref b429, .ref b429] _
       refine st462 _ ?_
       refine XS.astore X462.here hx rfl (hb hby at_141) rfl rfl (l' := #[iv p1, iv p2, iv p3, iv p4, iv p5, iv (ab0_ p5), iv z2_, iv z5_, iv z8_, iv z11_, rv b429, .unset, .unset, .unset]) rfl ?_
       refine zg (pc' := 178) X462 Bd at_143 rfl ?_
       exact k)
      refine cps (A := ∃ T495 : State, ∃ L495 : List Loc, ∃ h495 : Heap, ∃ s1_ : Int32, Stand p l e room_1 (s.setVm s.vm) m #[.int p1, .int p2, .int p3, .int p4, .int p5] below meth c T495 L495 4 16 ∧ T495.heap = h495 ∧ Fr n0 L495 ∧ Keep T462.heap h495 [] ∧ (s1_ = own_has (59 : Int32) ([z2_, z5_, z8_] : List Int32)) ∧ Pr p e below T495 m 236 #[iv p1, iv p2, iv p3, iv p4, iv p5, iv (ab0_ p5), iv z2_, iv z5_, iv z8_, iv z11_, rv b429, iv s1_, .unset, .unset] [] s₁ en) (fun kont495 => ?_) (fun hA495 => ?_)
      ·
       skip
       have pr496 : Pr p e below T462 m 187 #[iv p1, iv p2, iv p3, iv p4, iv p5, iv (ab0_ p5), iv z2_, iv z5_, iv z8_, iv z11_, rv b429, .unset, .unset, .unset] [.int 59, .int z2_] s₁ en := fun t k => pr494 t (by
        show Sx p e below T462 m 178 #[iv p1, iv p2, iv p3, iv p4, iv p5, iv (ab0_ p5), iv z2_, iv z5_, iv z8_, iv z11_, rv b429, .unset, .unset, .unset] [] _
        refine zi X462 Bd at_178 rfl ?_
        refine zo X462 Bd at_180 (XT.i0_le_f ((by have e_ : (ab0_ p5) = (3 : Int32) := hc428; rw [e_]; first | done | decide) : (0 : Int32) < (ab0_ p5))) ?_
        refine zi X462 Bd at_183 rfl ?_
        refine zd X462 Bd at_185 ?_
        exact k)
       by_cases hc497 : z2_ = (59 : Int32)
       ·
        skip
        have pr498 : Pr p e below T462 m 236 #[iv p1, iv p2, iv p3, iv p4, iv p5, iv (ab0_ p5), iv z2_, iv z5_, iv z8_, iv z11_, rv b429, iv 1, .unset, .unset] [] s₁ en := fun t k => pr496 t (by
         show Sx p e below T462 m 187 #[iv p1, iv p2, iv p3, iv p4, iv p5, iv (ab0_ p5), iv z2_, iv z5_, iv z8_, iv z11_, rv b429, .unset, .unset, .unset] [.int 59, .int z2_] _
         refine zy (pc' := 229) X462 Bd at_187 (XT.ii_eq_t (hc497 : z2_ = (59 : Int32))) rfl ?_
         refine zc X462 Bd at_229 ?_
         refine zg (pc' := 234) X462 Bd at_230 rfl ?_
         refine zs X462 Bd at_234 (l' := #[iv p1, iv p2, iv p3, iv p4, iv p5, iv (ab0_ p5), iv z2_, iv z5_, iv z8_, iv z11_, rv b429, iv 1, .unset, .unset]) rfl ?_
         exact k)
        exact kont495 ⟨T462, _, T462.heap, (1 : Int32), (X462.mono (lE rfl) (lE rfl)), rfl, N462, (Keep.refl T462.heap []), (by rw [own_has, if_pos hc497] <;> rfl), (fun t k => pr498 t k)⟩
       ·
        skip
        have pr499 : Pr p e below T462 m 200 #[iv p1, iv p2, iv p3, iv p4, iv p5, iv (ab0_ p5), iv z2_, iv z5_, iv z8_, iv z11_, rv b429, .unset, .unset, .unset] [.int 59, .int z5_] s₁ en := fun t k => pr496 t (by
         show Sx p e below T462 m 187 #[iv p1, iv p2, iv p3, iv p4, iv p5, iv (ab0_ p5), iv z2_, iv z5_, iv z8_, iv z11_, rv b429, .unset, .unset, .unset] [.int 59, .int z2_] _
         refine zn X462 Bd at_187 (XT.ii_eq_f (hc497 : ¬ (z2_ = (59 : Int32)))) ?_
         refine zi X462 Bd at_190 rfl ?_
         refine zc X462 Bd at_192 ?_
         refine zn X462 Bd at_193 (XT.ii_le_f ((by have e_ : (ab0_ p5) = (3 : Int32) := hc428; rw [e_]; first | done | decide) : (1 : Int32) < (ab0_ p5))) ?_
         refine zi X462 Bd at_196 rfl ?_
         refine zd X462 Bd at_198 ?_
         exact k)
        by_cases hc500 : z5_ = (59 : Int32)
        ·
         skip
         have pr501 : Pr p e below T462 m 236 #[iv p1, iv p2, iv p3, iv p4, iv p5, iv (ab0_ p5), iv z2_, iv z5_, iv z8_, iv z11_, rv b429, iv 1, .unset, .unset] [] s₁ en := fun t k => pr499 t (by
          show Sx p e below T462 m 200 #[iv p1, iv p2, iv p3, iv p4, iv p5, iv (ab0_ p5), iv z2_, iv z5_, iv z8_, iv z11_, rv b429, .unset, .unset, .unset] [.int 59, .int z5_] _
          refine zy (pc' := 229) X462 Bd at_200 (XT.ii_eq_t (hc500 : z5_ = (59 : Int32))) rfl ?_
          refine zc X462 Bd at_229 ?_
          refine zg (pc' := 234) X462 Bd at_230 rfl ?_
          refine zs X462 Bd at_234 (l' := #[iv p1, iv p2, iv p3, iv p4, iv p5, iv (ab0_ p5), iv z2_, iv z5_, iv z8_, iv z11_, rv b429, iv 1, .unset, .unset]) rfl ?_
          exact k)
         exact kont495 ⟨T462, _, T462.heap, (1 : Int32), (X462.mono (lE rfl) (lE rfl)), rfl, N462, (Keep.refl T462.heap []), (by rw [own_has, if_neg hc497, own_has, if_pos hc500] <;> rfl), (fun t k => pr501 t k)⟩
        ·
         skip
         have pr502 : Pr p e below T462 m 213 #[iv p1, iv p2, iv p3, iv p4, iv p5, iv (ab0_ p5), iv z2_, iv z5_, iv z8_, iv z11_, rv b429, .unset, .unset, .unset] [.int 59, .int z8_] s₁ en := fun t k => pr499 t (by
          show Sx p e below T462 m 200 #[iv p1, iv p2, iv p3, iv p4, iv p5, iv (ab0_ p5), iv z2_, iv z5_, iv z8_, iv z11_, rv b429, .unset, .unset, .unset] [.int 59, .int z5_] _
          refine zn X462 Bd at_200 (XT.ii_eq_f (hc500 : ¬ (z5_ = (59 : Int32)))) ?_
          refine zi X462 Bd at_203 rfl ?_
          refine zc X462 Bd at_205 ?_
          refine zn X462 Bd at_206 (XT.ii_le_f ((by have e_ : (ab0_ p5) = (3 : Int32) := hc428; rw [e_]; first | done | decide) : (2 : Int32) < (ab0_ p5))) ?_
          refine zi X462 Bd at_209 rfl ?_
          refine zd X462 Bd at_211 ?_
          exact k)
         by_cases hc503 : z8_ = (59 : Int32)
         ·
          skip
          have pr504 : Pr p e below T462 m 236 #[iv p1, iv p2, iv p3, iv p4, iv p5, iv (ab0_ p5), iv z2_, iv z5_, iv z8_, iv z11_, rv b429, iv 1, .unset, .unset] [] s₁ en := fun t k => pr502 t (by
           show Sx p e below T462 m 213 #[iv p1, iv p2, iv p3, iv p4, iv p5, iv (ab0_ p5), iv z2_, iv z5_, iv z8_, iv z11_, rv b429, .unset, .unset, .unset] [.int 59, .int z8_] _
           refine zy (pc' := 229) X462 Bd at_213 (XT.ii_eq_t (hc503 : z8_ = (59 : Int32))) rfl ?_
           refine zc X462 Bd at_229 ?_
           refine zg (pc' := 234) X462 Bd at_230 rfl ?_
           refine zs X462 Bd at_234 (l' := #[iv p1, iv p2, iv p3, iv p4, iv p5, iv (ab0_ p5), iv z2_, iv z5_, iv z8_, iv z11_, rv b429, iv 1, .unset, .unset]) rfl ?_
           exact k)
          exact kont495 ⟨T462, _, T462.heap, (1 : Int32), (X462.mono (lE rfl) (lE rfl)), rfl, N462, (Keep.refl T462.heap []), (by rw [own_has, if_neg hc497, own_has, if_neg hc500, own_has, if_pos hc503] <;> rfl), (fun t k => pr504 t k)⟩
         ·
          skip
          have pr505 : Pr p e below T462 m 236 #[iv p1, iv p2, iv p3, iv p4, iv p5, iv (ab0_ p5), iv z2_, iv z5_, iv z8_, iv z11_, rv b429, iv 0, .unset, .unset] [] s₁ en := fun t k => pr502 t (by
           show Sx p e below T462 m 213 #[iv p1, iv p2, iv p3, iv p4, iv p5, iv (ab0_ p5), iv z2_, iv z5_, iv z8_, iv z11_, rv b429, .unset, .unset, .unset] [.int 59, .int z8_] _
           refine zn X462 Bd at_213 (XT.ii_eq_f (hc503 : ¬ (z8_ = (59 : Int32)))) ?_
           refine zi X462 Bd at_216 rfl ?_
           refine zc X462 Bd at_218 ?_
           refine zy (pc' := 233) X462 Bd at_219 (XT.ii_le_t ((by have e_ : (ab0_ p5) = (3 : Int32) := hc428; rw [e_]; first | done | decide) : ¬ ((3 : Int32) < (ab0_ p5)))) rfl ?_
           refine zc X462 Bd at_233 ?_
           refine zs X462 Bd at_234 (l' := #[iv p1, iv p2, iv p3, iv p4, iv p5, iv (ab0_ p5), iv z2_, iv z5_, iv z8_, iv z11_, rv b429, iv 0, .unset, .unset]) rfl ?_
           exact k)
          exact kont495 ⟨T462, _, T462.heap, (0 : Int32), (X462.mono (lE rfl) (lE rfl)), rfl, N462, (Keep.refl T462.heap []), (by rw [own_has, if_neg hc497, own_has, if_neg hc500, own_has, if_neg hc503, own_has] <;> rfl), (fun t k => pr505 t k)⟩
      ·
       obtain ⟨T495, L495, h495, s1_, X495, e495, N495, K495j, hp495_0, pr495⟩ := hA495
       have K506 := K486.trans K495j (fun x q => nomatch q)
       have C507 : CHv Z consts_1 s.vm h495 := CHv.keep K495j sf0 C487
       have R508 : CHr Z consts_1 s.vm h0 s.vm h495 := R493.trans (CHr.keep K495j sf0 C487)
       refine cps (A := ∃ T509 : State, ∃ L509 : List Loc, ∃ h509 : Heap, ∃ a1_ : Int32, Stand p l e room_1 (s.setVm s.vm) m #[.int p1, .int p2, .int p3, .int p4, .int p5] below meth c T509 L509 4 16 ∧ T509.heap = h509 ∧ Fr n0 L509 ∧ Keep h495 h509 [] ∧ (a1_ = own_has (38 : Int32) ([z2_, z5_, z8_] : List Int32)) ∧ Pr p e below T509 m 294 #[iv p1, iv p2, iv p3, iv p4, iv p5, iv (ab0_ p5), iv z2_, iv z5_, iv z8_, iv z11_, rv b429, iv s1_, iv a1_, .unset] [] s₁ en) (fun kont509 => ?_) (fun hA509 => ?_)
       ·
        skip
        have pr510 : Pr p e below T495 m 245 #[iv p1, iv p2, iv p3, iv p4, iv p5, iv (ab0_ p5), iv z2_, iv z5_, iv z8_, iv z11_, rv b429, iv s1_, .unset, .unset] [.int 38, .int z2_] s₁ en := fun t k => pr495 t (by
         show Sx p e below T495 m 236 #[iv p1, iv p2, iv p3, iv p4, iv p5, iv (ab0_ p5), iv z2_, iv z5_, iv z8_, iv z11_, rv b429, iv s1_, .unset, .unset] [] _
         refine zi X495 Bd at_236 rfl ?_
         refine zo X495 Bd at_238 (XT.i0_le_f ((by have e_ : (ab0_ p5) = (3 : Int32) := hc428; rw [e_]; first | done | decide) : (0 : Int32) < (ab0_ p5))) ?_
         refine zi X495 Bd at_241 rfl ?_
         refine zd X495 Bd at_243 ?_
         exact k)
        by_cases hc511 : z2_ = (38 : Int32)
        ·
         skip
         have pr512 : Pr p e below T495 m 294 #[iv p1, iv p2, iv p3, iv p4, iv p5, iv (ab0_ p5), iv z2_, iv z5_, iv z8_, iv z11_, rv b429, iv s1_, iv 1, .unset] [] s₁ en := fun t k => pr510 t (by
          show Sx p e below T495 m 245 #[iv p1, iv p2, iv p3, iv p4, iv p5, iv (ab0_ p5), iv z2_, iv z5_, iv z8_, iv z11_, rv b429, iv s1_, .unset, .unset] [.int 38, .int z2_] _
          refine zy (pc' := 287) X495 Bd at_245 (XT.ii_eq_t (hc511 : z2_ = (38 : Int32))) rfl ?_
          refine zc X495 Bd at_287 ?_
          refine zg (pc' := 292) X495 Bd at_288 rfl ?_
          refine zs X495 Bd at_292 (l' := #[iv p1, iv p2, iv p3, iv p4, iv p5, iv (ab0_ p5), iv z2_, iv z5_, iv z8_, iv z11_, rv b429, iv s1_, iv 1, .unset]) rfl ?_
          exact k)
         exact kont509 ⟨T495, _, h495, (1 : Int32), (X495.mono (lE rfl) (lE rfl)), e495, N495, (Keep.refl h495 []), (by rw [own_has, if_pos hc511] <;> rfl), (fun t k => pr512 t k)⟩
        ·
         skip
         have pr513 : Pr p e below T495 m 258 #[iv p1, iv p2, iv p3, iv p4, iv p5, iv (ab0_ p5), iv z2_, iv z5_, iv z8_, iv z11_, rv b429, iv s1_, .unset, .unset] [.int 38, .int z5_] s₁ en := fun t k => pr510 t (by
          show Sx p e below T495 m 245 #[iv p1, iv p2, iv p3, iv p4, iv p5, iv (ab0_ p5), iv z2_, iv z5_, iv z8_, iv z11_, rv b429, iv s1_, .unset, .unset] [.int 38, .int z2_] _
          refine zn X495 Bd at_245 (XT.ii_eq_f (hc511 : ¬ (z2_ = (38 : Int32)))) ?_
          refine zi X495 Bd at_248 rfl ?_
          refine zc X495 Bd at_250 ?_
          refine zn X495 Bd at_251 (XT.ii_le_f ((by have e_ : (ab0_ p5) = (3 : Int32) := hc428; rw [e_]; first | done | decide) : (1 : Int32) < (ab0_ p5))) ?_
          refine zi X495 Bd at_254 rfl ?_
          refine zd X495 Bd at_256 ?_
          exact k)
         by_cases hc514 : z5_ = (38 : Int32)
         ·
          skip
          have pr515 : Pr p e below T495 m 294 #[iv p1, iv p2, iv p3, iv p4, iv p5, iv (ab0_ p5), iv z2_, iv z5_, iv z8_, iv z11_, rv b429, iv s1_, iv 1, .unset] [] s₁ en := fun t k => pr513 t (by
           show Sx p e below T495 m 258 #[iv p1, iv p2, iv p3, iv p4, iv p5, iv (ab0_ p5), iv z2_, iv z5_, iv z8_, iv z11_, rv b429, iv s1_, .unset, .unset] [.int 38, .int z5_] _
           refine zy (pc' := 287) X495 Bd at_258 (XT.ii_eq_t (hc514 : z5_ = (38 : Int32))) rfl ?_
           refine zc X495 Bd at_287 ?_
           refine zg (pc' := 292) X495 Bd at_288 rfl ?_
           refine zs X495 Bd at_292 (l' := #[iv p1, iv p2, iv p3, iv p4, iv p5, iv (ab0_ p5), iv z2_, iv z5_, iv z8_, iv z11_, rv b429, iv s1_, iv 1, .unset]) rfl ?_
           exact k)
          exact kont509 ⟨T495, _, h495, (1 : Int32), (X495.mono (lE rfl) (lE rfl)), e495, N495, (Keep.refl h495 []), (by rw [own_has, if_neg hc511, own_has, if_pos hc514] <;> rfl), (fun t k => pr515 t k)⟩
         ·
          skip
          have pr516 : Pr p e below T495 m 271 #[iv p1, iv p2, iv p3, iv p4, iv p5, iv (ab0_ p5), iv z2_, iv z5_, iv z8_, iv z11_, rv b429, iv s1_, .unset, .unset] [.int 38, .int z8_] s₁ en := fun t k => pr513 t (by
           show Sx p e below T495 m 258 #[iv p1, iv p2, iv p3, iv p4, iv p5, iv (ab0_ p5), iv z2_, iv z5_, iv z8_, iv z11_, rv b429, iv s1_, .unset, .unset] [.int 38, .int z5_] _
           refine zn X495 Bd at_258 (XT.ii_eq_f (hc514 : ¬ (z5_ = (38 : Int32)))) ?_
           refine zi X495 Bd at_261 rfl ?_
           refine zc X495 Bd at_263 ?_
           refine zn X495 Bd at_264 (XT.ii_le_f ((by have e_ : (ab0_ p5) = (3 : Int32) := hc428; rw [e_]; first | done | decide) : (2 : Int32) < (ab0_ p5))) ?_
           refine zi X495 Bd at_267 rfl ?_
           refine zd X495 Bd at_269 ?_
           exact k)
          by_cases hc517 : z8_ = (38 : Int32)
          ·
           skip
           have pr518 : Pr p e below T495 m 294 #[iv p1, iv p2, iv p3, iv p4, iv p5, iv (ab0_ p5), iv z2_, iv z5_, iv z8_, iv z11_, rv b429, iv s1_, iv 1, .unset] [] s₁ en := fun t k => pr516 t (by
            show Sx p e below T495 m 271 #[iv p1, iv p2, iv p3, iv p4, iv p5, iv (ab0_ p5), iv z2_, iv z5_, iv z8_, iv z11_, rv b429, iv s1_, .unset, .unset] [.int 38, .int z8_] _
            refine zy (pc' := 287) X495 Bd at_271 (XT.ii_eq_t (hc517 : z8_ = (38 : Int32))) rfl ?_
            refine zc X495 Bd at_287 ?_
            refine zg (pc' := 292) X495 Bd at_288 rfl ?_
            refine zs X495 Bd at_292 (l' := #[iv p1, iv p2, iv p3, iv p4, iv p5, iv (ab0_ p5), iv z2_, iv z5_, iv z8_, iv z11_, rv b429, iv s1_, iv 1, .unset]) rfl ?_
            exact k)
           exact kont509 ⟨T495, _, h495, (1 : Int32), (X495.mono (lE rfl) (lE rfl)), e495, N495, (Keep.refl h495 []), (by rw [own_has, if_neg hc511, own_has, if_neg hc514, own_has, if_pos hc517] <;> rfl), (fun t k => pr518 t k)⟩
          ·
           skip
           have pr519 : Pr p e below T495 m 294 #[iv p1, iv p2, iv p3, iv p4, iv p5, iv (ab0_ p5), iv z2_, iv z5_, iv z8_, iv z11_, rv b429, iv s1_, iv 0, .unset] [] s₁ en := fun t k => pr516 t (by
            show Sx p e below T495 m 271 #[iv p1, iv p2, iv p3, iv p4, iv p5, iv (ab0_ p5), iv z2_, iv z5_, iv z8_, iv z11_, rv b429, iv s1_, .unset, .unset] [.int 38, .int z8_] _
            refine zn X495 Bd at_271 (XT.ii_eq_f (hc517 : ¬ (z8_ = (38 : Int32)))) ?_
            refine zi X495 Bd at_274 rfl ?_
            refine zc X495 Bd at_276 ?_
            refine zy (pc' := 291) X495 Bd at_277 (XT.ii_le_t ((by have e_ : (ab0_ p5) = (3 : Int32) := hc428; rw [e_]; first | done | decide) : ¬ ((3 : Int32) < (ab0_ p5)))) rfl ?_
            refine zc X495 Bd at_291 ?_
            refine zs X495 Bd at_292 (l' := #[iv p1, iv p2, iv p3, iv p4, iv p5, iv (ab0_ p5), iv z2_, iv z5_, iv z8_, iv z11_, rv b429, iv s1_, iv 0, .unset]) rfl ?_
            exact k)
           exact kont509 ⟨T495, _, h495, (0 : Int32), (X495.mono (lE rfl) (lE rfl)), e495, N495, (Keep.refl h495 []), (by rw [own_has, if_neg hc511, own_has, if_neg hc514, own_has, if_neg hc517, own_has] <;> rfl), (fun t k => pr519 t k)⟩
       ·
        obtain ⟨T509, L509, h509, a1_, X509, e509, N509, K509j, hp509_0, pr509⟩ := hA509
        have K520 := K506.trans K509j (fun x q => nomatch q)
        have C521 : CHv Z consts_1 s.vm h509 := CHv.keep K509j sf0 C507
        have R522 : CHr Z consts_1 s.vm h0 s.vm h509 := R508.trans (CHr.keep K509j sf0 C507)
        refine cps (A := ∃ T523 : State, ∃ L523 : List Loc, ∃ h523 : Heap, ∃ ex_ : Int32, Stand p l e room_1 (s.setVm s.vm) m #[.int p1, .int p2, .int p3, .int p4, .int p5] below meth c T523 L523 4 16 ∧ T523.heap = h523 ∧ Fr n0 L523 ∧ Keep h509 h523 [] ∧ (ex_ = own_exp ([z2_, z5_, z8_] : List Int32)) ∧ Pr p e below T523 m 313 #[iv p1, iv p2, iv p3, iv p4, iv p5, iv (ab0_ p5), iv z2_, iv z5_, iv z8_, iv z11_, rv b429, iv s1_, iv a1_, iv ex_] [] s₁ en) (fun kont523 => ?_) (fun hA523 => ?_)
        ·
         skip
         have pr524 : Pr p e below T509 m 296 #[iv p1, iv p2, iv p3, iv p4, iv p5, iv (ab0_ p5), iv z2_, iv z5_, iv z8_, iv z11_, rv b429, iv s1_, iv a1_, .unset] [.int s1_] s₁ en := fun t k => pr509 t (by
          show Sx p e below T509 m 294 #[iv p1, iv p2, iv p3, iv p4, iv p5, iv (ab0_ p5), iv z2_, iv z5_, iv z8_, iv z11_, rv b429, iv s1_, iv a1_, .unset] [] _
          refine zi X509 Bd at_294 rfl ?_
          exact k)
         by_cases hc525 : s1_ = (0 : Int32)
         ·
          skip
          have pr526 : Pr p e below T509 m 313 #[iv p1, iv p2, iv p3, iv p4, iv p5, iv (ab0_ p5), iv z2_, iv z5_, iv z8_, iv z11_, rv b429, iv s1_, iv a1_, iv 38] [] s₁ en := fun t k => pr524 t (by
           show Sx p e below T509 m 296 #[iv p1, iv p2, iv p3, iv p4, iv p5, iv (ab0_ p5), iv z2_, iv z5_, iv z8_, iv z11_, rv b429, iv s1_, iv a1_, .unset] [.int s1_] _
           refine zp (pc' := 309) X509 Bd at_296 (XT.i0_eq_t (hc525 : s1_ = (0 : Int32))) rfl ?_
           refine zd X509 Bd at_309 ?_
           refine zs X509 Bd at_311 (l' := #[iv p1, iv p2, iv p3, iv p4, iv p5, iv (ab0_ p5), iv z2_, iv z5_, iv z8_, iv z11_, rv b429, iv s1_, iv a1_, iv 38]) rfl ?_
           exact k)
          exact kont523 ⟨T509, _, h509, (38 : Int32), (X509.mono (lE rfl) (lE rfl)), e509, N509, (Keep.refl h509 []), (by rw [own_exp, ← hp495_0, if_pos hc525] <;> rfl), (fun t k => pr526 t k)⟩
         ·
          skip
          have pr527 : Pr p e below T509 m 301 #[iv p1, iv p2, iv p3, iv p4, iv p5, iv (ab0_ p5), iv z2_, iv z5_, iv z8_, iv z11_, rv b429, iv s1_, iv a1_, .unset] [.int a1_] s₁ en := fun t k => pr524 t (by
           show Sx p e below T509 m 296 #[iv p1, iv p2, iv p3, iv p4, iv p5, iv (ab0_ p5), iv z2_, iv z5_, iv z8_, iv z11_, rv b429, iv s1_, iv a1_, .unset] [.int s1_] _
           refine zo X509 Bd at_296 (XT.i0_eq_f (hc525 : ¬ (s1_ = (0 : Int32)))) ?_
           refine zi X509 Bd at_299 rfl ?_
           exact k)
          by_cases hc528 : a1_ = (0 : Int32)
          ·
           skip
           have pr529 : Pr p e below T509 m 313 #[iv p1, iv p2, iv p3, iv p4, iv p5, iv (ab0_ p5), iv z2_, iv z5_, iv z8_, iv z11_, rv b429, iv s1_, iv a1_, iv 59] [] s₁ en := fun t k => pr527 t (by
            show Sx p e below T509 m 301 #[iv p1, iv p2, iv p3, iv p4, iv p5, iv (ab0_ p5), iv z2_, iv z5_, iv z8_, iv z11_, rv b429, iv s1_, iv a1_, .unset] [.int a1_] _
            refine zo X509 Bd at_301 (XT.i0_ne_f (hc528 : a1_ = (0 : Int32))) ?_
            refine zd X509 Bd at_304 ?_
            refine zg (pc' := 311) X509 Bd at_306 rfl ?_
            refine zs X509 Bd at_311 (l' := #[iv p1, iv p2, iv p3, iv p4, iv p5, iv (ab0_ p5), iv z2_, iv z5_, iv z8_, iv z11_, rv b429, iv s1_, iv a1_, iv 59]) rfl ?_
            exact k)
           exact kont523 ⟨T509, _, h509, (59 : Int32), (X509.mono (lE rfl) (lE rfl)), e509, N509, (Keep.refl h509 []), (by rw [own_exp, ← hp495_0, if_neg hc525, ← hp509_0, if_pos hc528] <;> rfl), (fun t k => pr529 t k)⟩
          ·
           skip
           have pr530 : Pr p e below T509 m 313 #[iv p1, iv p2, iv p3, iv p4, iv p5, iv (ab0_ p5), iv z2_, iv z5_, iv z8_, iv z11_, rv b429, iv s1_, iv a1_, iv 38] [] s₁ en := fun t k => pr527 t (by
            show Sx p e below T509 m 301 #[iv p1, iv p2, iv p3, iv p4, iv p5, iv (ab0_ p5), iv z2_, iv z5_, iv z8_, iv z11_, rv b429, iv s1_, iv a1_, .unset] [.int a1_] _
            refine zp (pc' := 309) X509 Bd at_301 (XT.i0_ne_t (hc528 : ¬ (a1_ = (0 : Int32)))) rfl ?_
            refine zd X509 Bd at_309 ?_
            refine zs X509 Bd at_311 (l' := #[iv p1, iv p2, iv p3, iv p4, iv p5, iv (ab0_ p5), iv z2_, iv z5_, iv z8_, iv z11_, rv b429, iv s1_, iv a1_, iv 38]) rfl ?_
            exact k)
           exact kont523 ⟨T509, _, h509, (38 : Int32), (X509.mono (lE rfl) (lE rfl)), e509, N509, (Keep.refl h509 []), (by rw [own_exp, ← hp495_0, if_neg hc525, ← hp509_0, if_neg hc528] <;> rfl), (fun t k => pr530 t k)⟩
        ·
         obtain ⟨T523, L523, h523, ex_, X523, e523, N523, K523j, hp523_0, pr523⟩ := hA523
         have K531 := K520.trans K523j (fun x q => nomatch q)
         have C532 : CHv Z consts_1 s.vm h523 := CHv.keep K523j sf0 C521
         have R533 : CHr Z consts_1 s.vm h0 s.vm h523 := R522.trans (CHr.keep K523j sf0 C521)
         have E535_ := E466_.keep K462q
         have E536_ := E535_.keep K495j
         have E537_ := E536_.keep K509j
         have E538_ := E537_.keep K523j
         have F539_ := w483.keep K495j nin0
         have F540_ := F539_.keep K509j nin0
         have F541_ := F540_.keep K523j nin0
         have F542_ := w484.keep K495j nin0
         have F543_ := F542_.keep K509j nin0
         have F544_ := F543_.keep K523j nin0
         have A545_ := w485.keep K495j nin0
         have A546_ := A545_.keep K509j nin0
         have A547_ := A546_.keep K523j nin0
         have O548 := O478.keep K462q (allS g_b429 all0)
         have O549 := O548.keep K495j all0
         have O550 := O549.keep K509j all0
         have O551 := O550.keep K523j all0
         obtain ⟨_, T534, L534, X534, hQ534, st534⟩ := own_cS 4 16 [] 315 #[iv p1, iv p2, iv p3, iv p4, iv p5, iv (ab0_ p5), iv z2_, iv z5_, iv z8_, iv z11_, rv b429, iv s1_, iv a1_, iv ex_] X523 hx hZ hown (w28_ hw) (w29_ hw) (w30_ hw) (w31_ hw) (rm92 l Z a0 hw G1 G3 b429 b479 c480_ ((((z2_ >>> ((0 : Int32) &&& 31)))).toInt8.toInt32) ((((z2_ >>> ((8 : Int32) &&& 31)))).toInt8.toInt32) ((((z5_ >>> ((0 : Int32) &&& 31)))).toInt8.toInt32) ((((z5_ >>> ((8 : Int32) &&& 31)))).toInt8.toInt32) ((((z8_ >>> ((0 : Int32) &&& 31)))).toInt8.toInt32) ((((z8_ >>> ((8 : Int32) &&& 31)))).toInt8.toInt32) h523 n0 O551 O2 P5 O4 rG3 uS12 uS15 uS18 E538_ F541_ F544_ A547_) pd9 hml.symm (hb hby at_315) e523 rfl rfl rfl rfl (by decide)
         obtain ⟨rfl, N534q, e534q⟩ := hQ534
         have N534 := Fr.app N523 N534q
         have hk552' : _ ≤ h523.size := (Nat.le_trans (Nat.le_trans (Nat.le_trans (Nat.le_trans (Nat.le_trans (Nat.le_trans (Nat.le_trans (Nat.le_trans (Nat.le_trans hk0 E429.1) E435.1) (Nat.le_of_eq W441.size.symm)) (Nat.le_of_eq W448.size.symm)) (Nat.le_of_eq W454.size.symm)) K462q.1) K495j.1) K509j.1) K523j.1)
         refine own_lvW X534 Bd.notSynchronized hS0 hk552' (v := (some (.int 1))) (fun h => by rw [Bd.returns] at h; cases h) e534q hh ⟨rfl, N534⟩ (R533.trans (CHv.at X534 hZ hEL C532)) (lE rfl) (lE rfl) (fun fs hr => pr523 _ (by
          show Sx p e below T523 m 313 #[iv p1, iv p2, iv p3, iv p4, iv p5, iv (ab0_ p5), iv z2_, iv z5_, iv z8_, iv z11_, rv b429, iv s1_, iv a1_, iv ex_] [] _
          refine za X523 Bd at_313 rfl rfl ?_
          refine st534 _ ?_
          refine zi X534 Bd at_318 rfl ?_
          refine zn X534 Bd at_320 (XT.ii_ne_f (((own_fin16 (l := (own_L3 ((((z2_ >>> ((0 : Int32) &&& 31)))).toInt8.toInt32) ((((z2_ >>> ((8 : Int32) &&& 31)))).toInt8.toInt32) ((((z5_ >>> ((0 : Int32) &&& 31)))).toInt8.toInt32) ((((z5_ >>> ((8 : Int32) &&& 31)))).toInt8.toInt32) ((((z8_ >>> ((0 : Int32) &&& 31)))).toInt8.toInt32) ((((z8_ >>> ((8 : Int32) &&& 31)))).toInt8.toInt32))) (z := ([z2_, z5_, z8_] : List Int32)) (own_cons (own_get16 w3) (own_cons (own_get16 w6) (own_cons (own_get16 w9) rfl))) (lE rfl)).trans hp523_0.symm) : (own_sep (own_L3 ((((z2_ >>> ((0 : Int32) &&& 31)))).toInt8.toInt32) ((((z2_ >>> ((8 : Int32) &&& 31)))).toInt8.toInt32) ((((z5_ >>> ((0 : Int32) &&& 31)))).toInt8.toInt32) ((((z5_ >>> ((8 : Int32) &&& 31)))).toInt8.toInt32) ((((z8_ >>> ((0 : Int32) &&& 31)))).toInt8.toInt32) ((((z8_ >>> ((8 : Int32) &&& 31)))).toInt8.toInt32))) = ex_)) ?_
          refine zc X534 Bd at_323 ?_
          refine zg (pc' := 328) X534 Bd at_324 rfl ?_
          exact retN X534 hx (t := .boolean) Bd.returns (by simp) (hb hby at_328) hr))
     ·
      skip
      have hp554 : ∀ c ∈ ([z2_, z5_, z8_] : List Int32), ¬ c < 0 ∧ ¬ (255 : Int32) < c := (List.forall_mem_cons.mpr ⟨(And.intro (own_ch0 w3) (own_maxle hc461 (mI 0 rfl))), (List.forall_mem_cons.mpr ⟨(And.intro (own_ch0 w6) (own_maxle hc461 (mI 1 rfl))), (List.forall_mem_cons.mpr ⟨(And.intro (own_ch0 w9) (own_maxle hc461 (mI 2 rfl))), (fun _ q => nomatch q)⟩)⟩)⟩)
      have g_b429 : n0 ≤ b429 := Nat.le_trans (Nat.le_trans (Nat.le_of_eq X00.1.symm) X00.2.1) (Nat.le_of_eq g429.symm)
      have O555 := O442.ext E435
      have O556 := O555.wr W441 g_b435
      have O557 := O556.wr W448 g_b435
      have O558 := O557.wr W454 g_b435
      have E559_ := A429.ext E435
      have E560_ := E559_.wr W441
      have E561_ := E560_.wr W448
      have E562_ := E561_.wr W454
      have F563_ := F433_.ext E435
      have F564_ := F563_.other W441 (Or.inl (Nat.ne_of_lt (Nat.lt_of_lt_of_le A429.lt (Nat.le_of_eq g435.symm))))
      have F565_ := F564_.other W448 (Or.inl (Nat.ne_of_lt (Nat.lt_of_lt_of_le A429.lt (Nat.le_of_eq g435.symm))))
      have F566_ := F565_.other W454 (Or.inl (Nat.ne_of_lt (Nat.lt_of_lt_of_le A429.lt (Nat.le_of_eq g435.symm))))
      have F567_ := F434_.ext E435
      have F568_ := F567_.other W441 (Or.inl (Nat.ne_of_lt (Nat.lt_of_lt_of_le A429.lt (Nat.le_of_eq g435.symm))))
      have F569_ := F568_.other W448 (Or.inl (Nat.ne_of_lt (Nat.lt_of_lt_of_le A429.lt (Nat.le_of_eq g435.symm))))
      have F570_ := F569_.other W454 (Or.inl (Nat.ne_of_lt (Nat.lt_of_lt_of_le A429.lt (Nat.le_of_eq g435.symm))))
      obtain ⟨_, T553, L553, X553, hQ553, st553⟩ := own_cb 2 7 1 3 3 10 (X454.specialBack hx (y := Y2_) rfl hown (mvT hZ (w10_ hw)) (mvT hZ (w11_ hw)) (mvT hZ (w12_ hw)) (by decide) (StrChars.Road.backV (s := s.setVm s.vm) (W := 1) hZ (own_ws hw) (kI := 4) (w7_ hw) (cs := ([z2_, z5_, z8_] : List Int32)) (bs := ([z2_, z5_, z8_] : List Int32).map (fun c => c.toInt8.toInt32)) (n := 3) g_b429 (Nat.le_trans (Nat.le_of_eq O558.1.symm) O558.2.1) E562_ F566_ F570_ A458_ (O2.ext O558.2) P5 rfl rfl (lE rfl) (lE rfl) hp554 rfl (lE rfl) (lE rfl)) (g := (mkF m 138 #[iv p1, iv p2, iv p3, iv p4, iv p5, iv (ab0_ p5), iv z2_, iv z5_, iv z8_, iv z11_, .unset, .unset, .unset, .unset] [.ref b435, .ref b429, .ref b429])) rfl hml.symm (Steps.refl _) (a := b429) (argsL := [.ref b435]) (rest := [.ref b429]) (lenOf pd2 rfl) rfl (own_hw rfl) (hb hby at_138) (fun _ _ => ⟨rfl, e454, (lE rfl : 2 + 1 ≤ _), (lE rfl : 7 + 3 ≤ _)⟩)) rfl rfl
      obtain ⟨rfl, N553q, K553q, E553q, C553q, b571, c571_, u571, g571, ne571, V571_, A571_⟩ := hQ553
      have N553 := Fr.app N454_ N553q
      have sz_b429 : h0.size ≤ b429 := (Nat.le_of_eq g429.symm)
      have K572 := K455.trans K553q (allS (Or.inr sz_b429) all0)
      have f574 : Safe Z consts_1 s.vm h429 b429 := Safe.ext E429 hC0 (Safe.new (Nat.le_of_eq g429.symm))
      have f575 : Safe Z consts_1 s.vm h435 b429 := Safe.ext E435 C431 f574
      have f576 : Safe Z consts_1 s.vm h441 b429 := Safe.wr W441 (Safe.arv hZ.alike A439_ (by simp)) C437 f575
      have f577 : Safe Z consts_1 s.vm h448 b429 := Safe.wr W448 (Safe.arv hZ.alike A446_ (by simp)) C444 f576
      have f578 : Safe Z consts_1 s.vm h454 b429 := Safe.wr W454 (Safe.arv hZ.alike A452_ (by simp)) C450 f577
      have C573 : CHv Z consts_1 s.vm T553.heap := CHv.keep K553q (sfS f578 sf0) C456
      have R579 : CHr Z consts_1 s.vm h0 s.vm T553.heap := R457.trans (CHr.keep K553q (sfS f578 sf0) C456)
      have pr580 : Pr p e below T553 m 178 #[iv p1, iv p2, iv p3, iv p4, iv p5, iv (ab0_ p5), iv z2_, iv z5_, iv z8_, iv z11_, rv b429, .unset, .unset, .unset] [] s₁ en := fun t k => pr460 t (by
       show Sx p e below T454 m 138 #[iv p1, iv p2, iv p3, iv p4, iv p5, iv (ab0_ p5), iv z2_, iv z5_, iv z8_, iv z11_, .unset, .unset, .unset, .unset] [.ref b435, .ref b429, .ref b429] _
       refine st553.trans ?_
       refine XS.astore X553.here hx rfl (hb hby at_141) rfl rfl (l' := #[iv p1, iv p2, iv p3, iv p4, iv p5, iv (ab0_ p5), iv z2_, iv z5_, iv z8_, iv z11_, rv b429, .unset, .unset, .unset]) rfl ?_
       refine zg (pc' := 178) X553 Bd at_143 rfl ?_
       exact k)
      refine cps (A := ∃ T581 : State, ∃ L581 : List Loc, ∃ h581 : Heap, ∃ s1_ : Int32, Stand p l e room_1 (s.setVm s.vm) m #[.int p1, .int p2, .int p3, .int p4, .int p5] below meth c T581 L581 3 10 ∧ T581.heap = h581 ∧ Fr n0 L581 ∧ Keep T553.heap h581 [] ∧ (s1_ = own_has (59 : Int32) ([z2_, z5_, z8_] : List Int32)) ∧ Pr p e below T581 m 236 #[iv p1, iv p2, iv p3, iv p4, iv p5, iv (ab0_ p5), iv z2_, iv z5_, iv z8_, iv z11_, rv b429, iv s1_, .unset, .unset] [] s₁ en) (fun kont581 => ?_) (fun hA581 => ?_)
      ·
       skip
       have pr582 : Pr p e below T553 m 187 #[iv p1, iv p2, iv p3, iv p4, iv p5, iv (ab0_ p5), iv z2_, iv z5_, iv z8_, iv z11_, rv b429, .unset, .unset, .unset] [.int 59, .int z2_] s₁ en := fun t k => pr580 t (by
        show Sx p e below T553 m 178 #[iv p1, iv p2, iv p3, iv p4, iv p5, iv (ab0_ p5), iv z2_, iv z5_, iv z8_, iv z11_, rv b429, .unset, .unset, .unset] [] _
        refine zi X553 Bd at_178 rfl ?_
        refine zo X553 Bd at_180 (XT.i0_le_f ((by have e_ : (ab0_ p5) = (3 : Int32) := hc428; rw [e_]; first | done | decide) : (0 : Int32) < (ab0_ p5))) ?_
        refine zi X553 Bd at_183 rfl ?_
        refine zd X553 Bd at_185 ?_
        exact k)
       by_cases hc583 : z2_ = (59 : Int32)
       ·
        skip
        have pr584 : Pr p e below T553 m 236 #[iv p1, iv p2, iv p3, iv p4, iv p5, iv (ab0_ p5), iv z2_, iv z5_, iv z8_, iv z11_, rv b429, iv 1, .unset, .unset] [] s₁ en := fun t k => pr582 t (by
         show Sx p e below T553 m 187 #[iv p1, iv p2, iv p3, iv p4, iv p5, iv (ab0_ p5), iv z2_, iv z5_, iv z8_, iv z11_, rv b429, .unset, .unset, .unset] [.int 59, .int z2_] _
         refine zy (pc' := 229) X553 Bd at_187 (XT.ii_eq_t (hc583 : z2_ = (59 : Int32))) rfl ?_
         refine zc X553 Bd at_229 ?_
         refine zg (pc' := 234) X553 Bd at_230 rfl ?_
         refine zs X553 Bd at_234 (l' := #[iv p1, iv p2, iv p3, iv p4, iv p5, iv (ab0_ p5), iv z2_, iv z5_, iv z8_, iv z11_, rv b429, iv 1, .unset, .unset]) rfl ?_
         exact k)
        exact kont581 ⟨T553, _, T553.heap, (1 : Int32), (X553.mono (lE rfl) (lE rfl)), rfl, N553, (Keep.refl T553.heap []), (by rw [own_has, if_pos hc583] <;> rfl), (fun t k => pr584 t k)⟩
       ·
        skip
        have pr585 : Pr p e below T553 m 200 #[iv p1, iv p2, iv p3, iv p4, iv p5, iv (ab0_ p5), iv z2_, iv z5_, iv z8_, iv z11_, rv b429, .unset, .unset, .unset] [.int 59, .int z5_] s₁ en := fun t k => pr582 t (by
         show Sx p e below T553 m 187 #[iv p1, iv p2, iv p3, iv p4, iv p5, iv (ab0_ p5), iv z2_, iv z5_, iv z8_, iv z11_, rv b429, .unset, .unset, .unset] [.int 59, .int z2_] _
         refine zn X553 Bd at_187 (XT.ii_eq_f (hc583 : ¬ (z2_ = (59 : Int32)))) ?_
         refine zi X553 Bd at_190 rfl ?_
         refine zc X553 Bd at_192 ?_
         refine zn X553 Bd at_193 (XT.ii_le_f ((by have e_ : (ab0_ p5) = (3 : Int32) := hc428; rw [e_]; first | done | decide) : (1 : Int32) < (ab0_ p5))) ?_
         refine zi X553 Bd at_196 rfl ?_
         refine zd X553 Bd at_198 ?_
         exact k)
        by_cases hc586 : z5_ = (59 : Int32)
        ·
         skip
         have pr587 : Pr p e below T553 m 236 #[iv p1, iv p2, iv p3, iv p4, iv p5, iv (ab0_ p5), iv z2_, iv z5_, iv z8_, iv z11_, rv b429, iv 1, .unset, .unset] [] s₁ en := fun t k => pr585 t (by
          show Sx p e below T553 m 200 #[iv p1, iv p2, iv p3, iv p4, iv p5, iv (ab0_ p5), iv z2_, iv z5_, iv z8_, iv z11_, rv b429, .unset, .unset, .unset] [.int 59, .int z5_] _
          refine zy (pc' := 229) X553 Bd at_200 (XT.ii_eq_t (hc586 : z5_ = (59 : Int32))) rfl ?_
          refine zc X553 Bd at_229 ?_
          refine zg (pc' := 234) X553 Bd at_230 rfl ?_
          refine zs X553 Bd at_234 (l' := #[iv p1, iv p2, iv p3, iv p4, iv p5, iv (ab0_ p5), iv z2_, iv z5_, iv z8_, iv z11_, rv b429, iv 1, .unset, .unset]) rfl ?_
          exact k)
         exact kont581 ⟨T553, _, T553.heap, (1 : Int32), (X553.mono (lE rfl) (lE rfl)), rfl, N553, (Keep.refl T553.heap []), (by rw [own_has, if_neg hc583, own_has, if_pos hc586] <;> rfl), (fun t k => pr587 t k)⟩
        ·
         skip
         have pr588 : Pr p e below T553 m 213 #[iv p1, iv p2, iv p3, iv p4, iv p5, iv (ab0_ p5), iv z2_, iv z5_, iv z8_, iv z11_, rv b429, .unset, .unset, .unset] [.int 59, .int z8_] s₁ en := fun t k => pr585 t (by
          show Sx p e below T553 m 200 #[iv p1, iv p2, iv p3, iv p4, iv p5, iv (ab0_ p5), iv z2_, iv z5_, iv z8_, iv z11_, rv b429, .unset, .unset, .unset] [.int 59, .int z5_] _
          refine zn X553 Bd at_200 (XT.ii_eq_f (hc586 : ¬ (z5_ = (59 : Int32)))) ?_
          refine zi X553 Bd at_203 rfl ?_
          refine zc X553 Bd at_205 ?_
          refine zn X553 Bd at_206 (XT.ii_le_f ((by have e_ : (ab0_ p5) = (3 : Int32) := hc428; rw [e_]; first | done | decide) : (2 : Int32) < (ab0_ p5))) ?_
          refine zi X553 Bd at_209 rfl ?_
          refine zd X553 Bd at_211 ?_
          exact k)
         by_cases hc589 : z8_ = (59 : Int32)
         ·
          skip
          have pr590 : Pr p e below T553 m 236 #[iv p1, iv p2, iv p3, iv p4, iv p5, iv (ab0_ p5), iv z2_, iv z5_, iv z8_, iv z11_, rv b429, iv 1, .unset, .unset] [] s₁ en := fun t k => pr588 t (by
           show Sx p e below T553 m 213 #[iv p1, iv p2, iv p3, iv p4, iv p5, iv (ab0_ p5), iv z2_, iv z5_, iv z8_, iv z11_, rv b429, .unset, .unset, .unset] [.int 59, .int z8_] _
           refine zy (pc' := 229) X553 Bd at_213 (XT.ii_eq_t (hc589 : z8_ = (59 : Int32))) rfl ?_
           refine zc X553 Bd at_229 ?_
           refine zg (pc' := 234) X553 Bd at_230 rfl ?_
           refine zs X553 Bd at_234 (l' := #[iv p1, iv p2, iv p3, iv p4, iv p5, iv (ab0_ p5), iv z2_, iv z5_, iv z8_, iv z11_, rv b429, iv 1, .unset, .unset]) rfl ?_
           exact k)
          exact kont581 ⟨T553, _, T553.heap, (1 : Int32), (X553.mono (lE rfl) (lE rfl)), rfl, N553, (Keep.refl T553.heap []), (by rw [own_has, if_neg hc583, own_has, if_neg hc586, own_has, if_pos hc589] <;> rfl), (fun t k => pr590 t k)⟩
         ·
          skip
          have pr591 : Pr p e below T553 m 236 #[iv p1, iv p2, iv p3, iv p4, iv p5, iv (ab0_ p5), iv z2_, iv z5_, iv z8_, iv z11_, rv b429, iv 0, .unset, .unset] [] s₁ en := fun t k => pr588 t (by
           show Sx p e below T553 m 213 #[iv p1, iv p2, iv p3, iv p4, iv p5, iv (ab0_ p5), iv z2_, iv z5_, iv z8_, iv z11_, rv b429, .unset, .unset, .unset] [.int 59, .int z8_] _
           refine zn X553 Bd at_213 (XT.ii_eq_f (hc589 : ¬ (z8_ = (59 : Int32)))) ?_
           refine zi X553 Bd at_216 rfl ?_
           refine zc X553 Bd at_218 ?_
           refine zy (pc' := 233) X553 Bd at_219 (XT.ii_le_t ((by have e_ : (ab0_ p5) = (3 : Int32) := hc428; rw [e_]; first | done | decide) : ¬ ((3 : Int32) < (ab0_ p5)))) rfl ?_
           refine zc X553 Bd at_233 ?_
           refine zs X553 Bd at_234 (l' := #[iv p1, iv p2, iv p3, iv p4, iv p5, iv (ab0_ p5), iv z2_, iv z5_, iv z8_, iv z11_, rv b429, iv 0, .unset, .unset]) rfl ?_
           exact k)
          exact kont581 ⟨T553, _, T553.heap, (0 : Int32), (X553.mono (lE rfl) (lE rfl)), rfl, N553, (Keep.refl T553.heap []), (by rw [own_has, if_neg hc583, own_has, if_neg hc586, own_has, if_neg hc589, own_has] <;> rfl), (fun t k => pr591 t k)⟩
      ·
       obtain ⟨T581, L581, h581, s1_, X581, e581, N581, K581j, hp581_0, pr581⟩ := hA581
       have K592 := K572.trans K581j (fun x q => nomatch q)
       have C593 : CHv Z consts_1 s.vm h581 := CHv.keep K581j sf0 C573
       have R594 : CHr Z consts_1 s.vm h0 s.vm h581 := R579.trans (CHr.keep K581j sf0 C573)
       refine cps (A := ∃ T595 : State, ∃ L595 : List Loc, ∃ h595 : Heap, ∃ a1_ : Int32, Stand p l e room_1 (s.setVm s.vm) m #[.int p1, .int p2, .int p3, .int p4, .int p5] below meth c T595 L595 3 10 ∧ T595.heap = h595 ∧ Fr n0 L595 ∧ Keep h581 h595 [] ∧ (a1_ = own_has (38 : Int32) ([z2_, z5_, z8_] : List Int32)) ∧ Pr p e below T595 m 294 #[iv p1, iv p2, iv p3, iv p4, iv p5, iv (ab0_ p5), iv z2_, iv z5_, iv z8_, iv z11_, rv b429, iv s1_, iv a1_, .unset] [] s₁ en) (fun kont595 => ?_) (fun hA595 => ?_)
       ·
        skip
        have pr596 : Pr p e below T581 m 245 #[iv p1, iv p2, iv p3, iv p4, iv p5, iv (ab0_ p5), iv z2_, iv z5_, iv z8_, iv z11_, rv b429, iv s1_, .unset, .unset] [.int 38, .int z2_] s₁ en := fun t k => pr581 t (by
         show Sx p e below T581 m 236 #[iv p1, iv p2, iv p3, iv p4, iv p5, iv (ab0_ p5), iv z2_, iv z5_, iv z8_, iv z11_, rv b429, iv s1_, .unset, .unset] [] _
         refine zi X581 Bd at_236 rfl ?_
         refine zo X581 Bd at_238 (XT.i0_le_f ((by have e_ : (ab0_ p5) = (3 : Int32) := hc428; rw [e_]; first | done | decide) : (0 : Int32) < (ab0_ p5))) ?_
         refine zi X581 Bd at_241 rfl ?_
         refine zd X581 Bd at_243 ?_
         exact k)
        by_cases hc597 : z2_ = (38 : Int32)
        ·
         skip
         have pr598 : Pr p e below T581 m 294 #[iv p1, iv p2, iv p3, iv p4, iv p5, iv (ab0_ p5), iv z2_, iv z5_, iv z8_, iv z11_, rv b429, iv s1_, iv 1, .unset] [] s₁ en := fun t k => pr596 t (by
          show Sx p e below T581 m 245 #[iv p1, iv p2, iv p3, iv p4, iv p5, iv (ab0_ p5), iv z2_, iv z5_, iv z8_, iv z11_, rv b429, iv s1_, .unset, .unset] [.int 38, .int z2_] _
          refine zy (pc' := 287) X581 Bd at_245 (XT.ii_eq_t (hc597 : z2_ = (38 : Int32))) rfl ?_
          refine zc X581 Bd at_287 ?_
          refine zg (pc' := 292) X581 Bd at_288 rfl ?_
          refine zs X581 Bd at_292 (l' := #[iv p1, iv p2, iv p3, iv p4, iv p5, iv (ab0_ p5), iv z2_, iv z5_, iv z8_, iv z11_, rv b429, iv s1_, iv 1, .unset]) rfl ?_
          exact k)
         exact kont595 ⟨T581, _, h581, (1 : Int32), (X581.mono (lE rfl) (lE rfl)), e581, N581, (Keep.refl h581 []), (by rw [own_has, if_pos hc597] <;> rfl), (fun t k => pr598 t k)⟩
        ·
         skip
         have pr599 : Pr p e below T581 m 258 #[iv p1, iv p2, iv p3, iv p4, iv p5, iv (ab0_ p5), iv z2_, iv z5_, iv z8_, iv z11_, rv b429, iv s1_, .unset, .unset] [.int 38, .int z5_] s₁ en := fun t k => pr596 t (by
          show Sx p e below T581 m 245 #[iv p1, iv p2, iv p3, iv p4, iv p5, iv (ab0_ p5), iv z2_, iv z5_, iv z8_, iv z11_, rv b429, iv s1_, .unset, .unset] [.int 38, .int z2_] _
          refine zn X581 Bd at_245 (XT.ii_eq_f (hc597 : ¬ (z2_ = (38 : Int32)))) ?_
          refine zi X581 Bd at_248 rfl ?_
          refine zc X581 Bd at_250 ?_
          refine zn X581 Bd at_251 (XT.ii_le_f ((by have e_ : (ab0_ p5) = (3 : Int32) := hc428; rw [e_]; first | done | decide) : (1 : Int32) < (ab0_ p5))) ?_
          refine zi X581 Bd at_254 rfl ?_
          refine zd X581 Bd at_256 ?_
          exact k)
         by_cases hc600 : z5_ = (38 : Int32)
         ·
          skip
          have pr601 : Pr p e below T581 m 294 #[iv p1, iv p2, iv p3, iv p4, iv p5, iv (ab0_ p5), iv z2_, iv z5_, iv z8_, iv z11_, rv b429, iv s1_, iv 1, .unset] [] s₁ en := fun t k => pr599 t (by
           show Sx p e below T581 m 258 #[iv p1, iv p2, iv p3, iv p4, iv p5, iv (ab0_ p5), iv z2_, iv z5_, iv z8_, iv z11_, rv b429, iv s1_, .unset, .unset] [.int 38, .int z5_] _
           refine zy (pc' := 287) X581 Bd at_258 (XT.ii_eq_t (hc600 : z5_ = (38 : Int32))) rfl ?_
           refine zc X581 Bd at_287 ?_
           refine zg (pc' := 292) X581 Bd at_288 rfl ?_
           refine zs X581 Bd at_292 (l' := #[iv p1, iv p2, iv p3, iv p4, iv p5, iv (ab0_ p5), iv z2_, iv z5_, iv z8_, iv z11_, rv b429, iv s1_, iv 1, .unset]) rfl ?_
           exact k)
          exact kont595 ⟨T581, _, h581, (1 : Int32), (X581.mono (lE rfl) (lE rfl)), e581, N581, (Keep.refl h581 []), (by rw [own_has, if_neg hc597, own_has, if_pos hc600] <;> rfl), (fun t k => pr601 t k)⟩
         ·
          skip
          have pr602 : Pr p e below T581 m 271 #[iv p1, iv p2, iv p3, iv p4, iv p5, iv (ab0_ p5), iv z2_, iv z5_, iv z8_, iv z11_, rv b429, iv s1_, .unset, .unset] [.int 38, .int z8_] s₁ en := fun t k => pr599 t (by
           show Sx p e below T581 m 258 #[iv p1, iv p2, iv p3, iv p4, iv p5, iv (ab0_ p5), iv z2_, iv z5_, iv z8_, iv z11_, rv b429, iv s1_, .unset, .unset] [.int 38, .int z5_] _
           refine zn X581 Bd at_258 (XT.ii_eq_f (hc600 : ¬ (z5_ = (38 : Int32)))) ?_
           refine zi X581 Bd at_261 rfl ?_
           refine zc X581 Bd at_263 ?_
           refine zn X581 Bd at_264 (XT.ii_le_f ((by have e_ : (ab0_ p5) = (3 : Int32) := hc428; rw [e_]; first | done | decide) : (2 : Int32) < (ab0_ p5))) ?_
           refine zi X581 Bd at_267 rfl ?_
           refine zd X581 Bd at_269 ?_
           exact k)
          by_cases hc603 : z8_ = (38 : Int32)
          ·
           skip
           have pr604 : Pr p e below T581 m 294 #[iv p1, iv p2, iv p3, iv p4, iv p5, iv (ab0_ p5), iv z2_, iv z5_, iv z8_, iv z11_, rv b429, iv s1_, iv 1, .unset] [] s₁ en := fun t k => pr602 t (by
            show Sx p e below T581 m 271 #[iv p1, iv p2, iv p3, iv p4, iv p5, iv (ab0_ p5), iv z2_, iv z5_, iv z8_, iv z11_, rv b429, iv s1_, .unset, .unset] [.int 38, .int z8_] _
            refine zy (pc' := 287) X581 Bd at_271 (XT.ii_eq_t (hc603 : z8_ = (38 : Int32))) rfl ?_
            refine zc X581 Bd at_287 ?_
            refine zg (pc' := 292) X581 Bd at_288 rfl ?_
            refine zs X581 Bd at_292 (l' := #[iv p1, iv p2, iv p3, iv p4, iv p5, iv (ab0_ p5), iv z2_, iv z5_, iv z8_, iv z11_, rv b429, iv s1_, iv 1, .unset]) rfl ?_
            exact k)
           exact kont595 ⟨T581, _, h581, (1 : Int32), (X581.mono (lE rfl) (lE rfl)), e581, N581, (Keep.refl h581 []), (by rw [own_has, if_neg hc597, own_has, if_neg hc600, own_has, if_pos hc603] <;> rfl), (fun t k => pr604 t k)⟩
          ·
           skip
           have pr605 : Pr p e below T581 m 294 #[iv p1, iv p2, iv p3, iv p4, iv p5, iv (ab0_ p5), iv z2_, iv z5_, iv z8_, iv z11_, rv b429, iv s1_, iv 0, .unset] [] s₁ en := fun t k => pr602 t (by
            show Sx p e below T581 m 271 #[iv p1, iv p2, iv p3, iv p4, iv p5, iv (ab0_ p5), iv z2_, iv z5_, iv z8_, iv z11_, rv b429, iv s1_, .unset, .unset] [.int 38, .int z8_] _
            refine zn X581 Bd at_271 (XT.ii_eq_f (hc603 : ¬ (z8_ = (38 : Int32)))) ?_
            refine zi X581 Bd at_274 rfl ?_
            refine zc X581 Bd at_276 ?_
            refine zy (pc' := 291) X581 Bd at_277 (XT.ii_le_t ((by have e_ : (ab0_ p5) = (3 : Int32) := hc428; rw [e_]; first | done | decide) : ¬ ((3 : Int32) < (ab0_ p5)))) rfl ?_
            refine zc X581 Bd at_291 ?_
            refine zs X581 Bd at_292 (l' := #[iv p1, iv p2, iv p3, iv p4, iv p5, iv (ab0_ p5), iv z2_, iv z5_, iv z8_, iv z11_, rv b429, iv s1_, iv 0, .unset]) rfl ?_
            exact k)
           exact kont595 ⟨T581, _, h581, (0 : Int32), (X581.mono (lE rfl) (lE rfl)), e581, N581, (Keep.refl h581 []), (by rw [own_has, if_neg hc597, own_has, if_neg hc600, own_has, if_neg hc603, own_has] <;> rfl), (fun t k => pr605 t k)⟩
       ·
        obtain ⟨T595, L595, h595, a1_, X595, e595, N595, K595j, hp595_0, pr595⟩ := hA595
        have K606 := K592.trans K595j (fun x q => nomatch q)
        have C607 : CHv Z consts_1 s.vm h595 := CHv.keep K595j sf0 C593
        have R608 : CHr Z consts_1 s.vm h0 s.vm h595 := R594.trans (CHr.keep K595j sf0 C593)
        refine cps (A := ∃ T609 : State, ∃ L609 : List Loc, ∃ h609 : Heap, ∃ ex_ : Int32, Stand p l e room_1 (s.setVm s.vm) m #[.int p1, .int p2, .int p3, .int p4, .int p5] below meth c T609 L609 3 10 ∧ T609.heap = h609 ∧ Fr n0 L609 ∧ Keep h595 h609 [] ∧ (ex_ = own_exp ([z2_, z5_, z8_] : List Int32)) ∧ Pr p e below T609 m 313 #[iv p1, iv p2, iv p3, iv p4, iv p5, iv (ab0_ p5), iv z2_, iv z5_, iv z8_, iv z11_, rv b429, iv s1_, iv a1_, iv ex_] [] s₁ en) (fun kont609 => ?_) (fun hA609 => ?_)
        ·
         skip
         have pr610 : Pr p e below T595 m 296 #[iv p1, iv p2, iv p3, iv p4, iv p5, iv (ab0_ p5), iv z2_, iv z5_, iv z8_, iv z11_, rv b429, iv s1_, iv a1_, .unset] [.int s1_] s₁ en := fun t k => pr595 t (by
          show Sx p e below T595 m 294 #[iv p1, iv p2, iv p3, iv p4, iv p5, iv (ab0_ p5), iv z2_, iv z5_, iv z8_, iv z11_, rv b429, iv s1_, iv a1_, .unset] [] _
          refine zi X595 Bd at_294 rfl ?_
          exact k)
         by_cases hc611 : s1_ = (0 : Int32)
         ·
          skip
          have pr612 : Pr p e below T595 m 313 #[iv p1, iv p2, iv p3, iv p4, iv p5, iv (ab0_ p5), iv z2_, iv z5_, iv z8_, iv z11_, rv b429, iv s1_, iv a1_, iv 38] [] s₁ en := fun t k => pr610 t (by
           show Sx p e below T595 m 296 #[iv p1, iv p2, iv p3, iv p4, iv p5, iv (ab0_ p5), iv z2_, iv z5_, iv z8_, iv z11_, rv b429, iv s1_, iv a1_, .unset] [.int s1_] _
           refine zp (pc' := 309) X595 Bd at_296 (XT.i0_eq_t (hc611 : s1_ = (0 : Int32))) rfl ?_
           refine zd X595 Bd at_309 ?_
           refine zs X595 Bd at_311 (l' := #[iv p1, iv p2, iv p3, iv p4, iv p5, iv (ab0_ p5), iv z2_, iv z5_, iv z8_, iv z11_, rv b429, iv s1_, iv a1_, iv 38]) rfl ?_
           exact k)
          exact kont609 ⟨T595, _, h595, (38 : Int32), (X595.mono (lE rfl) (lE rfl)), e595, N595, (Keep.refl h595 []), (by rw [own_exp, ← hp581_0, if_pos hc611] <;> rfl), (fun t k => pr612 t k)⟩
         ·
          skip
          have pr613 : Pr p e below T595 m 301 #[iv p1, iv p2, iv p3, iv p4, iv p5, iv (ab0_ p5), iv z2_, iv z5_, iv z8_, iv z11_, rv b429, iv s1_, iv a1_, .unset] [.int a1_] s₁ en := fun t k => pr610 t (by
           show Sx p e below T595 m 296 #[iv p1, iv p2, iv p3, iv p4, iv p5, iv (ab0_ p5), iv z2_, iv z5_, iv z8_, iv z11_, rv b429, iv s1_, iv a1_, .unset] [.int s1_] _
           refine zo X595 Bd at_296 (XT.i0_eq_f (hc611 : ¬ (s1_ = (0 : Int32)))) ?_
           refine zi X595 Bd at_299 rfl ?_
           exact k)
          by_cases hc614 : a1_ = (0 : Int32)
          ·
           skip
           have pr615 : Pr p e below T595 m 313 #[iv p1, iv p2, iv p3, iv p4, iv p5, iv (ab0_ p5), iv z2_, iv z5_, iv z8_, iv z11_, rv b429, iv s1_, iv a1_, iv 59] [] s₁ en := fun t k => pr613 t (by
            show Sx p e below T595 m 301 #[iv p1, iv p2, iv p3, iv p4, iv p5, iv (ab0_ p5), iv z2_, iv z5_, iv z8_, iv z11_, rv b429, iv s1_, iv a1_, .unset] [.int a1_] _
            refine zo X595 Bd at_301 (XT.i0_ne_f (hc614 : a1_ = (0 : Int32))) ?_
            refine zd X595 Bd at_304 ?_
            refine zg (pc' := 311) X595 Bd at_306 rfl ?_
            refine zs X595 Bd at_311 (l' := #[iv p1, iv p2, iv p3, iv p4, iv p5, iv (ab0_ p5), iv z2_, iv z5_, iv z8_, iv z11_, rv b429, iv s1_, iv a1_, iv 59]) rfl ?_
            exact k)
           exact kont609 ⟨T595, _, h595, (59 : Int32), (X595.mono (lE rfl) (lE rfl)), e595, N595, (Keep.refl h595 []), (by rw [own_exp, ← hp581_0, if_neg hc611, ← hp595_0, if_pos hc614] <;> rfl), (fun t k => pr615 t k)⟩
          ·
           skip
           have pr616 : Pr p e below T595 m 313 #[iv p1, iv p2, iv p3, iv p4, iv p5, iv (ab0_ p5), iv z2_, iv z5_, iv z8_, iv z11_, rv b429, iv s1_, iv a1_, iv 38] [] s₁ en := fun t k => pr613 t (by
            show Sx p e below T595 m 301 #[iv p1, iv p2, iv p3, iv p4, iv p5, iv (ab0_ p5), iv z2_, iv z5_, iv z8_, iv z11_, rv b429, iv s1_, iv a1_, .unset] [.int a1_] _
            refine zp (pc' := 309) X595 Bd at_301 (XT.i0_ne_t (hc614 : ¬ (a1_ = (0 : Int32)))) rfl ?_
            refine zd X595 Bd at_309 ?_
            refine zs X595 Bd at_311 (l' := #[iv p1, iv p2, iv p3, iv p4, iv p5, iv (ab0_ p5), iv z2_, iv z5_, iv z8_, iv z11_, rv b429, iv s1_, iv a1_, iv 38]) rfl ?_
            exact k)
           exact kont609 ⟨T595, _, h595, (38 : Int32), (X595.mono (lE rfl) (lE rfl)), e595, N595, (Keep.refl h595 []), (by rw [own_exp, ← hp581_0, if_neg hc611, ← hp595_0, if_neg hc614] <;> rfl), (fun t k => pr616 t k)⟩
        ·
         obtain ⟨T609, L609, h609, ex_, X609, e609, N609, K609j, hp609_0, pr609⟩ := hA609
         have K617 := K606.trans K609j (fun x q => nomatch q)
         have C618 : CHv Z consts_1 s.vm h609 := CHv.keep K609j sf0 C607
         have R619 : CHr Z consts_1 s.vm h0 s.vm h609 := R608.trans (CHr.keep K609j sf0 C607)
         have E621_ := E562_.keep K553q
         have E622_ := E621_.keep K581j
         have E623_ := E622_.keep K595j
         have E624_ := E623_.keep K609j
         have F625_ := C553q.keep K581j nin0
         have F626_ := F625_.keep K595j nin0
         have F627_ := F626_.keep K609j nin0
         have F628_ := V571_.keep K581j nin0
         have F629_ := F628_.keep K595j nin0
         have F630_ := F629_.keep K609j nin0
         have A631_ := A571_.keep K581j nin0
         have A632_ := A631_.keep K595j nin0
         have A633_ := A632_.keep K609j nin0
         have O634 := O558.keep K553q (allS g_b429 all0)
         have O635 := O634.keep K581j all0
         have O636 := O635.keep K595j all0
         have O637 := O636.keep K609j all0
         obtain ⟨_, T620, L620, X620, hQ620, st620⟩ := own_cS 3 10 [] 315 #[iv p1, iv p2, iv p3, iv p4, iv p5, iv (ab0_ p5), iv z2_, iv z5_, iv z8_, iv z11_, rv b429, iv s1_, iv a1_, iv ex_] X609 hx hZ hown (w28_ hw) (w29_ hw) (w30_ hw) (w31_ hw) (rm97 l Z a0 hw G1 b429 b571 z2_ z5_ z8_ c571_ h609 n0 O637 O2 P5 E624_ F627_ F630_ hp554 A633_) pd9 hml.symm (hb hby at_315) e609 rfl rfl rfl rfl (by decide)
         obtain ⟨rfl, N620q, e620q⟩ := hQ620
         have N620 := Fr.app N609 N620q
         have hp638 : ∀ c ∈ ([z2_, z5_, z8_] : List Int32), ¬ c < 0 ∧ ¬ (255 : Int32) < c := (List.forall_mem_cons.mpr ⟨(And.intro (own_ch0 w3) (own_maxle hc461 (mI 0 rfl))), (List.forall_mem_cons.mpr ⟨(And.intro (own_ch0 w6) (own_maxle hc461 (mI 1 rfl))), (List.forall_mem_cons.mpr ⟨(And.intro (own_ch0 w9) (own_maxle hc461 (mI 2 rfl))), (fun _ q => nomatch q)⟩)⟩)⟩)
         have hk639' : _ ≤ h609.size := (Nat.le_trans (Nat.le_trans (Nat.le_trans (Nat.le_trans (Nat.le_trans (Nat.le_trans (Nat.le_trans (Nat.le_trans (Nat.le_trans hk0 E429.1) E435.1) (Nat.le_of_eq W441.size.symm)) (Nat.le_of_eq W448.size.symm)) (Nat.le_of_eq W454.size.symm)) K553q.1) K581j.1) K595j.1) K609j.1)
         refine own_lvW X620 Bd.notSynchronized hS0 hk639' (v := (some (.int 1))) (fun h => by rw [Bd.returns] at h; cases h) e620q hh ⟨rfl, N620⟩ (R619.trans (CHv.at X620 hZ hEL C618)) (lE rfl) (lE rfl) (fun fs hr => pr609 _ (by
          show Sx p e below T609 m 313 #[iv p1, iv p2, iv p3, iv p4, iv p5, iv (ab0_ p5), iv z2_, iv z5_, iv z8_, iv z11_, rv b429, iv s1_, iv a1_, iv ex_] [] _
          refine za X609 Bd at_313 rfl rfl ?_
          refine st620 _ ?_
          refine zi X620 Bd at_318 rfl ?_
          refine zn X620 Bd at_320 (XT.ii_ne_f (((own_finL (z := ([z2_, z5_, z8_] : List Int32)) hp638 (lE rfl)).trans hp609_0.symm) : (own_sep ([((z2_).toInt8.toInt32), ((z5_).toInt8.toInt32), ((z8_).toInt8.toInt32)] : List Int32)) = ex_)) ?_
          refine zc X620 Bd at_323 ?_
          refine zg (pc' := 328) X620 Bd at_324 rfl ?_
          exact retN X620 hx (t := .boolean) Bd.returns (by simp) (hb hby at_328) hr))
    ·
     skip
     obtain ⟨T640, h640, X640, e640, E640, A640, D640, -, st640⟩ := newO X10 hx hZ hown (w6_ hw) (w7_ hw) (w8_ hw) e10q (g := (mkF m 146 #[iv p1, iv p2, iv p3, iv p4, iv p5, iv (ab0_ p5), iv z2_, iv z5_, iv z8_, iv z11_, .unset, .unset, .unset, .unset] [])) rfl (hb hby at_146) (lE rfl) (lE rfl)
     obtain ⟨b640, g640⟩ : ∃ z, z = h0.size := ⟨_, rfl⟩
     rw [← g640] at A640 D640 st640
     replace X640 : Stand p l e room_1 (s.setVm s.vm) m #[.int p1, .int p2, .int p3, .int p4, .int p5] below meth c T640 _ 1 4 := X640
     have K641 := (Keep.refl h0 []).ext E640
     have C642 : CHv Z consts_1 s.vm h640 := CHv.ext E640 hC0
     have R643 : CHr Z consts_1 s.vm h0 s.vm h640 := hR0.trans (CHr.ext E640 hC0)
     have F644_ : Fld Z h640 b640 "java/lang/String" "value" "[B" .null := D640 (Or.inr (w22_ hw)) (ty := (.array .byte)) (by decide)
     have F645_ : Fld Z h640 b640 "java/lang/String" "coder" "B" (.int 0) := D640 (Or.inr (w23_ hw)) (ty := .byte) (by decide)
     obtain ⟨T646, h646, c646, X646, e646, E646, A646, st646⟩ := newP (aty := .char) X640 hx hZ (w9_ hw) e640 (g := (mkF m 151 #[iv p1, iv p2, iv p3, iv p4, iv p5, iv (ab0_ p5), iv z2_, iv z5_, iv z8_, iv z11_, .unset, .unset, .unset, .unset] [.int 4, .ref b640, .ref b640])) rfl (hb hby at_151) rfl (by decide) (cap := 4) (by decide) (lE rfl) (lE rfl) (lE rfl)
     obtain ⟨b646, g646⟩ : ∃ z, z = h640.size := ⟨_, rfl⟩
     rw [← g646] at A646 st646
     replace X646 : Stand p l e room_1 (s.setVm s.vm) m #[.int p1, .int p2, .int p3, .int p4, .int p5] below meth c T646 _ 2 8 := X646
     have K647 := K641.ext E646
     have C648 : CHv Z consts_1 s.vm h646 := CHv.ext E646 C642
     have R649 : CHr Z consts_1 s.vm h0 s.vm h646 := R643.trans (CHr.ext E646 C642)
     have A650_ : Arv Z h646 b646 c646 .char (4 : Int32) [.int 0, .int 0, .int 0, .int 0] (.int 0) := (Arv.new A646 (by decide)).pad (pad_rep [] (.int 0) 4)
     have av651 := A650_
     obtain ⟨cl651, Ar651, q651, S651, N651, H651, Gf651⟩ := av651
     have hin652 : ¬ ((0 : Int32) < 0 ∨ cl651.slots.size ≤ ((0 : Int32) : Int32).toNatClampNeg) := inb_of S651 (by decide)
     obtain ⟨T652, h652, X652, e652, W652, st652⟩ := stC X646 hx hZ e646 Ar651 (j := (0 : Int32)) hin652 (g := (mkF m 157 #[iv p1, iv p2, iv p3, iv p4, iv p5, iv (ab0_ p5), iv z2_, iv z5_, iv z8_, iv z11_, .unset, .unset, .unset, .unset] [.int z2_, .int 0, .ref b646, .ref b646, .ref b640, .ref b640])) rfl rfl (hb hby at_157)
     have O653 := X00.ext E640
     have g_b646 : n0 ≤ b646 := Nat.le_trans (Nat.le_trans (Nat.le_of_eq O653.1.symm) O653.2.1) (Nat.le_of_eq g646.symm)
     have N652_ := Fr.snoc X652 N10 g_b646
     have sz_b646 : h0.size ≤ b646 := Nat.le_trans K641.1 (Nat.le_of_eq g646.symm)
     have K654 := K647.wr W652 (Or.inr sz_b646)
     have C655 : CHv Z consts_1 s.vm h652 := CHv.wr W652 (Safe.arv hZ.alike A650_ (by simp)) C648
     have R656 : CHr Z consts_1 s.vm h0 s.vm h652 := R649.trans (CHr.wr W652 (Safe.arv hZ.alike A650_ (by simp)) C648)
     have A657_ : Arv Z h652 b646 c646 .char (4 : Int32) [.int z2_, .int 0, .int 0, .int 0] (.int 0) := by have q := Arv.set (v := .int (nar .char z2_)) Ar651 q651 S651 N651 H651 Gf651 (fits_nar_char _) W652 0 (by decide) (lE rfl); rw [(w3 : nar .char z2_ = z2_)] at q; exact q
     have av658 := A657_
     obtain ⟨cl658, Ar658, q658, S658, N658, H658, Gf658⟩ := av658
     have hin659 : ¬ ((1 : Int32) < 0 ∨ cl658.slots.size ≤ ((1 : Int32) : Int32).toNatClampNeg) := inb_of S658 (by decide)
     obtain ⟨T659, h659, X659, e659, W659, st659⟩ := stC X652 hx hZ e652 Ar658 (j := (1 : Int32)) hin659 (g := (mkF m 162 #[iv p1, iv p2, iv p3, iv p4, iv p5, iv (ab0_ p5), iv z2_, iv z5_, iv z8_, iv z11_, .unset, .unset, .unset, .unset] [.int z5_, .int 1, .ref b646, .ref b646, .ref b640, .ref b640])) rfl rfl (hb hby at_162)
     have N659_ := Fr.snoc X659 N652_ g_b646
     have K660 := K654.wr W659 (Or.inr sz_b646)
     have C661 : CHv Z consts_1 s.vm h659 := CHv.wr W659 (Safe.arv hZ.alike A657_ (by simp)) C655
     have R662 : CHr Z consts_1 s.vm h0 s.vm h659 := R656.trans (CHr.wr W659 (Safe.arv hZ.alike A657_ (by simp)) C655)
     have A663_ : Arv Z h659 b646 c646 .char (4 : Int32) [.int z2_, .int z5_, .int 0, .int 0] (.int 0) := by have q := Arv.set (v := .int (nar .char z5_)) Ar658 q658 S658 N658 H658 Gf658 (fits_nar_char _) W659 1 (by decide) (lE rfl); rw [(w6 : nar .char z5_ = z5_)] at q; exact q
     have av664 := A663_
     obtain ⟨cl664, Ar664, q664, S664, N664, H664, Gf664⟩ := av664
     have hin665 : ¬ ((2 : Int32) < 0 ∨ cl664.slots.size ≤ ((2 : Int32) : Int32).toNatClampNeg) := inb_of S664 (by decide)
     obtain ⟨T665, h665, X665, e665, W665, st665⟩ := stC X659 hx hZ e659 Ar664 (j := (2 : Int32)) hin665 (g := (mkF m 167 #[iv p1, iv p2, iv p3, iv p4, iv p5, iv (ab0_ p5), iv z2_, iv z5_, iv z8_, iv z11_, .unset, .unset, .unset, .unset] [.int z8_, .int 2, .ref b646, .ref b646, .ref b640, .ref b640])) rfl rfl (hb hby at_167)
     have N665_ := Fr.snoc X665 N659_ g_b646
     have K666 := K660.wr W665 (Or.inr sz_b646)
     have C667 : CHv Z consts_1 s.vm h665 := CHv.wr W665 (Safe.arv hZ.alike A663_ (by simp)) C661
     have R668 : CHr Z consts_1 s.vm h0 s.vm h665 := R662.trans (CHr.wr W665 (Safe.arv hZ.alike A663_ (by simp)) C661)
     have A669_ : Arv Z h665 b646 c646 .char (4 : Int32) [.int z2_, .int z5_, .int z8_, .int 0] (.int 0) := by have q := Arv.set (v := .int (nar .char z8_)) Ar664 q664 S664 N664 H664 Gf664 (fits_nar_char _) W665 2 (by decide) (lE rfl); rw [(w9 : nar .char z8_ = z8_)] at q; exact q
     have av670 := A669_
     obtain ⟨cl670, Ar670, q670, S670, N670, H670, Gf670⟩ := av670
     have hin671 : ¬ ((3 : Int32) < 0 ∨ cl670.slots.size ≤ ((3 : Int32) : Int32).toNatClampNeg) := inb_of S670 (by decide)
     obtain ⟨T671, h671, X671, e671, W671, st671⟩ := stC X665 hx hZ e665 Ar670 (j := (3 : Int32)) hin671 (g := (mkF m 172 #[iv p1, iv p2, iv p3, iv p4, iv p5, iv (ab0_ p5), iv z2_, iv z5_, iv z8_, iv z11_, .unset, .unset, .unset, .unset] [.int z11_, .int 3, .ref b646, .ref b646, .ref b640, .ref b640])) rfl rfl (hb hby at_172)
     have N671_ := Fr.snoc X671 N665_ g_b646
     have K672 := K666.wr W671 (Or.inr sz_b646)
     have C673 : CHv Z consts_1 s.vm h671 := CHv.wr W671 (Safe.arv hZ.alike A669_ (by simp)) C667
     have R674 : CHr Z consts_1 s.vm h0 s.vm h671 := R668.trans (CHr.wr W671 (Safe.arv hZ.alike A669_ (by simp)) C667)
     have A675_ : Arv Z h671 b646 c646 .char (4 : Int32) [.int z2_, .int z5_, .int z8_, .int z11_] (.int 0) := by have q := Arv.set (v := .int (nar .char z11_)) Ar670 q670 S670 N670 H670 Gf670 (fits_nar_char _) W671 3 (by decide) (lE rfl); rw [(w12 : nar .char z11_ = z11_)] at q; exact q
     have pr677 : Pr p e below T671 m 173 #[iv p1, iv p2, iv p3, iv p4, iv p5, iv (ab0_ p5), iv z2_, iv z5_, iv z8_, iv z11_, .unset, .unset, .unset, .unset] [.ref b646, .ref b640, .ref b640] s₁ en := fun t k => pr427 t (by
      show Sx p e below T10 m 113 #[iv p1, iv p2, iv p3, iv p4, iv p5, iv (ab0_ p5), iv z2_, iv z5_, iv z8_, iv z11_, .unset, .unset, .unset, .unset] [.int 3, (.int (ab0_ p5))] _
      refine zy (pc' := 146) X10 Bd at_113 (XT.ii_ne_t (hc428 : ¬ ((ab0_ p5) = (3 : Int32)))) rfl ?_
      refine st640 _ ?_
      refine XS.dup X640.here hx rfl (hb hby at_149) rfl rfl ?_
      refine zc X640 Bd at_150 ?_
      refine st646 _ ?_
      refine XS.dup X646.here hx rfl (hb hby at_153) rfl rfl ?_
      refine zc X646 Bd at_154 ?_
      refine zi X646 Bd at_155 rfl ?_
      refine st652 _ ?_
      refine XS.dup X652.here hx rfl (hb hby at_158) rfl rfl ?_
      refine zc X652 Bd at_159 ?_
      refine zi X652 Bd at_160 rfl ?_
      refine st659 _ ?_
      refine XS.dup X659.here hx rfl (hb hby at_163) rfl rfl ?_
      refine zc X659 Bd at_164 ?_
      refine zi X659 Bd at_165 rfl ?_
      refine st665 _ ?_
      refine XS.dup X665.here hx rfl (hb hby at_168) rfl rfl ?_
      refine zc X665 Bd at_169 ?_
      refine zi X665 Bd at_170 rfl ?_
      refine st671 _ ?_
      exact k)
     by_cases hc678 : (255 : Int32) < (own_max ([z2_, z5_, z8_, z11_] : List Int32))
     ·
      skip
      have E680_ := A640.ext E646
      have E681_ := E680_.wr W652
      have E682_ := E681_.wr W659
      have E683_ := E682_.wr W665
      have E684_ := E683_.wr W671
      have F685_ := F645_.ext E646
      have F686_ := F685_.other W652 (Or.inl (Nat.ne_of_lt (Nat.lt_of_lt_of_le A640.lt (Nat.le_of_eq g646.symm))))
      have F687_ := F686_.other W659 (Or.inl (Nat.ne_of_lt (Nat.lt_of_lt_of_le A640.lt (Nat.le_of_eq g646.symm))))
      have F688_ := F687_.other W665 (Or.inl (Nat.ne_of_lt (Nat.lt_of_lt_of_le A640.lt (Nat.le_of_eq g646.symm))))
      have F689_ := F688_.other W671 (Or.inl (Nat.ne_of_lt (Nat.lt_of_lt_of_le A640.lt (Nat.le_of_eq g646.symm))))
      have g_b640 : n0 ≤ b640 := Nat.le_trans (Nat.le_trans (Nat.le_of_eq X00.1.symm) X00.2.1) (Nat.le_of_eq g640.symm)
      have F690_ := F644_.ext E646
      have F691_ := F690_.other W652 (Or.inl (Nat.ne_of_lt (Nat.lt_of_lt_of_le A640.lt (Nat.le_of_eq g646.symm))))
      have F692_ := F691_.other W659 (Or.inl (Nat.ne_of_lt (Nat.lt_of_lt_of_le A640.lt (Nat.le_of_eq g646.symm))))
      have F693_ := F692_.other W665 (Or.inl (Nat.ne_of_lt (Nat.lt_of_lt_of_le A640.lt (Nat.le_of_eq g646.symm))))
      have F694_ := F693_.other W671 (Or.inl (Nat.ne_of_lt (Nat.lt_of_lt_of_le A640.lt (Nat.le_of_eq g646.symm))))
      have O695 := O653.ext E646
      have O696 := O695.wr W652 g_b646
      have O697 := O696.wr W659 g_b646
      have O698 := O697.wr W665 g_b646
      have O699 := O698.wr W671 g_b646
      obtain ⟨_, T679, L679, X679, hQ679, st679⟩ := own_cI 4 20 [.ref b640] 173 #[iv p1, iv p2, iv p3, iv p4, iv p5, iv (ab0_ p5), iv z2_, iv z5_, iv z8_, iv z11_, .unset, .unset, .unset, .unset] X671 hx hZ hown (w10_ hw) (w11_ hw) (w8_ hw) (w12_ hw) (rm110 l Z a0 hw G1 b640 b646 c646 z2_ z5_ z8_ z11_ h671 n0 O699 O2 P5 uS12 uS15 uS18 A675_ hc678 w3 w6 w9 w12 E684_ F689_ g_b640 F694_) pd2 hml.symm (hb hby at_173) e671 rfl rfl rfl rfl rfl (by decide)
      obtain ⟨b700, c701_, rfl, N679q, K679q, w702, w703, w704, w705, w706⟩ := hQ679
      have N679 := Fr.app N671_ N679q
      have sz_b640 : h0.size ≤ b640 := (Nat.le_of_eq g640.symm)
      have K707 := K672.trans K679q (allS (Or.inr sz_b640) all0)
      have f709 : Safe Z consts_1 s.vm h640 b640 := Safe.ext E640 hC0 (Safe.new (Nat.le_of_eq g640.symm))
      have f710 : Safe Z consts_1 s.vm h646 b640 := Safe.ext E646 C642 f709
      have f711 : Safe Z consts_1 s.vm h652 b640 := Safe.wr W652 (Safe.arv hZ.alike A650_ (by simp)) C648 f710
      have f712 : Safe Z consts_1 s.vm h659 b640 := Safe.wr W659 (Safe.arv hZ.alike A657_ (by simp)) C655 f711
      have f713 : Safe Z consts_1 s.vm h665 b640 := Safe.wr W665 (Safe.arv hZ.alike A663_ (by simp)) C661 f712
      have f714 : Safe Z consts_1 s.vm h671 b640 := Safe.wr W671 (Safe.arv hZ.alike A669_ (by simp)) C667 f713
      have C708 : CHv Z consts_1 s.vm T679.heap := CHv.keep K679q (sfS f714 sf0) C673
      have R715 : CHr Z consts_1 s.vm h0 s.vm T679.heap := R674.trans (CHr.keep K679q (sfS f714 sf0) C673)
      have pr716 : Pr p e below T679 m 178 #[iv p1, iv p2, iv p3, iv p4, iv p5, iv (ab0_ p5), iv z2_, iv z5_, iv z8_, iv z11_, rv b640, .unset, .unset, .unset] [] s₁ en := fun t k => pr677 t (by
       show Sx p e below T671 m 173 #[iv p1, iv p2, iv p3, iv p4, iv p5, iv (ab0_ p5), iv z2_, iv z5_, iv z8_, iv z11_, .unset, .unset, .unset, .unset] [.ref b646, .ref b640, .ref b640] _
       refine st679 _ ?_
       refine XS.astore X679.here hx rfl (hb hby at_176) rfl rfl (l' := #[iv p1, iv p2, iv p3, iv p4, iv p5, iv (ab0_ p5), iv z2_, iv z5_, iv z8_, iv z11_, rv b640, .unset, .unset, .unset]) rfl ?_
       exact k)
      refine cps (A := ∃ T717 : State, ∃ L717 : List Loc, ∃ h717 : Heap, ∃ s1_ : Int32, Stand p l e room_1 (s.setVm s.vm) m #[.int p1, .int p2, .int p3, .int p4, .int p5] below meth c T717 L717 4 20 ∧ T717.heap = h717 ∧ Fr n0 L717 ∧ Keep T679.heap h717 [] ∧ (s1_ = own_has (59 : Int32) ([z2_, z5_, z8_, z11_] : List Int32)) ∧ Pr p e below T717 m 236 #[iv p1, iv p2, iv p3, iv p4, iv p5, iv (ab0_ p5), iv z2_, iv z5_, iv z8_, iv z11_, rv b640, iv s1_, .unset, .unset] [] s₁ en) (fun kont717 => ?_) (fun hA717 => ?_)
      ·
       skip
       have pr718 : Pr p e below T679 m 187 #[iv p1, iv p2, iv p3, iv p4, iv p5, iv (ab0_ p5), iv z2_, iv z5_, iv z8_, iv z11_, rv b640, .unset, .unset, .unset] [.int 59, .int z2_] s₁ en := fun t k => pr716 t (by
        show Sx p e below T679 m 178 #[iv p1, iv p2, iv p3, iv p4, iv p5, iv (ab0_ p5), iv z2_, iv z5_, iv z8_, iv z11_, rv b640, .unset, .unset, .unset] [] _
        refine zi X679 Bd at_178 rfl ?_
        refine zo X679 Bd at_180 (XT.i0_le_f ((own_sub (p := fun z_ => (0 : Int32) < z_) (own_rem5f p5 hc14 hc86 hc243 hc428) (by decide)) : (0 : Int32) < (ab0_ p5))) ?_
        refine zi X679 Bd at_183 rfl ?_
        refine zd X679 Bd at_185 ?_
        exact k)
       by_cases hc719 : z2_ = (59 : Int32)
       ·
        skip
        have pr720 : Pr p e below T679 m 236 #[iv p1, iv p2, iv p3, iv p4, iv p5, iv (ab0_ p5), iv z2_, iv z5_, iv z8_, iv z11_, rv b640, iv 1, .unset, .unset] [] s₁ en := fun t k => pr718 t (by
         show Sx p e below T679 m 187 #[iv p1, iv p2, iv p3, iv p4, iv p5, iv (ab0_ p5), iv z2_, iv z5_, iv z8_, iv z11_, rv b640, .unset, .unset, .unset] [.int 59, .int z2_] _
         refine zy (pc' := 229) X679 Bd at_187 (XT.ii_eq_t (hc719 : z2_ = (59 : Int32))) rfl ?_
         refine zc X679 Bd at_229 ?_
         refine zg (pc' := 234) X679 Bd at_230 rfl ?_
         refine zs X679 Bd at_234 (l' := #[iv p1, iv p2, iv p3, iv p4, iv p5, iv (ab0_ p5), iv z2_, iv z5_, iv z8_, iv z11_, rv b640, iv 1, .unset, .unset]) rfl ?_
         exact k)
        exact kont717 ⟨T679, _, T679.heap, (1 : Int32), (X679.mono (lE rfl) (lE rfl)), rfl, N679, (Keep.refl T679.heap []), (by rw [own_has, if_pos hc719] <;> rfl), (fun t k => pr720 t k)⟩
       ·
        skip
        have pr721 : Pr p e below T679 m 200 #[iv p1, iv p2, iv p3, iv p4, iv p5, iv (ab0_ p5), iv z2_, iv z5_, iv z8_, iv z11_, rv b640, .unset, .unset, .unset] [.int 59, .int z5_] s₁ en := fun t k => pr718 t (by
         show Sx p e below T679 m 187 #[iv p1, iv p2, iv p3, iv p4, iv p5, iv (ab0_ p5), iv z2_, iv z5_, iv z8_, iv z11_, rv b640, .unset, .unset, .unset] [.int 59, .int z2_] _
         refine zn X679 Bd at_187 (XT.ii_eq_f (hc719 : ¬ (z2_ = (59 : Int32)))) ?_
         refine zi X679 Bd at_190 rfl ?_
         refine zc X679 Bd at_192 ?_
         refine zn X679 Bd at_193 (XT.ii_le_f ((own_sub (p := fun z_ => (1 : Int32) < z_) (own_rem5f p5 hc14 hc86 hc243 hc428) (by decide)) : (1 : Int32) < (ab0_ p5))) ?_
         refine zi X679 Bd at_196 rfl ?_
         refine zd X679 Bd at_198 ?_
         exact k)
        by_cases hc722 : z5_ = (59 : Int32)
        ·
         skip
         have pr723 : Pr p e below T679 m 236 #[iv p1, iv p2, iv p3, iv p4, iv p5, iv (ab0_ p5), iv z2_, iv z5_, iv z8_, iv z11_, rv b640, iv 1, .unset, .unset] [] s₁ en := fun t k => pr721 t (by
          show Sx p e below T679 m 200 #[iv p1, iv p2, iv p3, iv p4, iv p5, iv (ab0_ p5), iv z2_, iv z5_, iv z8_, iv z11_, rv b640, .unset, .unset, .unset] [.int 59, .int z5_] _
          refine zy (pc' := 229) X679 Bd at_200 (XT.ii_eq_t (hc722 : z5_ = (59 : Int32))) rfl ?_
          refine zc X679 Bd at_229 ?_
          refine zg (pc' := 234) X679 Bd at_230 rfl ?_
          refine zs X679 Bd at_234 (l' := #[iv p1, iv p2, iv p3, iv p4, iv p5, iv (ab0_ p5), iv z2_, iv z5_, iv z8_, iv z11_, rv b640, iv 1, .unset, .unset]) rfl ?_
          exact k)
         exact kont717 ⟨T679, _, T679.heap, (1 : Int32), (X679.mono (lE rfl) (lE rfl)), rfl, N679, (Keep.refl T679.heap []), (by rw [own_has, if_neg hc719, own_has, if_pos hc722] <;> rfl), (fun t k => pr723 t k)⟩
        ·
         skip
         have pr724 : Pr p e below T679 m 213 #[iv p1, iv p2, iv p3, iv p4, iv p5, iv (ab0_ p5), iv z2_, iv z5_, iv z8_, iv z11_, rv b640, .unset, .unset, .unset] [.int 59, .int z8_] s₁ en := fun t k => pr721 t (by
          show Sx p e below T679 m 200 #[iv p1, iv p2, iv p3, iv p4, iv p5, iv (ab0_ p5), iv z2_, iv z5_, iv z8_, iv z11_, rv b640, .unset, .unset, .unset] [.int 59, .int z5_] _
          refine zn X679 Bd at_200 (XT.ii_eq_f (hc722 : ¬ (z5_ = (59 : Int32)))) ?_
          refine zi X679 Bd at_203 rfl ?_
          refine zc X679 Bd at_205 ?_
          refine zn X679 Bd at_206 (XT.ii_le_f ((own_sub (p := fun z_ => (2 : Int32) < z_) (own_rem5f p5 hc14 hc86 hc243 hc428) (by decide)) : (2 : Int32) < (ab0_ p5))) ?_
          refine zi X679 Bd at_209 rfl ?_
          refine zd X679 Bd at_211 ?_
          exact k)
         by_cases hc725 : z8_ = (59 : Int32)
         ·
          skip
          have pr726 : Pr p e below T679 m 236 #[iv p1, iv p2, iv p3, iv p4, iv p5, iv (ab0_ p5), iv z2_, iv z5_, iv z8_, iv z11_, rv b640, iv 1, .unset, .unset] [] s₁ en := fun t k => pr724 t (by
           show Sx p e below T679 m 213 #[iv p1, iv p2, iv p3, iv p4, iv p5, iv (ab0_ p5), iv z2_, iv z5_, iv z8_, iv z11_, rv b640, .unset, .unset, .unset] [.int 59, .int z8_] _
           refine zy (pc' := 229) X679 Bd at_213 (XT.ii_eq_t (hc725 : z8_ = (59 : Int32))) rfl ?_
           refine zc X679 Bd at_229 ?_
           refine zg (pc' := 234) X679 Bd at_230 rfl ?_
           refine zs X679 Bd at_234 (l' := #[iv p1, iv p2, iv p3, iv p4, iv p5, iv (ab0_ p5), iv z2_, iv z5_, iv z8_, iv z11_, rv b640, iv 1, .unset, .unset]) rfl ?_
           exact k)
          exact kont717 ⟨T679, _, T679.heap, (1 : Int32), (X679.mono (lE rfl) (lE rfl)), rfl, N679, (Keep.refl T679.heap []), (by rw [own_has, if_neg hc719, own_has, if_neg hc722, own_has, if_pos hc725] <;> rfl), (fun t k => pr726 t k)⟩
         ·
          skip
          have pr727 : Pr p e below T679 m 226 #[iv p1, iv p2, iv p3, iv p4, iv p5, iv (ab0_ p5), iv z2_, iv z5_, iv z8_, iv z11_, rv b640, .unset, .unset, .unset] [.int 59, .int z11_] s₁ en := fun t k => pr724 t (by
           show Sx p e below T679 m 213 #[iv p1, iv p2, iv p3, iv p4, iv p5, iv (ab0_ p5), iv z2_, iv z5_, iv z8_, iv z11_, rv b640, .unset, .unset, .unset] [.int 59, .int z8_] _
           refine zn X679 Bd at_213 (XT.ii_eq_f (hc725 : ¬ (z8_ = (59 : Int32)))) ?_
           refine zi X679 Bd at_216 rfl ?_
           refine zc X679 Bd at_218 ?_
           refine zn X679 Bd at_219 (XT.ii_le_f ((own_sub (p := fun z_ => (3 : Int32) < z_) (own_rem5f p5 hc14 hc86 hc243 hc428) (by decide)) : (3 : Int32) < (ab0_ p5))) ?_
           refine zi X679 Bd at_222 rfl ?_
           refine zd X679 Bd at_224 ?_
           exact k)
          by_cases hc728 : z11_ = (59 : Int32)
          ·
           skip
           have pr729 : Pr p e below T679 m 236 #[iv p1, iv p2, iv p3, iv p4, iv p5, iv (ab0_ p5), iv z2_, iv z5_, iv z8_, iv z11_, rv b640, iv 1, .unset, .unset] [] s₁ en := fun t k => pr727 t (by
            show Sx p e below T679 m 226 #[iv p1, iv p2, iv p3, iv p4, iv p5, iv (ab0_ p5), iv z2_, iv z5_, iv z8_, iv z11_, rv b640, .unset, .unset, .unset] [.int 59, .int z11_] _
            refine zn X679 Bd at_226 (XT.ii_ne_f (hc728 : z11_ = (59 : Int32))) ?_
            refine zc X679 Bd at_229 ?_
            refine zg (pc' := 234) X679 Bd at_230 rfl ?_
            refine zs X679 Bd at_234 (l' := #[iv p1, iv p2, iv p3, iv p4, iv p5, iv (ab0_ p5), iv z2_, iv z5_, iv z8_, iv z11_, rv b640, iv 1, .unset, .unset]) rfl ?_
            exact k)
           exact kont717 ⟨T679, _, T679.heap, (1 : Int32), (X679.mono (lE rfl) (lE rfl)), rfl, N679, (Keep.refl T679.heap []), (by rw [own_has, if_neg hc719, own_has, if_neg hc722, own_has, if_neg hc725, own_has, if_pos hc728] <;> rfl), (fun t k => pr729 t k)⟩
          ·
           skip
           have pr730 : Pr p e below T679 m 236 #[iv p1, iv p2, iv p3, iv p4, iv p5, iv (ab0_ p5), iv z2_, iv z5_, iv z8_, iv z11_, rv b640, iv 0, .unset, .unset] [] s₁ en := fun t k => pr727 t (by
            show Sx p e below T679 m 226 #[iv p1, iv p2, iv p3, iv p4, iv p5, iv (ab0_ p5), iv z2_, iv z5_, iv z8_, iv z11_, rv b640, .unset, .unset, .unset] [.int 59, .int z11_] _
            refine zy (pc' := 233) X679 Bd at_226 (XT.ii_ne_t (hc728 : ¬ (z11_ = (59 : Int32)))) rfl ?_
            refine zc X679 Bd at_233 ?_
            refine zs X679 Bd at_234 (l' := #[iv p1, iv p2, iv p3, iv p4, iv p5, iv (ab0_ p5), iv z2_, iv z5_, iv z8_, iv z11_, rv b640, iv 0, .unset, .unset]) rfl ?_
            exact k)
           exact kont717 ⟨T679, _, T679.heap, (0 : Int32), (X679.mono (lE rfl) (lE rfl)), rfl, N679, (Keep.refl T679.heap []), (by rw [own_has, if_neg hc719, own_has, if_neg hc722, own_has, if_neg hc725, own_has, if_neg hc728, own_has] <;> rfl), (fun t k => pr730 t k)⟩
      ·
       obtain ⟨T717, L717, h717, s1_, X717, e717, N717, K717j, hp717_0, pr717⟩ := hA717
       have K731 := K707.trans K717j (fun x q => nomatch q)
       have C732 : CHv Z consts_1 s.vm h717 := CHv.keep K717j sf0 C708
       have R733 : CHr Z consts_1 s.vm h0 s.vm h717 := R715.trans (CHr.keep K717j sf0 C708)
       refine cps (A := ∃ T734 : State, ∃ L734 : List Loc, ∃ h734 : Heap, ∃ a1_ : Int32, Stand p l e room_1 (s.setVm s.vm) m #[.int p1, .int p2, .int p3, .int p4, .int p5] below meth c T734 L734 4 20 ∧ T734.heap = h734 ∧ Fr n0 L734 ∧ Keep h717 h734 [] ∧ (a1_ = own_has (38 : Int32) ([z2_, z5_, z8_, z11_] : List Int32)) ∧ Pr p e below T734 m 294 #[iv p1, iv p2, iv p3, iv p4, iv p5, iv (ab0_ p5), iv z2_, iv z5_, iv z8_, iv z11_, rv b640, iv s1_, iv a1_, .unset] [] s₁ en) (fun kont734 => ?_) (fun hA734 => ?_)
       ·
        skip
        have pr735 : Pr p e below T717 m 245 #[iv p1, iv p2, iv p3, iv p4, iv p5, iv (ab0_ p5), iv z2_, iv z5_, iv z8_, iv z11_, rv b640, iv s1_, .unset, .unset] [.int 38, .int z2_] s₁ en := fun t k => pr717 t (by
         show Sx p e below T717 m 236 #[iv p1, iv p2, iv p3, iv p4, iv p5, iv (ab0_ p5), iv z2_, iv z5_, iv z8_, iv z11_, rv b640, iv s1_, .unset, .unset] [] _
         refine zi X717 Bd at_236 rfl ?_
         refine zo X717 Bd at_238 (XT.i0_le_f ((own_sub (p := fun z_ => (0 : Int32) < z_) (own_rem5f p5 hc14 hc86 hc243 hc428) (by decide)) : (0 : Int32) < (ab0_ p5))) ?_
         refine zi X717 Bd at_241 rfl ?_
         refine zd X717 Bd at_243 ?_
         exact k)
        by_cases hc736 : z2_ = (38 : Int32)
        ·
         skip
         have pr737 : Pr p e below T717 m 294 #[iv p1, iv p2, iv p3, iv p4, iv p5, iv (ab0_ p5), iv z2_, iv z5_, iv z8_, iv z11_, rv b640, iv s1_, iv 1, .unset] [] s₁ en := fun t k => pr735 t (by
          show Sx p e below T717 m 245 #[iv p1, iv p2, iv p3, iv p4, iv p5, iv (ab0_ p5), iv z2_, iv z5_, iv z8_, iv z11_, rv b640, iv s1_, .unset, .unset] [.int 38, .int z2_] _
          refine zy (pc' := 287) X717 Bd at_245 (XT.ii_eq_t (hc736 : z2_ = (38 : Int32))) rfl ?_
          refine zc X717 Bd at_287 ?_
          refine zg (pc' := 292) X717 Bd at_288 rfl ?_
          refine zs X717 Bd at_292 (l' := #[iv p1, iv p2, iv p3, iv p4, iv p5, iv (ab0_ p5), iv z2_, iv z5_, iv z8_, iv z11_, rv b640, iv s1_, iv 1, .unset]) rfl ?_
          exact k)
         exact kont734 ⟨T717, _, h717, (1 : Int32), (X717.mono (lE rfl) (lE rfl)), e717, N717, (Keep.refl h717 []), (by rw [own_has, if_pos hc736] <;> rfl), (fun t k => pr737 t k)⟩
        ·
         skip
         have pr738 : Pr p e below T717 m 258 #[iv p1, iv p2, iv p3, iv p4, iv p5, iv (ab0_ p5), iv z2_, iv z5_, iv z8_, iv z11_, rv b640, iv s1_, .unset, .unset] [.int 38, .int z5_] s₁ en := fun t k => pr735 t (by
          show Sx p e below T717 m 245 #[iv p1, iv p2, iv p3, iv p4, iv p5, iv (ab0_ p5), iv z2_, iv z5_, iv z8_, iv z11_, rv b640, iv s1_, .unset, .unset] [.int 38, .int z2_] _
          refine zn X717 Bd at_245 (XT.ii_eq_f (hc736 : ¬ (z2_ = (38 : Int32)))) ?_
          refine zi X717 Bd at_248 rfl ?_
          refine zc X717 Bd at_250 ?_
          refine zn X717 Bd at_251 (XT.ii_le_f ((own_sub (p := fun z_ => (1 : Int32) < z_) (own_rem5f p5 hc14 hc86 hc243 hc428) (by decide)) : (1 : Int32) < (ab0_ p5))) ?_
          refine zi X717 Bd at_254 rfl ?_
          refine zd X717 Bd at_256 ?_
          exact k)
         by_cases hc739 : z5_ = (38 : Int32)
         ·
          skip
          have pr740 : Pr p e below T717 m 294 #[iv p1, iv p2, iv p3, iv p4, iv p5, iv (ab0_ p5), iv z2_, iv z5_, iv z8_, iv z11_, rv b640, iv s1_, iv 1, .unset] [] s₁ en := fun t k => pr738 t (by
           show Sx p e below T717 m 258 #[iv p1, iv p2, iv p3, iv p4, iv p5, iv (ab0_ p5), iv z2_, iv z5_, iv z8_, iv z11_, rv b640, iv s1_, .unset, .unset] [.int 38, .int z5_] _
           refine zy (pc' := 287) X717 Bd at_258 (XT.ii_eq_t (hc739 : z5_ = (38 : Int32))) rfl ?_
           refine zc X717 Bd at_287 ?_
           refine zg (pc' := 292) X717 Bd at_288 rfl ?_
           refine zs X717 Bd at_292 (l' := #[iv p1, iv p2, iv p3, iv p4, iv p5, iv (ab0_ p5), iv z2_, iv z5_, iv z8_, iv z11_, rv b640, iv s1_, iv 1, .unset]) rfl ?_
           exact k)
          exact kont734 ⟨T717, _, h717, (1 : Int32), (X717.mono (lE rfl) (lE rfl)), e717, N717, (Keep.refl h717 []), (by rw [own_has, if_neg hc736, own_has, if_pos hc739] <;> rfl), (fun t k => pr740 t k)⟩
         ·
          skip
          have pr741 : Pr p e below T717 m 271 #[iv p1, iv p2, iv p3, iv p4, iv p5, iv (ab0_ p5), iv z2_, iv z5_, iv z8_, iv z11_, rv b640, iv s1_, .unset, .unset] [.int 38, .int z8_] s₁ en := fun t k => pr738 t (by
           show Sx p e below T717 m 258 #[iv p1, iv p2, iv p3, iv p4, iv p5, iv (ab0_ p5), iv z2_, iv z5_, iv z8_, iv z11_, rv b640, iv s1_, .unset, .unset] [.int 38, .int z5_] _
           refine zn X717 Bd at_258 (XT.ii_eq_f (hc739 : ¬ (z5_ = (38 : Int32)))) ?_
           refine zi X717 Bd at_261 rfl ?_
           refine zc X717 Bd at_263 ?_
           refine zn X717 Bd at_264 (XT.ii_le_f ((own_sub (p := fun z_ => (2 : Int32) < z_) (own_rem5f p5 hc14 hc86 hc243 hc428) (by decide)) : (2 : Int32) < (ab0_ p5))) ?_
           refine zi X717 Bd at_267 rfl ?_
           refine zd X717 Bd at_269 ?_
           exact k)
          by_cases hc742 : z8_ = (38 : Int32)
          ·
           skip
           have pr743 : Pr p e below T717 m 294 #[iv p1, iv p2, iv p3, iv p4, iv p5, iv (ab0_ p5), iv z2_, iv z5_, iv z8_, iv z11_, rv b640, iv s1_, iv 1, .unset] [] s₁ en := fun t k => pr741 t (by
            show Sx p e below T717 m 271 #[iv p1, iv p2, iv p3, iv p4, iv p5, iv (ab0_ p5), iv z2_, iv z5_, iv z8_, iv z11_, rv b640, iv s1_, .unset, .unset] [.int 38, .int z8_] _
            refine zy (pc' := 287) X717 Bd at_271 (XT.ii_eq_t (hc742 : z8_ = (38 : Int32))) rfl ?_
            refine zc X717 Bd at_287 ?_
            refine zg (pc' := 292) X717 Bd at_288 rfl ?_
            refine zs X717 Bd at_292 (l' := #[iv p1, iv p2, iv p3, iv p4, iv p5, iv (ab0_ p5), iv z2_, iv z5_, iv z8_, iv z11_, rv b640, iv s1_, iv 1, .unset]) rfl ?_
            exact k)
           exact kont734 ⟨T717, _, h717, (1 : Int32), (X717.mono (lE rfl) (lE rfl)), e717, N717, (Keep.refl h717 []), (by rw [own_has, if_neg hc736, own_has, if_neg hc739, own_has, if_pos hc742] <;> rfl), (fun t k => pr743 t k)⟩
          ·
           skip
           have pr744 : Pr p e below T717 m 284 #[iv p1, iv p2, iv p3, iv p4, iv p5, iv (ab0_ p5), iv z2_, iv z5_, iv z8_, iv z11_, rv b640, iv s1_, .unset, .unset] [.int 38, .int z11_] s₁ en := fun t k => pr741 t (by
            show Sx p e below T717 m 271 #[iv p1, iv p2, iv p3, iv p4, iv p5, iv (ab0_ p5), iv z2_, iv z5_, iv z8_, iv z11_, rv b640, iv s1_, .unset, .unset] [.int 38, .int z8_] _
            refine zn X717 Bd at_271 (XT.ii_eq_f (hc742 : ¬ (z8_ = (38 : Int32)))) ?_
            refine zi X717 Bd at_274 rfl ?_
            refine zc X717 Bd at_276 ?_
            refine zn X717 Bd at_277 (XT.ii_le_f ((own_sub (p := fun z_ => (3 : Int32) < z_) (own_rem5f p5 hc14 hc86 hc243 hc428) (by decide)) : (3 : Int32) < (ab0_ p5))) ?_
            refine zi X717 Bd at_280 rfl ?_
            refine zd X717 Bd at_282 ?_
            exact k)
           by_cases hc745 : z11_ = (38 : Int32)
           ·
            skip
            have pr746 : Pr p e below T717 m 294 #[iv p1, iv p2, iv p3, iv p4, iv p5, iv (ab0_ p5), iv z2_, iv z5_, iv z8_, iv z11_, rv b640, iv s1_, iv 1, .unset] [] s₁ en := fun t k => pr744 t (by
             show Sx p e below T717 m 284 #[iv p1, iv p2, iv p3, iv p4, iv p5, iv (ab0_ p5), iv z2_, iv z5_, iv z8_, iv z11_, rv b640, iv s1_, .unset, .unset] [.int 38, .int z11_] _
             refine zn X717 Bd at_284 (XT.ii_ne_f (hc745 : z11_ = (38 : Int32))) ?_
             refine zc X717 Bd at_287 ?_
             refine zg (pc' := 292) X717 Bd at_288 rfl ?_
             refine zs X717 Bd at_292 (l' := #[iv p1, iv p2, iv p3, iv p4, iv p5, iv (ab0_ p5), iv z2_, iv z5_, iv z8_, iv z11_, rv b640, iv s1_, iv 1, .unset]) rfl ?_
             exact k)
            exact kont734 ⟨T717, _, h717, (1 : Int32), (X717.mono (lE rfl) (lE rfl)), e717, N717, (Keep.refl h717 []), (by rw [own_has, if_neg hc736, own_has, if_neg hc739, own_has, if_neg hc742, own_has, if_pos hc745] <;> rfl), (fun t k => pr746 t k)⟩
           ·
            skip
            have pr747 : Pr p e below T717 m 294 #[iv p1, iv p2, iv p3, iv p4, iv p5, iv (ab0_ p5), iv z2_, iv z5_, iv z8_, iv z11_, rv b640, iv s1_, iv 0, .unset] [] s₁ en := fun t k => pr744 t (by
             show Sx p e below T717 m 284 #[iv p1, iv p2, iv p3, iv p4, iv p5, iv (ab0_ p5), iv z2_, iv z5_, iv z8_, iv z11_, rv b640, iv s1_, .unset, .unset] [.int 38, .int z11_] _
             refine zy (pc' := 291) X717 Bd at_284 (XT.ii_ne_t (hc745 : ¬ (z11_ = (38 : Int32)))) rfl ?_
             refine zc X717 Bd at_291 ?_
             refine zs X717 Bd at_292 (l' := #[iv p1, iv p2, iv p3, iv p4, iv p5, iv (ab0_ p5), iv z2_, iv z5_, iv z8_, iv z11_, rv b640, iv s1_, iv 0, .unset]) rfl ?_
             exact k)
            exact kont734 ⟨T717, _, h717, (0 : Int32), (X717.mono (lE rfl) (lE rfl)), e717, N717, (Keep.refl h717 []), (by rw [own_has, if_neg hc736, own_has, if_neg hc739, own_has, if_neg hc742, own_has, if_neg hc745, own_has] <;> rfl), (fun t k => pr747 t k)⟩
       ·
        obtain ⟨T734, L734, h734, a1_, X734, e734, N734, K734j, hp734_0, pr734⟩ := hA734
        have K748 := K731.trans K734j (fun x q => nomatch q)
        have C749 : CHv Z consts_1 s.vm h734 := CHv.keep K734j sf0 C732
        have R750 : CHr Z consts_1 s.vm h0 s.vm h734 := R733.trans (CHr.keep K734j sf0 C732)
        refine cps (A := ∃ T751 : State, ∃ L751 : List Loc, ∃ h751 : Heap, ∃ ex_ : Int32, Stand p l e room_1 (s.setVm s.vm) m #[.int p1, .int p2, .int p3, .int p4, .int p5] below meth c T751 L751 4 20 ∧ T751.heap = h751 ∧ Fr n0 L751 ∧ Keep h734 h751 [] ∧ (ex_ = own_exp ([z2_, z5_, z8_, z11_] : List Int32)) ∧ Pr p e below T751 m 313 #[iv p1, iv p2, iv p3, iv p4, iv p5, iv (ab0_ p5), iv z2_, iv z5_, iv z8_, iv z11_, rv b640, iv s1_, iv a1_, iv ex_] [] s₁ en) (fun kont751 => ?_) (fun hA751 => ?_)
        ·
         skip
         have pr752 : Pr p e below T734 m 296 #[iv p1, iv p2, iv p3, iv p4, iv p5, iv (ab0_ p5), iv z2_, iv z5_, iv z8_, iv z11_, rv b640, iv s1_, iv a1_, .unset] [.int s1_] s₁ en := fun t k => pr734 t (by
          show Sx p e below T734 m 294 #[iv p1, iv p2, iv p3, iv p4, iv p5, iv (ab0_ p5), iv z2_, iv z5_, iv z8_, iv z11_, rv b640, iv s1_, iv a1_, .unset] [] _
          refine zi X734 Bd at_294 rfl ?_
          exact k)
         by_cases hc753 : s1_ = (0 : Int32)
         ·
          skip
          have pr754 : Pr p e below T734 m 313 #[iv p1, iv p2, iv p3, iv p4, iv p5, iv (ab0_ p5), iv z2_, iv z5_, iv z8_, iv z11_, rv b640, iv s1_, iv a1_, iv 38] [] s₁ en := fun t k => pr752 t (by
           show Sx p e below T734 m 296 #[iv p1, iv p2, iv p3, iv p4, iv p5, iv (ab0_ p5), iv z2_, iv z5_, iv z8_, iv z11_, rv b640, iv s1_, iv a1_, .unset] [.int s1_] _
           refine zp (pc' := 309) X734 Bd at_296 (XT.i0_eq_t (hc753 : s1_ = (0 : Int32))) rfl ?_
           refine zd X734 Bd at_309 ?_
           refine zs X734 Bd at_311 (l' := #[iv p1, iv p2, iv p3, iv p4, iv p5, iv (ab0_ p5), iv z2_, iv z5_, iv z8_, iv z11_, rv b640, iv s1_, iv a1_, iv 38]) rfl ?_
           exact k)
          exact kont751 ⟨T734, _, h734, (38 : Int32), (X734.mono (lE rfl) (lE rfl)), e734, N734, (Keep.refl h734 []), (by rw [own_exp, ← hp717_0, if_pos hc753] <;> rfl), (fun t k => pr754 t k)⟩
         ·
          skip
          have pr755 : Pr p e below T734 m 301 #[iv p1, iv p2, iv p3, iv p4, iv p5, iv (ab0_ p5), iv z2_, iv z5_, iv z8_, iv z11_, rv b640, iv s1_, iv a1_, .unset] [.int a1_] s₁ en := fun t k => pr752 t (by
           show Sx p e below T734 m 296 #[iv p1, iv p2, iv p3, iv p4, iv p5, iv (ab0_ p5), iv z2_, iv z5_, iv z8_, iv z11_, rv b640, iv s1_, iv a1_, .unset] [.int s1_] _
           refine zo X734 Bd at_296 (XT.i0_eq_f (hc753 : ¬ (s1_ = (0 : Int32)))) ?_
           refine zi X734 Bd at_299 rfl ?_
           exact k)
          by_cases hc756 : a1_ = (0 : Int32)
          ·
           skip
           have pr757 : Pr p e below T734 m 313 #[iv p1, iv p2, iv p3, iv p4, iv p5, iv (ab0_ p5), iv z2_, iv z5_, iv z8_, iv z11_, rv b640, iv s1_, iv a1_, iv 59] [] s₁ en := fun t k => pr755 t (by
            show Sx p e below T734 m 301 #[iv p1, iv p2, iv p3, iv p4, iv p5, iv (ab0_ p5), iv z2_, iv z5_, iv z8_, iv z11_, rv b640, iv s1_, iv a1_, .unset] [.int a1_] _
            refine zo X734 Bd at_301 (XT.i0_ne_f (hc756 : a1_ = (0 : Int32))) ?_
            refine zd X734 Bd at_304 ?_
            refine zg (pc' := 311) X734 Bd at_306 rfl ?_
            refine zs X734 Bd at_311 (l' := #[iv p1, iv p2, iv p3, iv p4, iv p5, iv (ab0_ p5), iv z2_, iv z5_, iv z8_, iv z11_, rv b640, iv s1_, iv a1_, iv 59]) rfl ?_
            exact k)
           exact kont751 ⟨T734, _, h734, (59 : Int32), (X734.mono (lE rfl) (lE rfl)), e734, N734, (Keep.refl h734 []), (by rw [own_exp, ← hp717_0, if_neg hc753, ← hp734_0, if_pos hc756] <;> rfl), (fun t k => pr757 t k)⟩
          ·
           skip
           have pr758 : Pr p e below T734 m 313 #[iv p1, iv p2, iv p3, iv p4, iv p5, iv (ab0_ p5), iv z2_, iv z5_, iv z8_, iv z11_, rv b640, iv s1_, iv a1_, iv 38] [] s₁ en := fun t k => pr755 t (by
            show Sx p e below T734 m 301 #[iv p1, iv p2, iv p3, iv p4, iv p5, iv (ab0_ p5), iv z2_, iv z5_, iv z8_, iv z11_, rv b640, iv s1_, iv a1_, .unset] [.int a1_] _
            refine zp (pc' := 309) X734 Bd at_301 (XT.i0_ne_t (hc756 : ¬ (a1_ = (0 : Int32)))) rfl ?_
            refine zd X734 Bd at_309 ?_
            refine zs X734 Bd at_311 (l' := #[iv p1, iv p2, iv p3, iv p4, iv p5, iv (ab0_ p5), iv z2_, iv z5_, iv z8_, iv z11_, rv b640, iv s1_, iv a1_, iv 38]) rfl ?_
            exact k)
           exact kont751 ⟨T734, _, h734, (38 : Int32), (X734.mono (lE rfl) (lE rfl)), e734, N734, (Keep.refl h734 []), (by rw [own_exp, ← hp717_0, if_neg hc753, ← hp734_0, if_neg hc756] <;> rfl), (fun t k => pr758 t k)⟩
        ·
         obtain ⟨T751, L751, h751, ex_, X751, e751, N751, K751j, hp751_0, pr751⟩ := hA751
         have K759 := K748.trans K751j (fun x q => nomatch q)
         have C760 : CHv Z consts_1 s.vm h751 := CHv.keep K751j sf0 C749
         have R761 : CHr Z consts_1 s.vm h0 s.vm h751 := R750.trans (CHr.keep K751j sf0 C749)
         have E763_ := E684_.keep K679q
         have E764_ := E763_.keep K717j
         have E765_ := E764_.keep K734j
         have E766_ := E765_.keep K751j
         have F767_ := w704.keep K717j nin0
         have F768_ := F767_.keep K734j nin0
         have F769_ := F768_.keep K751j nin0
         have F770_ := w705.keep K717j nin0
         have F771_ := F770_.keep K734j nin0
         have F772_ := F771_.keep K751j nin0
         have A773_ := w706.keep K717j nin0
         have A774_ := A773_.keep K734j nin0
         have A775_ := A774_.keep K751j nin0
         have O776 := O699.keep K679q (allS g_b640 all0)
         have O777 := O776.keep K717j all0
         have O778 := O777.keep K734j all0
         have O779 := O778.keep K751j all0
         obtain ⟨_, T762, L762, X762, hQ762, st762⟩ := own_cS 4 20 [] 315 #[iv p1, iv p2, iv p3, iv p4, iv p5, iv (ab0_ p5), iv z2_, iv z5_, iv z8_, iv z11_, rv b640, iv s1_, iv a1_, iv ex_] X751 hx hZ hown (w28_ hw) (w29_ hw) (w30_ hw) (w31_ hw) (rm122 l Z a0 hw G1 G3 b640 b700 c701_ ((((z2_ >>> ((0 : Int32) &&& 31)))).toInt8.toInt32) ((((z2_ >>> ((8 : Int32) &&& 31)))).toInt8.toInt32) ((((z5_ >>> ((0 : Int32) &&& 31)))).toInt8.toInt32) ((((z5_ >>> ((8 : Int32) &&& 31)))).toInt8.toInt32) ((((z8_ >>> ((0 : Int32) &&& 31)))).toInt8.toInt32) ((((z8_ >>> ((8 : Int32) &&& 31)))).toInt8.toInt32) ((((z11_ >>> ((0 : Int32) &&& 31)))).toInt8.toInt32) ((((z11_ >>> ((8 : Int32) &&& 31)))).toInt8.toInt32) h751 n0 O779 O2 P5 O4 rG3 uS12 uS15 uS18 E766_ F769_ F772_ A775_) pd9 hml.symm (hb hby at_315) e751 rfl rfl rfl rfl (by decide)
         obtain ⟨rfl, N762q, e762q⟩ := hQ762
         have N762 := Fr.app N751 N762q
         have hk780' : _ ≤ h751.size := (Nat.le_trans (Nat.le_trans (Nat.le_trans (Nat.le_trans (Nat.le_trans (Nat.le_trans (Nat.le_trans (Nat.le_trans (Nat.le_trans (Nat.le_trans hk0 E640.1) E646.1) (Nat.le_of_eq W652.size.symm)) (Nat.le_of_eq W659.size.symm)) (Nat.le_of_eq W665.size.symm)) (Nat.le_of_eq W671.size.symm)) K679q.1) K717j.1) K734j.1) K751j.1)
         refine own_lvW X762 Bd.notSynchronized hS0 hk780' (v := (some (.int 1))) (fun h => by rw [Bd.returns] at h; cases h) e762q hh ⟨rfl, N762⟩ (R761.trans (CHv.at X762 hZ hEL C760)) (lE rfl) (lE rfl) (fun fs hr => pr751 _ (by
          show Sx p e below T751 m 313 #[iv p1, iv p2, iv p3, iv p4, iv p5, iv (ab0_ p5), iv z2_, iv z5_, iv z8_, iv z11_, rv b640, iv s1_, iv a1_, iv ex_] [] _
          refine za X751 Bd at_313 rfl rfl ?_
          refine st762 _ ?_
          refine zi X762 Bd at_318 rfl ?_
          refine zn X762 Bd at_320 (XT.ii_ne_f (((own_fin16 (l := (own_L4 ((((z2_ >>> ((0 : Int32) &&& 31)))).toInt8.toInt32) ((((z2_ >>> ((8 : Int32) &&& 31)))).toInt8.toInt32) ((((z5_ >>> ((0 : Int32) &&& 31)))).toInt8.toInt32) ((((z5_ >>> ((8 : Int32) &&& 31)))).toInt8.toInt32) ((((z8_ >>> ((0 : Int32) &&& 31)))).toInt8.toInt32) ((((z8_ >>> ((8 : Int32) &&& 31)))).toInt8.toInt32) ((((z11_ >>> ((0 : Int32) &&& 31)))).toInt8.toInt32) ((((z11_ >>> ((8 : Int32) &&& 31)))).toInt8.toInt32))) (z := ([z2_, z5_, z8_, z11_] : List Int32)) (own_cons (own_get16 w3) (own_cons (own_get16 w6) (own_cons (own_get16 w9) (own_cons (own_get16 w12) rfl)))) (lE rfl)).trans hp751_0.symm) : (own_sep (own_L4 ((((z2_ >>> ((0 : Int32) &&& 31)))).toInt8.toInt32) ((((z2_ >>> ((8 : Int32) &&& 31)))).toInt8.toInt32) ((((z5_ >>> ((0 : Int32) &&& 31)))).toInt8.toInt32) ((((z5_ >>> ((8 : Int32) &&& 31)))).toInt8.toInt32) ((((z8_ >>> ((0 : Int32) &&& 31)))).toInt8.toInt32) ((((z8_ >>> ((8 : Int32) &&& 31)))).toInt8.toInt32) ((((z11_ >>> ((0 : Int32) &&& 31)))).toInt8.toInt32) ((((z11_ >>> ((8 : Int32) &&& 31)))).toInt8.toInt32))) = ex_)) ?_
          refine zc X762 Bd at_323 ?_
          refine zg (pc' := 328) X762 Bd at_324 rfl ?_
          exact retN X762 hx (t := .boolean) Bd.returns (by simp) (hb hby at_328) hr))
     ·
      skip
      have hp782 : ∀ c ∈ ([z2_, z5_, z8_, z11_] : List Int32), ¬ c < 0 ∧ ¬ (255 : Int32) < c := (List.forall_mem_cons.mpr ⟨(And.intro (own_ch0 w3) (own_maxle hc678 (mI 0 rfl))), (List.forall_mem_cons.mpr ⟨(And.intro (own_ch0 w6) (own_maxle hc678 (mI 1 rfl))), (List.forall_mem_cons.mpr ⟨(And.intro (own_ch0 w9) (own_maxle hc678 (mI 2 rfl))), (List.forall_mem_cons.mpr ⟨(And.intro (own_ch0 w12) (own_maxle hc678 (mI 3 rfl))), (fun _ q => nomatch q)⟩)⟩)⟩)⟩)
      have g_b640 : n0 ≤ b640 := Nat.le_trans (Nat.le_trans (Nat.le_of_eq X00.1.symm) X00.2.1) (Nat.le_of_eq g640.symm)
      have O783 := O653.ext E646
      have O784 := O783.wr W652 g_b646
      have O785 := O784.wr W659 g_b646
      have O786 := O785.wr W665 g_b646
      have O787 := O786.wr W671 g_b646
      have E788_ := A640.ext E646
      have E789_ := E788_.wr W652
      have E790_ := E789_.wr W659
      have E791_ := E790_.wr W665
      have E792_ := E791_.wr W671
      have F793_ := F644_.ext E646
      have F794_ := F793_.other W652 (Or.inl (Nat.ne_of_lt (Nat.lt_of_lt_of_le A640.lt (Nat.le_of_eq g646.symm))))
      have F795_ := F794_.other W659 (Or.inl (Nat.ne_of_lt (Nat.lt_of_lt_of_le A640.lt (Nat.le_of_eq g646.symm))))
      have F796_ := F795_.other W665 (Or.inl (Nat.ne_of_lt (Nat.lt_of_lt_of_le A640.lt (Nat.le_of_eq g646.symm))))
      have F797_ := F796_.other W671 (Or.inl (Nat.ne_of_lt (Nat.lt_of_lt_of_le A640.lt (Nat.le_of_eq g646.symm))))
      have F798_ := F645_.ext E646
      have F799_ := F798_.other W652 (Or.inl (Nat.ne_of_lt (Nat.lt_of_lt_of_le A640.lt (Nat.le_of_eq g646.symm))))
      have F800_ := F799_.other W659 (Or.inl (Nat.ne_of_lt (Nat.lt_of_lt_of_le A640.lt (Nat.le_of_eq g646.symm))))
      have F801_ := F800_.other W665 (Or.inl (Nat.ne_of_lt (Nat.lt_of_lt_of_le A640.lt (Nat.le_of_eq g646.symm))))
      have F802_ := F801_.other W671 (Or.inl (Nat.ne_of_lt (Nat.lt_of_lt_of_le A640.lt (Nat.le_of_eq g646.symm))))
      obtain ⟨_, T781, L781, X781, hQ781, st781⟩ := own_cb 2 8 1 4 3 12 (X671.specialBack hx (y := Y2_) rfl hown (mvT hZ (w10_ hw)) (mvT hZ (w11_ hw)) (mvT hZ (w12_ hw)) (by decide) (StrChars.Road.backV (s := s.setVm s.vm) (W := 1) hZ (own_ws hw) (kI := 4) (w7_ hw) (cs := ([z2_, z5_, z8_, z11_] : List Int32)) (bs := ([z2_, z5_, z8_, z11_] : List Int32).map (fun c => c.toInt8.toInt32)) (n := 4) g_b640 (Nat.le_trans (Nat.le_of_eq O787.1.symm) O787.2.1) E792_ F797_ F802_ A675_ (O2.ext O787.2) P5 rfl rfl (lE rfl) (lE rfl) hp782 rfl (lE rfl) (lE rfl)) (g := (mkF m 173 #[iv p1, iv p2, iv p3, iv p4, iv p5, iv (ab0_ p5), iv z2_, iv z5_, iv z8_, iv z11_, .unset, .unset, .unset, .unset] [.ref b646, .ref b640, .ref b640])) rfl hml.symm (Steps.refl _) (a := b640) (argsL := [.ref b646]) (rest := [.ref b640]) (lenOf pd2 rfl) rfl (own_hw rfl) (hb hby at_173) (fun _ _ => ⟨rfl, e671, (lE rfl : 2 + 1 ≤ _), (lE rfl : 8 + 4 ≤ _)⟩)) rfl rfl
      obtain ⟨rfl, N781q, K781q, E781q, C781q, b803, c803_, u803, g803, ne803, V803_, A803_⟩ := hQ781
      have N781 := Fr.app N671_ N781q
      have sz_b640 : h0.size ≤ b640 := (Nat.le_of_eq g640.symm)
      have K804 := K672.trans K781q (allS (Or.inr sz_b640) all0)
      have f806 : Safe Z consts_1 s.vm h640 b640 := Safe.ext E640 hC0 (Safe.new (Nat.le_of_eq g640.symm))
      have f807 : Safe Z consts_1 s.vm h646 b640 := Safe.ext E646 C642 f806
      have f808 : Safe Z consts_1 s.vm h652 b640 := Safe.wr W652 (Safe.arv hZ.alike A650_ (by simp)) C648 f807
      have f809 : Safe Z consts_1 s.vm h659 b640 := Safe.wr W659 (Safe.arv hZ.alike A657_ (by simp)) C655 f808
      have f810 : Safe Z consts_1 s.vm h665 b640 := Safe.wr W665 (Safe.arv hZ.alike A663_ (by simp)) C661 f809
      have f811 : Safe Z consts_1 s.vm h671 b640 := Safe.wr W671 (Safe.arv hZ.alike A669_ (by simp)) C667 f810
      have C805 : CHv Z consts_1 s.vm T781.heap := CHv.keep K781q (sfS f811 sf0) C673
      have R812 : CHr Z consts_1 s.vm h0 s.vm T781.heap := R674.trans (CHr.keep K781q (sfS f811 sf0) C673)
      have pr813 : Pr p e below T781 m 178 #[iv p1, iv p2, iv p3, iv p4, iv p5, iv (ab0_ p5), iv z2_, iv z5_, iv z8_, iv z11_, rv b640, .unset, .unset, .unset] [] s₁ en := fun t k => pr677 t (by
       show Sx p e below T671 m 173 #[iv p1, iv p2, iv p3, iv p4, iv p5, iv (ab0_ p5), iv z2_, iv z5_, iv z8_, iv z11_, .unset, .unset, .unset, .unset] [.ref b646, .ref b640, .ref b640] _
       refine st781.trans ?_
       refine XS.astore X781.here hx rfl (hb hby at_176) rfl rfl (l' := #[iv p1, iv p2, iv p3, iv p4, iv p5, iv (ab0_ p5), iv z2_, iv z5_, iv z8_, iv z11_, rv b640, .unset, .unset, .unset]) rfl ?_
       exact k)
      refine cps (A := ∃ T814 : State, ∃ L814 : List Loc, ∃ h814 : Heap, ∃ s1_ : Int32, Stand p l e room_1 (s.setVm s.vm) m #[.int p1, .int p2, .int p3, .int p4, .int p5] below meth c T814 L814 3 12 ∧ T814.heap = h814 ∧ Fr n0 L814 ∧ Keep T781.heap h814 [] ∧ (s1_ = own_has (59 : Int32) ([z2_, z5_, z8_, z11_] : List Int32)) ∧ Pr p e below T814 m 236 #[iv p1, iv p2, iv p3, iv p4, iv p5, iv (ab0_ p5), iv z2_, iv z5_, iv z8_, iv z11_, rv b640, iv s1_, .unset, .unset] [] s₁ en) (fun kont814 => ?_) (fun hA814 => ?_)
      ·
       skip
       have pr815 : Pr p e below T781 m 187 #[iv p1, iv p2, iv p3, iv p4, iv p5, iv (ab0_ p5), iv z2_, iv z5_, iv z8_, iv z11_, rv b640, .unset, .unset, .unset] [.int 59, .int z2_] s₁ en := fun t k => pr813 t (by
        show Sx p e below T781 m 178 #[iv p1, iv p2, iv p3, iv p4, iv p5, iv (ab0_ p5), iv z2_, iv z5_, iv z8_, iv z11_, rv b640, .unset, .unset, .unset] [] _
        refine zi X781 Bd at_178 rfl ?_
        refine zo X781 Bd at_180 (XT.i0_le_f ((own_sub (p := fun z_ => (0 : Int32) < z_) (own_rem5f p5 hc14 hc86 hc243 hc428) (by decide)) : (0 : Int32) < (ab0_ p5))) ?_
        refine zi X781 Bd at_183 rfl ?_
        refine zd X781 Bd at_185 ?_
        exact k)
       by_cases hc816 : z2_ = (59 : Int32)
       ·
        skip
        have pr817 : Pr p e below T781 m 236 #[iv p1, iv p2, iv p3, iv p4, iv p5, iv (ab0_ p5), iv z2_, iv z5_, iv z8_, iv z11_, rv b640, iv 1, .unset, .unset] [] s₁ en := fun t k => pr815 t (by
         show Sx p e below T781 m 187 #[iv p1, iv p2, iv p3, iv p4, iv p5, iv (ab0_ p5), iv z2_, iv z5_, iv z8_, iv z11_, rv b640, .unset, .unset, .unset] [.int 59, .int z2_] _
         refine zy (pc' := 229) X781 Bd at_187 (XT.ii_eq_t (hc816 : z2_ = (59 : Int32))) rfl ?_
         refine zc X781 Bd at_229 ?_
         refine zg (pc' := 234) X781 Bd at_230 rfl ?_
         refine zs X781 Bd at_234 (l' := #[iv p1, iv p2, iv p3, iv p4, iv p5, iv (ab0_ p5), iv z2_, iv z5_, iv z8_, iv z11_, rv b640, iv 1, .unset, .unset]) rfl ?_
         exact k)
        exact kont814 ⟨T781, _, T781.heap, (1 : Int32), (X781.mono (lE rfl) (lE rfl)), rfl, N781, (Keep.refl T781.heap []), (by rw [own_has, if_pos hc816] <;> rfl), (fun t k => pr817 t k)⟩
       ·
        skip
        have pr818 : Pr p e below T781 m 200 #[iv p1, iv p2, iv p3, iv p4, iv p5, iv (ab0_ p5), iv z2_, iv z5_, iv z8_, iv z11_, rv b640, .unset, .unset, .unset] [.int 59, .int z5_] s₁ en := fun t k => pr815 t (by
         show Sx p e below T781 m 187 #[iv p1, iv p2, iv p3, iv p4, iv p5, iv (ab0_ p5), iv z2_, iv z5_, iv z8_, iv z11_, rv b640, .unset, .unset, .unset] [.int 59, .int z2_] _
         refine zn X781 Bd at_187 (XT.ii_eq_f (hc816 : ¬ (z2_ = (59 : Int32)))) ?_
         refine zi X781 Bd at_190 rfl ?_
         refine zc X781 Bd at_192 ?_
         refine zn X781 Bd at_193 (XT.ii_le_f ((own_sub (p := fun z_ => (1 : Int32) < z_) (own_rem5f p5 hc14 hc86 hc243 hc428) (by decide)) : (1 : Int32) < (ab0_ p5))) ?_
         refine zi X781 Bd at_196 rfl ?_
         refine zd X781 Bd at_198 ?_
         exact k)
        by_cases hc819 : z5_ = (59 : Int32)
        ·
         skip
         have pr820 : Pr p e below T781 m 236 #[iv p1, iv p2, iv p3, iv p4, iv p5, iv (ab0_ p5), iv z2_, iv z5_, iv z8_, iv z11_, rv b640, iv 1, .unset, .unset] [] s₁ en := fun t k => pr818 t (by
          show Sx p e below T781 m 200 #[iv p1, iv p2, iv p3, iv p4, iv p5, iv (ab0_ p5), iv z2_, iv z5_, iv z8_, iv z11_, rv b640, .unset, .unset, .unset] [.int 59, .int z5_] _
          refine zy (pc' := 229) X781 Bd at_200 (XT.ii_eq_t (hc819 : z5_ = (59 : Int32))) rfl ?_
          refine zc X781 Bd at_229 ?_
          refine zg (pc' := 234) X781 Bd at_230 rfl ?_
          refine zs X781 Bd at_234 (l' := #[iv p1, iv p2, iv p3, iv p4, iv p5, iv (ab0_ p5), iv z2_, iv z5_, iv z8_, iv z11_, rv b640, iv 1, .unset, .unset]) rfl ?_
          exact k)
         exact kont814 ⟨T781, _, T781.heap, (1 : Int32), (X781.mono (lE rfl) (lE rfl)), rfl, N781, (Keep.refl T781.heap []), (by rw [own_has, if_neg hc816, own_has, if_pos hc819] <;> rfl), (fun t k => pr820 t k)⟩
        ·
         skip
         have pr821 : Pr p e below T781 m 213 #[iv p1, iv p2, iv p3, iv p4, iv p5, iv (ab0_ p5), iv z2_, iv z5_, iv z8_, iv z11_, rv b640, .unset, .unset, .unset] [.int 59, .int z8_] s₁ en := fun t k => pr818 t (by
          show Sx p e below T781 m 200 #[iv p1, iv p2, iv p3, iv p4, iv p5, iv (ab0_ p5), iv z2_, iv z5_, iv z8_, iv z11_, rv b640, .unset, .unset, .unset] [.int 59, .int z5_] _
          refine zn X781 Bd at_200 (XT.ii_eq_f (hc819 : ¬ (z5_ = (59 : Int32)))) ?_
          refine zi X781 Bd at_203 rfl ?_
          refine zc X781 Bd at_205 ?_
          refine zn X781 Bd at_206 (XT.ii_le_f ((own_sub (p := fun z_ => (2 : Int32) < z_) (own_rem5f p5 hc14 hc86 hc243 hc428) (by decide)) : (2 : Int32) < (ab0_ p5))) ?_
          refine zi X781 Bd at_209 rfl ?_
          refine zd X781 Bd at_211 ?_
          exact k)
         by_cases hc822 : z8_ = (59 : Int32)
         ·
          skip
          have pr823 : Pr p e below T781 m 236 #[iv p1, iv p2, iv p3, iv p4, iv p5, iv (ab0_ p5), iv z2_, iv z5_, iv z8_, iv z11_, rv b640, iv 1, .unset, .unset] [] s₁ en := fun t k => pr821 t (by
           show Sx p e below T781 m 213 #[iv p1, iv p2, iv p3, iv p4, iv p5, iv (ab0_ p5), iv z2_, iv z5_, iv z8_, iv z11_, rv b640, .unset, .unset, .unset] [.int 59, .int z8_] _
           refine zy (pc' := 229) X781 Bd at_213 (XT.ii_eq_t (hc822 : z8_ = (59 : Int32))) rfl ?_
           refine zc X781 Bd at_229 ?_
           refine zg (pc' := 234) X781 Bd at_230 rfl ?_
           refine zs X781 Bd at_234 (l' := #[iv p1, iv p2, iv p3, iv p4, iv p5, iv (ab0_ p5), iv z2_, iv z5_, iv z8_, iv z11_, rv b640, iv 1, .unset, .unset]) rfl ?_
           exact k)
          exact kont814 ⟨T781, _, T781.heap, (1 : Int32), (X781.mono (lE rfl) (lE rfl)), rfl, N781, (Keep.refl T781.heap []), (by rw [own_has, if_neg hc816, own_has, if_neg hc819, own_has, if_pos hc822] <;> rfl), (fun t k => pr823 t k)⟩
         ·
          skip
          have pr824 : Pr p e below T781 m 226 #[iv p1, iv p2, iv p3, iv p4, iv p5, iv (ab0_ p5), iv z2_, iv z5_, iv z8_, iv z11_, rv b640, .unset, .unset, .unset] [.int 59, .int z11_] s₁ en := fun t k => pr821 t (by
           show Sx p e below T781 m 213 #[iv p1, iv p2, iv p3, iv p4, iv p5, iv (ab0_ p5), iv z2_, iv z5_, iv z8_, iv z11_, rv b640, .unset, .unset, .unset] [.int 59, .int z8_] _
           refine zn X781 Bd at_213 (XT.ii_eq_f (hc822 : ¬ (z8_ = (59 : Int32)))) ?_
           refine zi X781 Bd at_216 rfl ?_
           refine zc X781 Bd at_218 ?_
           refine zn X781 Bd at_219 (XT.ii_le_f ((own_sub (p := fun z_ => (3 : Int32) < z_) (own_rem5f p5 hc14 hc86 hc243 hc428) (by decide)) : (3 : Int32) < (ab0_ p5))) ?_
           refine zi X781 Bd at_222 rfl ?_
           refine zd X781 Bd at_224 ?_
           exact k)
          by_cases hc825 : z11_ = (59 : Int32)
          ·
           skip
           have pr826 : Pr p e below T781 m 236 #[iv p1, iv p2, iv p3, iv p4, iv p5, iv (ab0_ p5), iv z2_, iv z5_, iv z8_, iv z11_, rv b640, iv 1, .unset, .unset] [] s₁ en := fun t k => pr824 t (by
            show Sx p e below T781 m 226 #[iv p1, iv p2, iv p3, iv p4, iv p5, iv (ab0_ p5), iv z2_, iv z5_, iv z8_, iv z11_, rv b640, .unset, .unset, .unset] [.int 59, .int z11_] _
            refine zn X781 Bd at_226 (XT.ii_ne_f (hc825 : z11_ = (59 : Int32))) ?_
            refine zc X781 Bd at_229 ?_
            refine zg (pc' := 234) X781 Bd at_230 rfl ?_
            refine zs X781 Bd at_234 (l' := #[iv p1, iv p2, iv p3, iv p4, iv p5, iv (ab0_ p5), iv z2_, iv z5_, iv z8_, iv z11_, rv b640, iv 1, .unset, .unset]) rfl ?_
            exact k)
           exact kont814 ⟨T781, _, T781.heap, (1 : Int32), (X781.mono (lE rfl) (lE rfl)), rfl, N781, (Keep.refl T781.heap []), (by rw [own_has, if_neg hc816, own_has, if_neg hc819, own_has, if_neg hc822, own_has, if_pos hc825] <;> rfl), (fun t k => pr826 t k)⟩
          ·
           skip
           have pr827 : Pr p e below T781 m 236 #[iv p1, iv p2, iv p3, iv p4, iv p5, iv (ab0_ p5), iv z2_, iv z5_, iv z8_, iv z11_, rv b640, iv 0, .unset, .unset] [] s₁ en := fun t k => pr824 t (by
            show Sx p e below T781 m 226 #[iv p1, iv p2, iv p3, iv p4, iv p5, iv (ab0_ p5), iv z2_, iv z5_, iv z8_, iv z11_, rv b640, .unset, .unset, .unset] [.int 59, .int z11_] _
            refine zy (pc' := 233) X781 Bd at_226 (XT.ii_ne_t (hc825 : ¬ (z11_ = (59 : Int32)))) rfl ?_
            refine zc X781 Bd at_233 ?_
            refine zs X781 Bd at_234 (l' := #[iv p1, iv p2, iv p3, iv p4, iv p5, iv (ab0_ p5), iv z2_, iv z5_, iv z8_, iv z11_, rv b640, iv 0, .unset, .unset]) rfl ?_
            exact k)
           exact kont814 ⟨T781, _, T781.heap, (0 : Int32), (X781.mono (lE rfl) (lE rfl)), rfl, N781, (Keep.refl T781.heap []), (by rw [own_has, if_neg hc816, own_has, if_neg hc819, own_has, if_neg hc822, own_has, if_neg hc825, own_has] <;> rfl), (fun t k => pr827 t k)⟩
      ·
       obtain ⟨T814, L814, h814, s1_, X814, e814, N814, K814j, hp814_0, pr814⟩ := hA814
       have K828 := K804.trans K814j (fun x q => nomatch q)
       have C829 : CHv Z consts_1 s.vm h814 := CHv.keep K814j sf0 C805
       have R830 : CHr Z consts_1 s.vm h0 s.vm h814 := R812.trans (CHr.keep K814j sf0 C805)
       refine cps (A := ∃ T831 : State, ∃ L831 : List Loc, ∃ h831 : Heap, ∃ a1_ : Int32, Stand p l e room_1 (s.setVm s.vm) m #[.int p1, .int p2, .int p3, .int p4, .int p5] below meth c T831 L831 3 12 ∧ T831.heap = h831 ∧ Fr n0 L831 ∧ Keep h814 h831 [] ∧ (a1_ = own_has (38 : Int32) ([z2_, z5_, z8_, z11_] : List Int32)) ∧ Pr p e below T831 m 294 #[iv p1, iv p2, iv p3, iv p4, iv p5, iv (ab0_ p5), iv z2_, iv z5_, iv z8_, iv z11_, rv b640, iv s1_, iv a1_, .unset] [] s₁ en) (fun kont831 => ?_) (fun hA831 => ?_)
       ·
        skip
        have pr832 : Pr p e below T814 m 245 #[iv p1, iv p2, iv p3, iv p4, iv p5, iv (ab0_ p5), iv z2_, iv z5_, iv z8_, iv z11_, rv b640, iv s1_, .unset, .unset] [.int 38, .int z2_] s₁ en := fun t k => pr814 t (by
         show Sx p e below T814 m 236 #[iv p1, iv p2, iv p3, iv p4, iv p5, iv (ab0_ p5), iv z2_, iv z5_, iv z8_, iv z11_, rv b640, iv s1_, .unset, .unset] [] _
         refine zi X814 Bd at_236 rfl ?_
         refine zo X814 Bd at_238 (XT.i0_le_f ((own_sub (p := fun z_ => (0 : Int32) < z_) (own_rem5f p5 hc14 hc86 hc243 hc428) (by decide)) : (0 : Int32) < (ab0_ p5))) ?_
         refine zi X814 Bd at_241 rfl ?_
         refine zd X814 Bd at_243 ?_
         exact k)
        by_cases hc833 : z2_ = (38 : Int32)
        ·
         skip
         have pr834 : Pr p e below T814 m 294 #[iv p1, iv p2, iv p3, iv p4, iv p5, iv (ab0_ p5), iv z2_, iv z5_, iv z8_, iv z11_, rv b640, iv s1_, iv 1, .unset] [] s₁ en := fun t k => pr832 t (by
          show Sx p e below T814 m 245 #[iv p1, iv p2, iv p3, iv p4, iv p5, iv (ab0_ p5), iv z2_, iv z5_, iv z8_, iv z11_, rv b640, iv s1_, .unset, .unset] [.int 38, .int z2_] _
          refine zy (pc' := 287) X814 Bd at_245 (XT.ii_eq_t (hc833 : z2_ = (38 : Int32))) rfl ?_
          refine zc X814 Bd at_287 ?_
          refine zg (pc' := 292) X814 Bd at_288 rfl ?_
          refine zs X814 Bd at_292 (l' := #[iv p1, iv p2, iv p3, iv p4, iv p5, iv (ab0_ p5), iv z2_, iv z5_, iv z8_, iv z11_, rv b640, iv s1_, iv 1, .unset]) rfl ?_
          exact k)
         exact kont831 ⟨T814, _, h814, (1 : Int32), (X814.mono (lE rfl) (lE rfl)), e814, N814, (Keep.refl h814 []), (by rw [own_has, if_pos hc833] <;> rfl), (fun t k => pr834 t k)⟩
        ·
         skip
         have pr835 : Pr p e below T814 m 258 #[iv p1, iv p2, iv p3, iv p4, iv p5, iv (ab0_ p5), iv z2_, iv z5_, iv z8_, iv z11_, rv b640, iv s1_, .unset, .unset] [.int 38, .int z5_] s₁ en := fun t k => pr832 t (by
          show Sx p e below T814 m 245 #[iv p1, iv p2, iv p3, iv p4, iv p5, iv (ab0_ p5), iv z2_, iv z5_, iv z8_, iv z11_, rv b640, iv s1_, .unset, .unset] [.int 38, .int z2_] _
          refine zn X814 Bd at_245 (XT.ii_eq_f (hc833 : ¬ (z2_ = (38 : Int32)))) ?_
          refine zi X814 Bd at_248 rfl ?_
          refine zc X814 Bd at_250 ?_
          refine zn X814 Bd at_251 (XT.ii_le_f ((own_sub (p := fun z_ => (1 : Int32) < z_) (own_rem5f p5 hc14 hc86 hc243 hc428) (by decide)) : (1 : Int32) < (ab0_ p5))) ?_
          refine zi X814 Bd at_254 rfl ?_
          refine zd X814 Bd at_256 ?_
          exact k)
         by_cases hc836 : z5_ = (38 : Int32)
         ·
          skip
          have pr837 : Pr p e below T814 m 294 #[iv p1, iv p2, iv p3, iv p4, iv p5, iv (ab0_ p5), iv z2_, iv z5_, iv z8_, iv z11_, rv b640, iv s1_, iv 1, .unset] [] s₁ en := fun t k => pr835 t (by
           show Sx p e below T814 m 258 #[iv p1, iv p2, iv p3, iv p4, iv p5, iv (ab0_ p5), iv z2_, iv z5_, iv z8_, iv z11_, rv b640, iv s1_, .unset, .unset] [.int 38, .int z5_] _
           refine zy (pc' := 287) X814 Bd at_258 (XT.ii_eq_t (hc836 : z5_ = (38 : Int32))) rfl ?_
           refine zc X814 Bd at_287 ?_
           refine zg (pc' := 292) X814 Bd at_288 rfl ?_
           refine zs X814 Bd at_292 (l' := #[iv p1, iv p2, iv p3, iv p4, iv p5, iv (ab0_ p5), iv z2_, iv z5_, iv z8_, iv z11_, rv b640, iv s1_, iv 1, .unset]) rfl ?_
           exact k)
          exact kont831 ⟨T814, _, h814, (1 : Int32), (X814.mono (lE rfl) (lE rfl)), e814, N814, (Keep.refl h814 []), (by rw [own_has, if_neg hc833, own_has, if_pos hc836] <;> rfl), (fun t k => pr837 t k)⟩
         ·
          skip
          have pr838 : Pr p e below T814 m 271 #[iv p1, iv p2, iv p3, iv p4, iv p5, iv (ab0_ p5), iv z2_, iv z5_, iv z8_, iv z11_, rv b640, iv s1_, .unset, .unset] [.int 38, .int z8_] s₁ en := fun t k => pr835 t (by
           show Sx p e below T814 m 258 #[iv p1, iv p2, iv p3, iv p4, iv p5, iv (ab0_ p5), iv z2_, iv z5_, iv z8_, iv z11_, rv b640, iv s1_, .unset, .unset] [.int 38, .int z5_] _
           refine zn X814 Bd at_258 (XT.ii_eq_f (hc836 : ¬ (z5_ = (38 : Int32)))) ?_
           refine zi X814 Bd at_261 rfl ?_
           refine zc X814 Bd at_263 ?_
           refine zn X814 Bd at_264 (XT.ii_le_f ((own_sub (p := fun z_ => (2 : Int32) < z_) (own_rem5f p5 hc14 hc86 hc243 hc428) (by decide)) : (2 : Int32) < (ab0_ p5))) ?_
           refine zi X814 Bd at_267 rfl ?_
           refine zd X814 Bd at_269 ?_
           exact k)
          by_cases hc839 : z8_ = (38 : Int32)
          ·
           skip
           have pr840 : Pr p e below T814 m 294 #[iv p1, iv p2, iv p3, iv p4, iv p5, iv (ab0_ p5), iv z2_, iv z5_, iv z8_, iv z11_, rv b640, iv s1_, iv 1, .unset] [] s₁ en := fun t k => pr838 t (by
            show Sx p e below T814 m 271 #[iv p1, iv p2, iv p3, iv p4, iv p5, iv (ab0_ p5), iv z2_, iv z5_, iv z8_, iv z11_, rv b640, iv s1_, .unset, .unset] [.int 38, .int z8_] _
            refine zy (pc' := 287) X814 Bd at_271 (XT.ii_eq_t (hc839 : z8_ = (38 : Int32))) rfl ?_
            refine zc X814 Bd at_287 ?_
            refine zg (pc' := 292) X814 Bd at_288 rfl ?_
            refine zs X814 Bd at_292 (l' := #[iv p1, iv p2, iv p3, iv p4, iv p5, iv (ab0_ p5), iv z2_, iv z5_, iv z8_, iv z11_, rv b640, iv s1_, iv 1, .unset]) rfl ?_
            exact k)
           exact kont831 ⟨T814, _, h814, (1 : Int32), (X814.mono (lE rfl) (lE rfl)), e814, N814, (Keep.refl h814 []), (by rw [own_has, if_neg hc833, own_has, if_neg hc836, own_has, if_pos hc839] <;> rfl), (fun t k => pr840 t k)⟩
          ·
           skip
           have pr841 : Pr p e below T814 m 284 #[iv p1, iv p2, iv p3, iv p4, iv p5, iv (ab0_ p5), iv z2_, iv z5_, iv z8_, iv z11_, rv b640, iv s1_, .unset, .unset] [.int 38, .int z11_] s₁ en := fun t k => pr838 t (by
            show Sx p e below T814 m 271 #[iv p1, iv p2, iv p3, iv p4, iv p5, iv (ab0_ p5), iv z2_, iv z5_, iv z8_, iv z11_, rv b640, iv s1_, .unset, .unset] [.int 38, .int z8_] _
            refine zn X814 Bd at_271 (XT.ii_eq_f (hc839 : ¬ (z8_ = (38 : Int32)))) ?_
            refine zi X814 Bd at_274 rfl ?_
            refine zc X814 Bd at_276 ?_
            refine zn X814 Bd at_277 (XT.ii_le_f ((own_sub (p := fun z_ => (3 : Int32) < z_) (own_rem5f p5 hc14 hc86 hc243 hc428) (by decide)) : (3 : Int32) < (ab0_ p5))) ?_
            refine zi X814 Bd at_280 rfl ?_
            refine zd X814 Bd at_282 ?_
            exact k)
           by_cases hc842 : z11_ = (38 : Int32)
           ·
            skip
            have pr843 : Pr p e below T814 m 294 #[iv p1, iv p2, iv p3, iv p4, iv p5, iv (ab0_ p5), iv z2_, iv z5_, iv z8_, iv z11_, rv b640, iv s1_, iv 1, .unset] [] s₁ en := fun t k => pr841 t (by
             show Sx p e below T814 m 284 #[iv p1, iv p2, iv p3, iv p4, iv p5, iv (ab0_ p5), iv z2_, iv z5_, iv z8_, iv z11_, rv b640, iv s1_, .unset, .unset] [.int 38, .int z11_] _
             refine zn X814 Bd at_284 (XT.ii_ne_f (hc842 : z11_ = (38 : Int32))) ?_
             refine zc X814 Bd at_287 ?_
             refine zg (pc' := 292) X814 Bd at_288 rfl ?_
             refine zs X814 Bd at_292 (l' := #[iv p1, iv p2, iv p3, iv p4, iv p5, iv (ab0_ p5), iv z2_, iv z5_, iv z8_, iv z11_, rv b640, iv s1_, iv 1, .unset]) rfl ?_
             exact k)
            exact kont831 ⟨T814, _, h814, (1 : Int32), (X814.mono (lE rfl) (lE rfl)), e814, N814, (Keep.refl h814 []), (by rw [own_has, if_neg hc833, own_has, if_neg hc836, own_has, if_neg hc839, own_has, if_pos hc842] <;> rfl), (fun t k => pr843 t k)⟩
           ·
            skip
            have pr844 : Pr p e below T814 m 294 #[iv p1, iv p2, iv p3, iv p4, iv p5, iv (ab0_ p5), iv z2_, iv z5_, iv z8_, iv z11_, rv b640, iv s1_, iv 0, .unset] [] s₁ en := fun t k => pr841 t (by
             show Sx p e below T814 m 284 #[iv p1, iv p2, iv p3, iv p4, iv p5, iv (ab0_ p5), iv z2_, iv z5_, iv z8_, iv z11_, rv b640, iv s1_, .unset, .unset] [.int 38, .int z11_] _
             refine zy (pc' := 291) X814 Bd at_284 (XT.ii_ne_t (hc842 : ¬ (z11_ = (38 : Int32)))) rfl ?_
             refine zc X814 Bd at_291 ?_
             refine zs X814 Bd at_292 (l' := #[iv p1, iv p2, iv p3, iv p4, iv p5, iv (ab0_ p5), iv z2_, iv z5_, iv z8_, iv z11_, rv b640, iv s1_, iv 0, .unset]) rfl ?_
             exact k)
            exact kont831 ⟨T814, _, h814, (0 : Int32), (X814.mono (lE rfl) (lE rfl)), e814, N814, (Keep.refl h814 []), (by rw [own_has, if_neg hc833, own_has, if_neg hc836, own_has, if_neg hc839, own_has, if_neg hc842, own_has] <;> rfl), (fun t k => pr844 t k)⟩
       ·
        obtain ⟨T831, L831, h831, a1_, X831, e831, N831, K831j, hp831_0, pr831⟩ := hA831
        have K845 := K828.trans K831j (fun x q => nomatch q)
        have C846 : CHv Z consts_1 s.vm h831 := CHv.keep K831j sf0 C829
        have R847 : CHr Z consts_1 s.vm h0 s.vm h831 := R830.trans (CHr.keep K831j sf0 C829)
        refine cps (A := ∃ T848 : State, ∃ L848 : List Loc, ∃ h848 : Heap, ∃ ex_ : Int32, Stand p l e room_1 (s.setVm s.vm) m #[.int p1, .int p2, .int p3, .int p4, .int p5] below meth c T848 L848 3 12 ∧ T848.heap = h848 ∧ Fr n0 L848 ∧ Keep h831 h848 [] ∧ (ex_ = own_exp ([z2_, z5_, z8_, z11_] : List Int32)) ∧ Pr p e below T848 m 313 #[iv p1, iv p2, iv p3, iv p4, iv p5, iv (ab0_ p5), iv z2_, iv z5_, iv z8_, iv z11_, rv b640, iv s1_, iv a1_, iv ex_] [] s₁ en) (fun kont848 => ?_) (fun hA848 => ?_)
        ·
         skip
         have pr849 : Pr p e below T831 m 296 #[iv p1, iv p2, iv p3, iv p4, iv p5, iv (ab0_ p5), iv z2_, iv z5_, iv z8_, iv z11_, rv b640, iv s1_, iv a1_, .unset] [.int s1_] s₁ en := fun t k => pr831 t (by
          show Sx p e below T831 m 294 #[iv p1, iv p2, iv p3, iv p4, iv p5, iv (ab0_ p5), iv z2_, iv z5_, iv z8_, iv z11_, rv b640, iv s1_, iv a1_, .unset] [] _
          refine zi X831 Bd at_294 rfl ?_
          exact k)
         by_cases hc850 : s1_ = (0 : Int32)
         ·
          skip
          have pr851 : Pr p e below T831 m 313 #[iv p1, iv p2, iv p3, iv p4, iv p5, iv (ab0_ p5), iv z2_, iv z5_, iv z8_, iv z11_, rv b640, iv s1_, iv a1_, iv 38] [] s₁ en := fun t k => pr849 t (by
           show Sx p e below T831 m 296 #[iv p1, iv p2, iv p3, iv p4, iv p5, iv (ab0_ p5), iv z2_, iv z5_, iv z8_, iv z11_, rv b640, iv s1_, iv a1_, .unset] [.int s1_] _
           refine zp (pc' := 309) X831 Bd at_296 (XT.i0_eq_t (hc850 : s1_ = (0 : Int32))) rfl ?_
           refine zd X831 Bd at_309 ?_
           refine zs X831 Bd at_311 (l' := #[iv p1, iv p2, iv p3, iv p4, iv p5, iv (ab0_ p5), iv z2_, iv z5_, iv z8_, iv z11_, rv b640, iv s1_, iv a1_, iv 38]) rfl ?_
           exact k)
          exact kont848 ⟨T831, _, h831, (38 : Int32), (X831.mono (lE rfl) (lE rfl)), e831, N831, (Keep.refl h831 []), (by rw [own_exp, ← hp814_0, if_pos hc850] <;> rfl), (fun t k => pr851 t k)⟩
         ·
          skip
          have pr852 : Pr p e below T831 m 301 #[iv p1, iv p2, iv p3, iv p4, iv p5, iv (ab0_ p5), iv z2_, iv z5_, iv z8_, iv z11_, rv b640, iv s1_, iv a1_, .unset] [.int a1_] s₁ en := fun t k => pr849 t (by
           show Sx p e below T831 m 296 #[iv p1, iv p2, iv p3, iv p4, iv p5, iv (ab0_ p5), iv z2_, iv z5_, iv z8_, iv z11_, rv b640, iv s1_, iv a1_, .unset] [.int s1_] _
           refine zo X831 Bd at_296 (XT.i0_eq_f (hc850 : ¬ (s1_ = (0 : Int32)))) ?_
           refine zi X831 Bd at_299 rfl ?_
           exact k)
          by_cases hc853 : a1_ = (0 : Int32)
          ·
           skip
           have pr854 : Pr p e below T831 m 313 #[iv p1, iv p2, iv p3, iv p4, iv p5, iv (ab0_ p5), iv z2_, iv z5_, iv z8_, iv z11_, rv b640, iv s1_, iv a1_, iv 59] [] s₁ en := fun t k => pr852 t (by
            show Sx p e below T831 m 301 #[iv p1, iv p2, iv p3, iv p4, iv p5, iv (ab0_ p5), iv z2_, iv z5_, iv z8_, iv z11_, rv b640, iv s1_, iv a1_, .unset] [.int a1_] _
            refine zo X831 Bd at_301 (XT.i0_ne_f (hc853 : a1_ = (0 : Int32))) ?_
            refine zd X831 Bd at_304 ?_
            refine zg (pc' := 311) X831 Bd at_306 rfl ?_
            refine zs X831 Bd at_311 (l' := #[iv p1, iv p2, iv p3, iv p4, iv p5, iv (ab0_ p5), iv z2_, iv z5_, iv z8_, iv z11_, rv b640, iv s1_, iv a1_, iv 59]) rfl ?_
            exact k)
           exact kont848 ⟨T831, _, h831, (59 : Int32), (X831.mono (lE rfl) (lE rfl)), e831, N831, (Keep.refl h831 []), (by rw [own_exp, ← hp814_0, if_neg hc850, ← hp831_0, if_pos hc853] <;> rfl), (fun t k => pr854 t k)⟩
          ·
           skip
           have pr855 : Pr p e below T831 m 313 #[iv p1, iv p2, iv p3, iv p4, iv p5, iv (ab0_ p5), iv z2_, iv z5_, iv z8_, iv z11_, rv b640, iv s1_, iv a1_, iv 38] [] s₁ en := fun t k => pr852 t (by
            show Sx p e below T831 m 301 #[iv p1, iv p2, iv p3, iv p4, iv p5, iv (ab0_ p5), iv z2_, iv z5_, iv z8_, iv z11_, rv b640, iv s1_, iv a1_, .unset] [.int a1_] _
            refine zp (pc' := 309) X831 Bd at_301 (XT.i0_ne_t (hc853 : ¬ (a1_ = (0 : Int32)))) rfl ?_
            refine zd X831 Bd at_309 ?_
            refine zs X831 Bd at_311 (l' := #[iv p1, iv p2, iv p3, iv p4, iv p5, iv (ab0_ p5), iv z2_, iv z5_, iv z8_, iv z11_, rv b640, iv s1_, iv a1_, iv 38]) rfl ?_
            exact k)
           exact kont848 ⟨T831, _, h831, (38 : Int32), (X831.mono (lE rfl) (lE rfl)), e831, N831, (Keep.refl h831 []), (by rw [own_exp, ← hp814_0, if_neg hc850, ← hp831_0, if_neg hc853] <;> rfl), (fun t k => pr855 t k)⟩
        ·
         obtain ⟨T848, L848, h848, ex_, X848, e848, N848, K848j, hp848_0, pr848⟩ := hA848
         have K856 := K845.trans K848j (fun x q => nomatch q)
         have C857 : CHv Z consts_1 s.vm h848 := CHv.keep K848j sf0 C846
         have R858 : CHr Z consts_1 s.vm h0 s.vm h848 := R847.trans (CHr.keep K848j sf0 C846)
         have E860_ := E792_.keep K781q
         have E861_ := E860_.keep K814j
         have E862_ := E861_.keep K831j
         have E863_ := E862_.keep K848j
         have F864_ := C781q.keep K814j nin0
         have F865_ := F864_.keep K831j nin0
         have F866_ := F865_.keep K848j nin0
         have F867_ := V803_.keep K814j nin0
         have F868_ := F867_.keep K831j nin0
         have F869_ := F868_.keep K848j nin0
         have A870_ := A803_.keep K814j nin0
         have A871_ := A870_.keep K831j nin0
         have A872_ := A871_.keep K848j nin0
         have O873 := O787.keep K781q (allS g_b640 all0)
         have O874 := O873.keep K814j all0
         have O875 := O874.keep K831j all0
         have O876 := O875.keep K848j all0
         obtain ⟨_, T859, L859, X859, hQ859, st859⟩ := own_cS 3 12 [] 315 #[iv p1, iv p2, iv p3, iv p4, iv p5, iv (ab0_ p5), iv z2_, iv z5_, iv z8_, iv z11_, rv b640, iv s1_, iv a1_, iv ex_] X848 hx hZ hown (w28_ hw) (w29_ hw) (w30_ hw) (w31_ hw) (rm127 l Z a0 hw G1 b640 b803 z2_ z5_ z8_ z11_ c803_ h848 n0 O876 O2 P5 E863_ F866_ F869_ hp782 A872_) pd9 hml.symm (hb hby at_315) e848 rfl rfl rfl rfl (by decide)
         obtain ⟨rfl, N859q, e859q⟩ := hQ859
         have N859 := Fr.app N848 N859q
         have hp877 : ∀ c ∈ ([z2_, z5_, z8_, z11_] : List Int32), ¬ c < 0 ∧ ¬ (255 : Int32) < c := (List.forall_mem_cons.mpr ⟨(And.intro (own_ch0 w3) (own_maxle hc678 (mI 0 rfl))), (List.forall_mem_cons.mpr ⟨(And.intro (own_ch0 w6) (own_maxle hc678 (mI 1 rfl))), (List.forall_mem_cons.mpr ⟨(And.intro (own_ch0 w9) (own_maxle hc678 (mI 2 rfl))), (List.forall_mem_cons.mpr ⟨(And.intro (own_ch0 w12) (own_maxle hc678 (mI 3 rfl))), (fun _ q => nomatch q)⟩)⟩)⟩)⟩)
         have hk878' : _ ≤ h848.size := (Nat.le_trans (Nat.le_trans (Nat.le_trans (Nat.le_trans (Nat.le_trans (Nat.le_trans (Nat.le_trans (Nat.le_trans (Nat.le_trans (Nat.le_trans hk0 E640.1) E646.1) (Nat.le_of_eq W652.size.symm)) (Nat.le_of_eq W659.size.symm)) (Nat.le_of_eq W665.size.symm)) (Nat.le_of_eq W671.size.symm)) K781q.1) K814j.1) K831j.1) K848j.1)
         refine own_lvW X859 Bd.notSynchronized hS0 hk878' (v := (some (.int 1))) (fun h => by rw [Bd.returns] at h; cases h) e859q hh ⟨rfl, N859⟩ (R858.trans (CHv.at X859 hZ hEL C857)) (lE rfl) (lE rfl) (fun fs hr => pr848 _ (by
          show Sx p e below T848 m 313 #[iv p1, iv p2, iv p3, iv p4, iv p5, iv (ab0_ p5), iv z2_, iv z5_, iv z8_, iv z11_, rv b640, iv s1_, iv a1_, iv ex_] [] _
          refine za X848 Bd at_313 rfl rfl ?_
          refine st859 _ ?_
          refine zi X859 Bd at_318 rfl ?_
          refine zn X859 Bd at_320 (XT.ii_ne_f (((own_finL (z := ([z2_, z5_, z8_, z11_] : List Int32)) hp877 (lE rfl)).trans hp848_0.symm) : (own_sep ([((z2_).toInt8.toInt32), ((z5_).toInt8.toInt32), ((z8_).toInt8.toInt32), ((z11_).toInt8.toInt32)] : List Int32)) = ex_)) ?_
          refine zc X859 Bd at_323 ?_
          refine zg (pc' := 328) X859 Bd at_324 rfl ?_
          exact retN X859 hx (t := .boolean) Bd.returns (by simp) (hb hby at_328) hr))
theorem comes_1 {Post : Tables → Env → Array Value → State → Outcome → State → Prop} (hpost : ∀ tb e args s v u, (limb_1_1.after args s (.returned v) u = true ∧ limb_1_2.after args s (.returned v) u = true ∧ True) → ReturnedEndW s (.returned v) u (Jvm.fieldLocs frame_1_writes args s ++ Jvm.arrayLocs frame_1_arrays args s ++ Jvm.staticLocs frame_1_statics s) 24 1152 → Post tb e args s (.returned v) u) :
    ArmFor flags0 classFile x code maxLocals ret World_1 tables_1 room_1 Calls_1 rest_1 Pre_1 Post := by
  intro l hfl _ _ p e ha hc hk s m args below hf hA hF happ hP
  obtain ⟨hcalls, hrest, hpre⟩ := hP
  obtain ⟨-, -, -, hnamed, -, -, -, hat⟩ := (Spec.applies_iff hf).mp happ
  obtain ⟨hg, hn⟩ := and_e (Cond.before_iff.mp (show (Jvm.Cond.and given_1 narrow_1).before args s = true from hpre))
  obtain ⟨hg0, hg1⟩ := and_e hg
  obtain ⟨ha1, hg2⟩ := and_e hg1
  obtain ⟨ha2, hg3⟩ := and_e hg2
  obtain ⟨ha3, hg4⟩ := and_e hg3
  obtain ⟨ha4, hg5⟩ := and_e hg4
  obtain ⟨w1, w2, w3, w4, w5, rfl⟩ : ∃ w1 w2 w3 w4 w5 : Value, args = #[w1, w2, w3, w4, w5] := by
    have hs : args.size = 5 := by simpa [Cond.value, given_1] using hg0
    obtain ⟨L⟩ := args
    match L, hs with
    | [w1, w2, w3, w4, w5], _ => exact ⟨w1, w2, w3, w4, w5, rfl⟩
  have hw := fun d (hd : d ∈ tables_1) => atoms_spec (ws := Jvm.Cond.code x code maxLocals ret :: tables_1) hat d (List.mem_cons_of_mem _ hd)
  obtain ⟨hsets, hown0⟩ := atoms_of _ (rest_1_c_eq ▸ (show rest_1_c.before _ s = true from hrest))
  have hfit : Fit s := fun {y c} hc i hi => by
    obtain ⟨ha, rfl⟩ := Array.getElem?_eq_some_iff.mp hc
    have q := List.all_eq_true.mp ((Array.all_eq_true_iff_forall_mem.mp hF) _ (Array.getElem_mem ha)) i (List.mem_range.mpr hi)
    simpa [Array.getElem?_eq_getElem hi] using q
  obtain ⟨i1, ei1⟩ := is_v ha1
  obtain rfl : w1 = (.int i1) := Option.some.inj ei1
  obtain ⟨i2, ei2⟩ := is_v ha2
  obtain rfl : w2 = (.int i2) := Option.some.inj ei2
  obtain ⟨i3, ei3⟩ := is_v ha3
  obtain rfl : w3 = (.int i3) := Option.some.inj ei3
  obtain ⟨i4, ei4⟩ := is_v ha4
  obtain rfl : w4 = (.int i4) := Option.some.inj ei4
  obtain ⟨i5, ei5⟩ := is_v hg5
  obtain rfl : w5 = (.int i5) := Option.some.inj ei5
  have nCS := not_v (Cond.before_iff.mp (hsets _ (mI 2 rfl)))
  obtain ⟨G1, eCS⟩ := is_v (Cond.before_iff.mp (hsets _ (mI 1 rfl)))
  have O2 : Sta s s.heap "java/lang/String" "COMPACT_STRINGS" "Z" (.int G1) := Sta.start eCS (Or.inl (hsets _ (mI 0 rfl)))
  have P5 : ¬ (G1 = (0 : Int32)) := gotF (Cond.eq_ints eCS (Term.int_eval (0))) nCS
  have uS12 : Sta s s.heap "java/lang/StringUTF16" "$assertionsDisabled" "Z" (.int 1) := Sta.start (eqv_i (Term.int_eval _) (Cond.before_iff.mp (hsets _ (mI 12 rfl)))) (Or.inl (hsets _ (mI 11 rfl)))
  have uS15 : Sta s s.heap "java/lang/StringUTF16" "HI_BYTE_SHIFT" "I" (.int 0) := Sta.start (eqv_i (Term.int_eval _) (Cond.before_iff.mp (hsets _ (mI 15 rfl)))) (Or.inl (hsets _ (mI 14 rfl)))
  have uS18 : Sta s s.heap "java/lang/StringUTF16" "LO_BYTE_SHIFT" "I" (.int 8) := Sta.start (eqv_i (Term.int_eval _) (Cond.before_iff.mp (hsets _ (mI 18 rfl)))) (Or.inl (hsets _ (mI 17 rfl)))
  obtain ⟨G3, eSF, rG3⟩ := isR_v (Cond.before_iff.mp (hsets _ (mI 8 rfl)))
  have O4 : Sta s s.heap "jdk/internal/util/Preconditions" "SIOOBE_FORMATTER" "Ljava/util/function/BiFunction;" G3 := Sta.start eSF (Or.inl (hsets _ (mI 7 rfl)))
  have hCH : CHv s consts_1 s.vm s.heap := CHv.start (own_EW hw) (fun p hp => hcalls.1 p hp) (hsets _ (mI 2 rfl)) (w21_ hw) (w7_ hw)
  obtain ⟨n, o, h1, h2, h3, _, L, rfl, ⟨rfl, N⟩, -, hq⟩ := rm0 l s _ hw tables_1 G1 G3 i1 i2 i3 i4 i5 s.heap s.heap.size (Old.start s) O2 P5 uS12 uS15 uS18 O4 rG3 p e ha hc hk s m _ below hf ((Spec.applies_iff_loose hf).mp happ).1 ⟨rfl, State.Warmed39.refl s, rfl, hCH⟩ trivial
  refine ⟨n, _, h1, h2, h3, hpost _ _ _ _ _ _ ⟨Cond.after_iff.mpr rfl, Cond.after_iff.mpr (eq_i res_at (Term.int_eval (1)) rfl), trivial⟩ ⟨hq.1, hq.2.1, hq.2.2.1, (hq.2.2.2.sift fun y hy => Or.inr (N y hy)).mono (by decide) (by decide)⟩⟩
theorem main_1_1 : Claimed_1_1 := comes_1 fun _ _ _ _ _ _ h hF => ⟨h.1, hF⟩
theorem main_1_2 : Claimed_1_2 := comes_1 fun _ _ _ _ _ _ h hF => ⟨h.2.1, hF⟩
end Jvm.Pilot.@@N@@
namespace Jvm.Pilot.@@N@@
open Jvm Jvm.ClassFile Sem Op Lib Jvm.Free Jvm.Stand Jvm.Pilot.@@N@@.Jvm.D
/-! MADE BY PROGRAM (witnessworld.py) out of the Statement's table words and the real class files: 21 classes; the members and pool entries that the words name. The judged class is class 1, her method 2. -/
namespace start1
open Jvm.ClassFile
def u (s : String) : CpInfo := .utf8 (stringToUtf16 s)
/-- a pool by its gaps: so many unusable entries, then the entry; so many at the end -/
def gap : Nat → List CpInfo → List CpInfo
  | 0, r => r
  | n + 1, r => .unusable :: gap n r
def poolList (es : List (Nat × CpInfo)) (last : Nat) : List CpInfo := es.foldr (fun e r => gap e.1 (e.2 :: r)) (gap last [])
def pool (es : List (Nat × CpInfo)) (last : Nat) : Array CpInfo := ⟨poolList es last⟩
def fileOf (pool : Array CpInfo) (this : Nat) (attrs : Array Attribute := #[]) (ms : Array MethodInfo := #[]) (fl : Nat := 33) (sup : Nat := 0) (ifs : Array Nat := #[]) (fds : Array FieldInfo := #[]) : ClassFile where
  minorVersion := 0
  majorVersion := 65
  constantPool := pool
  accessFlags := fl
  thisClass := this
  superClass := sup
  interfaces := ifs
  fields := fds
  methods := ms
  attributes := attrs
def plain (name : String) (sup : Option ClassId) : Class where
  name := name
  kind := .ordinary
  loader := none
  accessFlags := 33
  super := sup
  interfaces := #[]
  cf := none
  fields := #[]
  methods := #[]
  instanceTypes := #[]
  staticTypes := #[]
  resolved := #[]
  callSites := []
  init := .initialized
  statics := none
  mirror := none

def pool0 : Array CpInfo := pool [(5, u "<init>"), (0, u "()V"), (1, .class_ 10), (1, u "java/lang/Object")] 113

def k0c0 : Code := { maxStack := 0, maxLocals := 1, code := object_method_1_code, exceptionTable := #[], attributes := #[] }
def k0m0 : Method := { name := "<init>", desc := "()V", sig := { parameters := [], returnType := none }, accessFlags := 1, code := some k0c0 }
/-- java/lang/Object -/
def k0 : Class := { plain "java/lang/Object" none with
  accessFlags := 33
  interfaces := #[]
  cf := some (fileOf pool0 8 #[] #[⟨1, 5, 6, #[]⟩] 33 0 #[] #[])
  fields := #[]
  methods := #[k0m0]
  instanceTypes := #[]
  staticTypes := #[]
  resolved := Array.replicate 124 none
  statics := none }

def pool1 : Array CpInfo := pool [(2, .class_ 4), (1, u "java/lang/Object"), (0, u "<init>"), (0, u "()V"), (0, .integer 65535), (0, .integer 2147483647), (0, .methodref 10 11), (0, .class_ 12), (0, .nameAndType 13 14), (0, u "com/example/echoes_to_canon/echoestocanon/HttpUrlSeparatorPinLaw"), (0, u "draw"), (0, u "(I)C"), (0, .class_ 16), (0, u "java/lang/String"), (0, .methodref 15 18), (0, .nameAndType 5 19), (0, u "([C)V"), (0, .methodref 21 22), (0, .class_ 23), (0, .nameAndType 24 25), (0, u "com/example/echoes_to_canon/echoestocanon/HttpUrl"), (0, u "separator"), (0, u "(Ljava/lang/String;)C"), (3, u "law"), (0, u "(IIIII)Z")] 2

def k1m0 : Method := { name := "<init>", desc := "()V", sig := { parameters := [], returnType := none }, accessFlags := 2, code := none }
def k1c1 : Code := { maxStack := 2, maxLocals := 2, code := method_2_code, exceptionTable := #[], attributes := #[] }
def k1m1 : Method := { name := "draw", desc := "(I)C", sig := { parameters := [.int], returnType := some .char }, accessFlags := 10, code := some k1c1 }
def k1c2 : Code := { maxStack := 6, maxLocals := 14, code := code, exceptionTable := #[], attributes := #[] }
def k1m2 : Method := { name := "law", desc := "(IIIII)Z", sig := { parameters := [.int, .int, .int, .int, .int], returnType := some .boolean }, accessFlags := 9, code := some k1c2 }
/-- com/example/echoes_to_canon/echoestocanon/HttpUrlSeparatorPinLaw -/
def k1 : Class := { plain "com/example/echoes_to_canon/echoestocanon/HttpUrlSeparatorPinLaw" (some 0) with
  accessFlags := 49
  interfaces := #[]
  cf := some (fileOf pool1 10 #[] #[⟨2, 5, 6, #[]⟩, ⟨10, 13, 14, #[]⟩, ⟨9, 29, 30, #[]⟩] 49 2 #[] #[])
  fields := #[]
  methods := #[k1m0, k1m1, k1m2]
  instanceTypes := #[]
  staticTypes := #[]
  resolved := Array.replicate 33 none
  statics := none }

def pool2 : Array CpInfo := pool [(1, .class_ 2), (0, u "java/io/Serializable"), (0, .class_ 4), (0, u "java/lang/Object")] 2

/-- java/io/Serializable -/
def k2 : Class := { plain "java/io/Serializable" (some 0) with
  accessFlags := 1537
  interfaces := #[]
  cf := some (fileOf pool2 1 #[] #[] 1537 3 #[] #[])
  fields := #[]
  methods := #[]
  instanceTypes := #[]
  staticTypes := #[]
  resolved := Array.replicate 7 none
  statics := none }

def pool3 : Array CpInfo := pool [(1, .class_ 2), (0, u "java/lang/Comparable"), (0, .class_ 4), (0, u "java/lang/Object")] 7

/-- java/lang/Comparable -/
def k3 : Class := { plain "java/lang/Comparable" (some 0) with
  accessFlags := 1537
  interfaces := #[]
  cf := some (fileOf pool3 1 #[] #[] 1537 3 #[] #[])
  fields := #[]
  methods := #[]
  instanceTypes := #[]
  staticTypes := #[]
  resolved := Array.replicate 12 none
  statics := none }

def pool4 : Array CpInfo := pool [(2, .class_ 4), (1, u "java/lang/CharSequence"), (42, .class_ 48), (0, u "java/lang/CharSequence$1CodePointIterator"), (10, .class_ 60), (0, u "java/lang/CharSequence$1CharIterator"), (5, .class_ 67), (0, u "java/lang/Object")] 63

/-- java/lang/CharSequence -/
def k4 : Class := { plain "java/lang/CharSequence" (some 0) with
  accessFlags := 1537
  interfaces := #[]
  cf := some (fileOf pool4 2 #[.nestMembers #[47, 59]] #[] 1537 66 #[] #[])
  fields := #[]
  methods := #[]
  instanceTypes := #[]
  staticTypes := #[]
  resolved := Array.replicate 131 none
  statics := none }

def pool5 : Array CpInfo := pool [(1, .class_ 2), (0, u "java/lang/constant/Constable"), (0, .class_ 4), (0, u "java/lang/Object")] 6

/-- java/lang/constant/Constable -/
def k5 : Class := { plain "java/lang/constant/Constable" (some 0) with
  accessFlags := 1537
  interfaces := #[]
  cf := some (fileOf pool5 1 #[] #[] 1537 3 #[] #[])
  fields := #[]
  methods := #[]
  instanceTypes := #[]
  staticTypes := #[]
  resolved := Array.replicate 11 none
  statics := none }

def pool6 : Array CpInfo := pool [(1, .class_ 2), (0, u "java/lang/constant/ConstantDesc"), (0, .class_ 4), (0, u "java/lang/Object")] 32

/-- java/lang/constant/ConstantDesc -/
def k6 : Class := { plain "java/lang/constant/ConstantDesc" (some 0) with
  accessFlags := 1537
  interfaces := #[]
  cf := some (fileOf pool6 1 #[] #[] 1537 3 #[] #[])
  fields := #[]
  methods := #[]
  instanceTypes := #[]
  staticTypes := #[]
  resolved := Array.replicate 37 none
  statics := none }

def pool7 : Array CpInfo := pool [(1, .methodref 2 3), (0, .class_ 4), (0, .nameAndType 5 6), (0, u "java/lang/Object"), (0, u "<init>"), (0, u "()V"), (0, .string 8), (0, u ""), (0, .fieldref 10 11), (0, .class_ 12), (0, .nameAndType 13 14), (0, u "java/lang/String"), (0, u "value"), (0, u "[B"), (0, .fieldref 10 16), (0, .nameAndType 17 18), (0, u "coder"), (0, u "B"), (2, u "hash"), (0, u "I"), (2, u "hashIsZero"), (0, u "Z"), (0, .methodref 10 28), (0, .nameAndType 5 29), (0, u "([CIILjava/lang/Void;)V"), (8, .fieldref 10 39), (0, .nameAndType 40 26), (0, u "COMPACT_STRINGS"), (1, .class_ 44), (1, u "java/lang/StringUTF16"), (0, u "compress"), (1, .methodref 42 48), (0, .nameAndType 49 50), (0, u "coderFromArrayLen"), (0, u "([BI)B"), (56, .class_ 109), (1, u "java/lang/StringLatin1"), (32, u "()Z"), (34, .methodref 42 178), (0, .nameAndType 45 179), (0, u "([CII)[B"), (154, u "()I"), (0, .methodref 10 336), (0, .nameAndType 17 337), (0, u "()B"), (154, .methodref 10 493), (0, .nameAndType 494 142), (0, u "isLatin1"), (10, .methodref 10 506), (0, .nameAndType 507 334), (0, u "length"), (5, u "checkFromToIndex"), (9, u "checkBoundsBeginEnd"), (0, u "(III)V"), (50, .class_ 576), (0, u "java/lang/CharSequence"), (22, u "CASE_INSENSITIVE_ORDER"), (0, u "Ljava/util/Comparator;"), (32, .methodref 10 634), (0, .nameAndType 635 636), (0, u "indexOf"), (0, u "(II)I"), (0, .methodref 107 638), (0, .nameAndType 635 639), (0, u "([BIII)I"), (0, .methodref 42 638), (124, u "(I)I"), (244, u "([C)V"), (42, .fieldref 1054 1055), (0, .class_ 1056), (0, .nameAndType 1057 1058), (0, u "jdk/internal/util/Preconditions"), (0, u "SIOOBE_FORMATTER"), (0, u "Ljava/util/function/BiFunction;"), (3, .methodref 1054 1063), (0, .nameAndType 513 1064), (0, u "(IIILjava/util/function/BiFunction;)I"), (36, u "serialPersistentFields"), (0, u "[Ljava/io/ObjectStreamField;"), (0, .class_ 1104), (0, u "java/lang/String$CaseInsensitiveComparator"), (1, .class_ 1107), (0, u "java/io/Serializable"), (0, .class_ 1109), (0, u "java/lang/Comparable"), (0, .class_ 1111), (0, u "java/lang/constant/Constable"), (0, .class_ 1113), (0, u "java/lang/constant/ConstantDesc"), (2, u "serialVersionUID"), (0, u "J"), (3, u "REPL"), (0, u "C"), (2, u "LATIN1"), (1, u "UTF16")] 323

def k7m0 : Method := { name := "<init>", desc := "()V", sig := { parameters := [], returnType := none }, accessFlags := 1, code := none }
def k7c1 : Code := { maxStack := 5, maxLocals := 2, code := jdk_42_method_3_code, exceptionTable := #[], attributes := #[] }
def k7m1 : Method := { name := "<init>", desc := "([C)V", sig := { parameters := [(.array .char)], returnType := none }, accessFlags := 1, code := some k7c1 }
def k7c2 : Code := { maxStack := 2, maxLocals := 1, code := jdk_42_method_54_code, exceptionTable := #[], attributes := #[] }
def k7m2 : Method := { name := "length", desc := "()I", sig := { parameters := [], returnType := some .int }, accessFlags := 1, code := some k7c2 }
def k7c3 : Code := { maxStack := 3, maxLocals := 2, code := jdk_42_method_79_code, exceptionTable := #[], attributes := #[] }
def k7m3 : Method := { name := "indexOf", desc := "(I)I", sig := { parameters := [.int], returnType := some .int }, accessFlags := 1, code := some k7c3 }
def k7c4 : Code := { maxStack := 4, maxLocals := 3, code := jdk_42_method_80_code, exceptionTable := #[], attributes := #[] }
def k7m4 : Method := { name := "indexOf", desc := "(II)I", sig := { parameters := [.int, .int], returnType := some .int }, accessFlags := 1, code := some k7c4 }
def k7c5 : Code := { maxStack := 4, maxLocals := 6, code := jdk_42_method_149_code, exceptionTable := #[], attributes := #[] }
def k7m5 : Method := { name := "<init>", desc := "([CIILjava/lang/Void;)V", sig := { parameters := [(.array .char), .int, .int, (.object "java/lang/Void")], returnType := none }, accessFlags := 2, code := some k7c5 }
def k7c6 : Code := { maxStack := 1, maxLocals := 1, code := jdk_42_method_152_code, exceptionTable := #[], attributes := #[] }
def k7m6 : Method := { name := "coder", desc := "()B", sig := { parameters := [], returnType := some .byte }, accessFlags := 0, code := some k7c6 }
def k7c7 : Code := { maxStack := 1, maxLocals := 1, code := jdk_42_method_154_code, exceptionTable := #[], attributes := #[] }
def k7m7 : Method := { name := "isLatin1", desc := "()Z", sig := { parameters := [], returnType := some .boolean }, accessFlags := 0, code := some k7c7 }
def k7c8 : Code := { maxStack := 4, maxLocals := 3, code := jdk_42_method_158_code, exceptionTable := #[], attributes := #[] }
def k7m8 : Method := { name := "checkBoundsBeginEnd", desc := "(III)V", sig := { parameters := [.int, .int, .int], returnType := none }, accessFlags := 8, code := some k7c8 }
/-- java/lang/String -/
def k7 : Class := { plain "java/lang/String" (some 0) with
  accessFlags := 49
  interfaces := #[2, 3, 4, 5, 6]
  cf := some (fileOf pool7 10 #[.nestMembers #[1103]] #[⟨1, 5, 6, #[]⟩, ⟨1, 5, 1010, #[]⟩, ⟨1, 507, 334, #[]⟩, ⟨1, 635, 765, #[]⟩, ⟨1, 635, 636, #[]⟩, ⟨2, 5, 29, #[]⟩, ⟨0, 17, 337, #[]⟩, ⟨0, 494, 142, #[]⟩, ⟨8, 523, 524, #[]⟩] 49 2 #[1106, 1108, 575, 1110, 1112] #[⟨18, 13, 14, #[]⟩, ⟨18, 17, 18, #[]⟩, ⟨2, 21, 22, #[]⟩, ⟨2, 25, 26, #[]⟩, ⟨26, 1116, 1117, #[]⟩, ⟨24, 40, 26, #[]⟩, ⟨26, 1101, 1102, #[]⟩, ⟨26, 1121, 1122, #[]⟩, ⟨25, 599, 600, #[]⟩, ⟨24, 1125, 18, #[]⟩, ⟨24, 1127, 18, #[]⟩])
  fields := #[⟨"value", (.array .byte), 18, 0, 0⟩, ⟨"coder", .byte, 18, 1, 0⟩, ⟨"hash", .int, 2, 2, 0⟩, ⟨"hashIsZero", .boolean, 2, 3, 0⟩, ⟨"serialVersionUID", .long, 26, 0, 0⟩, ⟨"COMPACT_STRINGS", .boolean, 24, 1, 0⟩, ⟨"serialPersistentFields", (.array (.object "java/io/ObjectStreamField")), 26, 2, 0⟩, ⟨"REPL", .char, 26, 3, 0⟩, ⟨"CASE_INSENSITIVE_ORDER", (.object "java/util/Comparator"), 25, 4, 0⟩, ⟨"LATIN1", .byte, 24, 5, 0⟩, ⟨"UTF16", .byte, 24, 6, 0⟩]
  methods := #[k7m0, k7m1, k7m2, k7m3, k7m4, k7m5, k7m6, k7m7, k7m8]
  instanceTypes := #[(.array .byte), .byte, .int, .boolean]
  staticTypes := #[.long, .boolean, (.array (.object "java/io/ObjectStreamField")), .char, (.object "java/util/Comparator"), .byte, .byte]
  resolved := Array.replicate 1451 none
  statics := some 0 }

def pool8 : Array CpInfo := pool [(1, .class_ 2), (0, u "com/example/echoes_to_canon/echoestocanon/HttpUrl"), (1, .class_ 6), (1, u "java/lang/Object"), (4, u "text"), (0, u "Ljava/lang/String;"), (2, u "scheme"), (2, u "userInfo"), (2, u "host"), (2, u "port"), (0, u "I"), (2, u "portText"), (2, u "path"), (2, u "query"), (2, u "fragment"), (8, .class_ 48), (1, u "java/lang/String"), (42, u "AUTHORITY_END"), (0, u "Lcom/example/echoes_to_canon/echoestocanon/HttpUrl$CharClass;"), (2, u "indexOf"), (6, u "USER_INFO"), (21, u "PATH_END"), (2, u "PATH"), (7, u "QUERY"), (55, u "SCHEME"), (1, .class_ 195), (1, u "com/example/echoes_to_canon/echoestocanon/HttpUrl$CharClass"), (17, u "REG_NAME"), (34, u "UNRESERVED_CHARS"), (15, u "CONVERTIBLE_CHARS"), (6, .methodref 46 272), (0, .nameAndType 95 273), (0, u "(I)I"), (47, u "separator"), (0, u "(Ljava/lang/String;)C"), (68, u "MAX_PORT"), (1, u "MAX_QUOTED_SCHEME"), (1, u "HTTP_PORT"), (1, u "HTTPS_PORT"), (1, u "ALPHA_DIGIT"), (2, u "UNRESERVED"), (0, u "SUB_DELIMS"), (2, u "HEX_DIGITS"), (0, u "CONVERTIBLE")] 64

def k8c0 : Code := { maxStack := 2, maxLocals := 1, code := prog_2_method_30_code, exceptionTable := #[], attributes := #[] }
def k8m0 : Method := { name := "separator", desc := "(Ljava/lang/String;)C", sig := { parameters := [(.object "java/lang/String")], returnType := some .char }, accessFlags := 8, code := some k8c0 }
/-- com/example/echoes_to_canon/echoestocanon/HttpUrl -/
def k8 : Class := { plain "com/example/echoes_to_canon/echoestocanon/HttpUrl" (some 0) with
  accessFlags := 49
  interfaces := #[]
  cf := some (fileOf pool8 1 #[.nestMembers #[193]] #[⟨8, 321, 322, #[]⟩] 49 4 #[] #[⟨26, 391, 25, #[]⟩, ⟨26, 393, 25, #[]⟩, ⟨26, 395, 25, #[]⟩, ⟨26, 397, 25, #[]⟩, ⟨26, 399, 12, #[]⟩, ⟨26, 402, 12, #[]⟩, ⟨26, 403, 12, #[]⟩, ⟨26, 406, 12, #[]⟩, ⟨26, 407, 12, #[]⟩, ⟨26, 191, 92, #[]⟩, ⟨26, 248, 92, #[]⟩, ⟨26, 102, 92, #[]⟩, ⟨26, 213, 92, #[]⟩, ⟨26, 127, 92, #[]⟩, ⟨26, 135, 92, #[]⟩, ⟨26, 91, 92, #[]⟩, ⟨26, 124, 92, #[]⟩, ⟨26, 264, 92, #[]⟩, ⟨18, 11, 12, #[]⟩, ⟨18, 15, 12, #[]⟩, ⟨18, 18, 12, #[]⟩, ⟨18, 21, 12, #[]⟩, ⟨18, 24, 25, #[]⟩, ⟨18, 28, 12, #[]⟩, ⟨18, 31, 12, #[]⟩, ⟨18, 34, 12, #[]⟩, ⟨18, 37, 12, #[]⟩])
  fields := #[⟨"MAX_PORT", .int, 26, 0, 0⟩, ⟨"MAX_QUOTED_SCHEME", .int, 26, 1, 0⟩, ⟨"HTTP_PORT", .int, 26, 2, 0⟩, ⟨"HTTPS_PORT", .int, 26, 3, 0⟩, ⟨"ALPHA_DIGIT", (.object "java/lang/String"), 26, 4, 0⟩, ⟨"UNRESERVED", (.object "java/lang/String"), 26, 5, 0⟩, ⟨"SUB_DELIMS", (.object "java/lang/String"), 26, 6, 0⟩, ⟨"HEX_DIGITS", (.object "java/lang/String"), 26, 7, 0⟩, ⟨"CONVERTIBLE", (.object "java/lang/String"), 26, 8, 0⟩, ⟨"SCHEME", (.object "com/example/echoes_to_canon/echoestocanon/HttpUrl$CharClass"), 26, 9, 0⟩, ⟨"UNRESERVED_CHARS", (.object "com/example/echoes_to_canon/echoestocanon/HttpUrl$CharClass"), 26, 10, 0⟩, ⟨"USER_INFO", (.object "com/example/echoes_to_canon/echoestocanon/HttpUrl$CharClass"), 26, 11, 0⟩, ⟨"REG_NAME", (.object "com/example/echoes_to_canon/echoestocanon/HttpUrl$CharClass"), 26, 12, 0⟩, ⟨"PATH", (.object "com/example/echoes_to_canon/echoestocanon/HttpUrl$CharClass"), 26, 13, 0⟩, ⟨"QUERY", (.object "com/example/echoes_to_canon/echoestocanon/HttpUrl$CharClass"), 26, 14, 0⟩, ⟨"AUTHORITY_END", (.object "com/example/echoes_to_canon/echoestocanon/HttpUrl$CharClass"), 26, 15, 0⟩, ⟨"PATH_END", (.object "com/example/echoes_to_canon/echoestocanon/HttpUrl$CharClass"), 26, 16, 0⟩, ⟨"CONVERTIBLE_CHARS", (.object "com/example/echoes_to_canon/echoestocanon/HttpUrl$CharClass"), 26, 17, 0⟩, ⟨"text", (.object "java/lang/String"), 18, 0, 0⟩, ⟨"scheme", (.object "java/lang/String"), 18, 1, 0⟩, ⟨"userInfo", (.object "java/lang/String"), 18, 2, 0⟩, ⟨"host", (.object "java/lang/String"), 18, 3, 0⟩, ⟨"port", .int, 18, 4, 0⟩, ⟨"portText", (.object "java/lang/String"), 18, 5, 0⟩, ⟨"path", (.object "java/lang/String"), 18, 6, 0⟩, ⟨"query", (.object "java/lang/String"), 18, 7, 0⟩, ⟨"fragment", (.object "java/lang/String"), 18, 8, 0⟩]
  methods := #[k8m0]
  instanceTypes := #[(.object "java/lang/String"), (.object "java/lang/String"), (.object "java/lang/String"), (.object "java/lang/String"), .int, (.object "java/lang/String"), (.object "java/lang/String"), (.object "java/lang/String"), (.object "java/lang/String")]
  staticTypes := #[.int, .int, .int, .int, (.object "java/lang/String"), (.object "java/lang/String"), (.object "java/lang/String"), (.object "java/lang/String"), (.object "java/lang/String"), (.object "com/example/echoes_to_canon/echoestocanon/HttpUrl$CharClass"), (.object "com/example/echoes_to_canon/echoestocanon/HttpUrl$CharClass"), (.object "com/example/echoes_to_canon/echoestocanon/HttpUrl$CharClass"), (.object "com/example/echoes_to_canon/echoestocanon/HttpUrl$CharClass"), (.object "com/example/echoes_to_canon/echoestocanon/HttpUrl$CharClass"), (.object "com/example/echoes_to_canon/echoestocanon/HttpUrl$CharClass"), (.object "com/example/echoes_to_canon/echoestocanon/HttpUrl$CharClass"), (.object "com/example/echoes_to_canon/echoestocanon/HttpUrl$CharClass"), (.object "com/example/echoes_to_canon/echoestocanon/HttpUrl$CharClass")]
  resolved := Array.replicate 472 none
  statics := none }

def pool9 : Array CpInfo := pool [(4, .class_ 6), (1, u "java/lang/Object"), (0, u "<init>"), (0, u "()V"), (5, .class_ 16), (1, u "java/lang/StringLatin1"), (21, .methodref 39 40), (0, .class_ 41), (0, .nameAndType 42 43), (0, u "java/lang/Math"), (0, u "min"), (0, u "(II)I"), (44, .methodref 14 89), (0, .nameAndType 90 91), (0, u "canEncode"), (0, u "(I)Z"), (0, .methodref 39 93), (0, .nameAndType 94 43), (0, u "max"), (0, .methodref 14 96), (0, .nameAndType 97 98), (0, u "indexOfChar"), (0, u "([BIII)I"), (2, u "indexOf"), (19, u "$assertionsDisabled"), (0, u "Z"), (98, .class_ 223), (1, u "java/lang/StringLatin1$LinesSpliterator"), (166, .class_ 391), (0, u "java/lang/StringLatin1$CharsSpliterator")] 3

def k9m0 : Method := { name := "<init>", desc := "()V", sig := { parameters := [], returnType := none }, accessFlags := 0, code := none }
def k9c1 : Code := { maxStack := 2, maxLocals := 1, code := jdk_43_method_4_code, exceptionTable := #[], attributes := #[] }
def k9m1 : Method := { name := "canEncode", desc := "(I)Z", sig := { parameters := [.int], returnType := some .boolean }, accessFlags := 9, code := some k9c1 }
def k9c2 : Code := { maxStack := 4, maxLocals := 4, code := jdk_43_method_22_code, exceptionTable := #[], attributes := #[] }
def k9m2 : Method := { name := "indexOf", desc := "([BIII)I", sig := { parameters := [(.array .byte), .int, .int, .int], returnType := some .int }, accessFlags := 9, code := some k9c2 }
def k9c3 : Code := { maxStack := 2, maxLocals := 6, code := jdk_43_method_23_code, exceptionTable := #[], attributes := #[] }
def k9m3 : Method := { name := "indexOfChar", desc := "([BIII)I", sig := { parameters := [(.array .byte), .int, .int, .int], returnType := some .int }, accessFlags := 10, code := some k9c3 }
/-- java/lang/StringLatin1 -/
def k9 : Class := { plain "java/lang/StringLatin1" (some 0) with
  accessFlags := 48
  interfaces := #[]
  cf := some (fileOf pool9 14 #[.nestMembers #[390, 221]] #[⟨0, 7, 8, #[]⟩, ⟨9, 90, 91, #[]⟩, ⟨9, 101, 98, #[]⟩, ⟨10, 97, 98, #[]⟩] 48 4 #[] #[⟨4120, 121, 122, #[]⟩])
  fields := #[⟨"$assertionsDisabled", .boolean, 4120, 0, 0⟩]
  methods := #[k9m0, k9m1, k9m2, k9m3]
  instanceTypes := #[]
  staticTypes := #[.boolean]
  resolved := Array.replicate 395 none
  statics := none }

def pool10 : Array CpInfo := pool [(1, .class_ 2), (0, u "java/lang/Math"), (1, .class_ 6), (1, u "java/lang/Object"), (0, u "<init>"), (0, u "()V"), (89, .class_ 100), (1, u "java/lang/Math$RandomNumberGeneratorHolder"), (71, u "negativeZeroFloatBits"), (0, u "J"), (2, u "negativeZeroDoubleBits"), (21, u "max"), (2, u "min"), (43, u "$assertionsDisabled"), (0, u "Z"), (88, u "(II)I"), (2, u "twoToTheDoubleScaleDown"), (0, u "D"), (4, u "twoToTheDoubleScaleUp"), (9, u "E"), (3, u "PI"), (2, u "TAU"), (2, u "DEGREES_TO_RADIANS"), (0, u "RADIANS_TO_DEGREES")] 94

def k10m0 : Method := { name := "<init>", desc := "()V", sig := { parameters := [], returnType := none }, accessFlags := 2, code := none }
def k10c1 : Code := { maxStack := 2, maxLocals := 2, code := jdk_29_method_65_code, exceptionTable := #[], attributes := #[] }
def k10m1 : Method := { name := "max", desc := "(II)I", sig := { parameters := [.int, .int], returnType := some .int }, accessFlags := 9, code := some k10c1 }
def k10c2 : Code := { maxStack := 2, maxLocals := 2, code := jdk_29_method_69_code, exceptionTable := #[], attributes := #[] }
def k10m2 : Method := { name := "min", desc := "(II)I", sig := { parameters := [.int, .int], returnType := some .int }, accessFlags := 9, code := some k10c2 }
/-- java/lang/Math -/
def k10 : Class := { plain "java/lang/Math" (some 0) with
  accessFlags := 49
  interfaces := #[]
  cf := some (fileOf pool10 1 #[.nestMembers #[98]] #[⟨2, 7, 8, #[]⟩, ⟨9, 198, 335, #[]⟩, ⟨9, 201, 335, #[]⟩] 49 4 #[] #[⟨25, 354, 339, #[]⟩, ⟨25, 358, 339, #[]⟩, ⟨25, 361, 339, #[]⟩, ⟨26, 364, 339, #[]⟩, ⟨26, 365, 339, #[]⟩, ⟨26, 172, 173, #[]⟩, ⟨26, 176, 173, #[]⟩, ⟨8, 344, 339, #[]⟩, ⟨8, 338, 339, #[]⟩, ⟨4120, 245, 246, #[]⟩])
  fields := #[⟨"E", .double, 25, 0, 0⟩, ⟨"PI", .double, 25, 1, 0⟩, ⟨"TAU", .double, 25, 2, 0⟩, ⟨"DEGREES_TO_RADIANS", .double, 26, 3, 0⟩, ⟨"RADIANS_TO_DEGREES", .double, 26, 4, 0⟩, ⟨"negativeZeroFloatBits", .long, 26, 5, 0⟩, ⟨"negativeZeroDoubleBits", .long, 26, 6, 0⟩, ⟨"twoToTheDoubleScaleUp", .double, 8, 7, 0⟩, ⟨"twoToTheDoubleScaleDown", .double, 8, 8, 0⟩, ⟨"$assertionsDisabled", .boolean, 4120, 9, 0⟩]
  methods := #[k10m0, k10m1, k10m2]
  instanceTypes := #[]
  staticTypes := #[.double, .double, .double, .double, .double, .long, .long, .double, .double, .boolean]
  resolved := Array.replicate 460 none
  statics := none }

def pool11 : Array CpInfo := pool [(3, .class_ 4), (0, u "java/lang/String"), (1, .class_ 8), (1, u "java/lang/Object"), (0, u "<init>"), (0, u "()V"), (0, .methodref 12 13), (0, .class_ 14), (0, .nameAndType 15 16), (0, u "java/lang/StringUTF16"), (0, u "newBytesLength"), (0, u "(I)I"), (3, .integer 1073741823), (23, .fieldref 12 45), (0, .nameAndType 46 47), (0, u "$assertionsDisabled"), (0, u "Z"), (0, .methodref 12 49), (0, .nameAndType 50 51), (0, u "length"), (0, u "([B)I"), (7, .fieldref 12 60), (0, .nameAndType 61 62), (0, u "HI_BYTE_SHIFT"), (0, u "I"), (0, .fieldref 12 64), (0, .nameAndType 65 62), (0, u "LO_BYTE_SHIFT"), (5, .methodref 12 72), (0, .nameAndType 73 74), (0, u "getChar"), (0, u "([BI)C"), (21, .methodref 12 97), (0, .nameAndType 98 99), (0, u "checkBoundsBeginEnd"), (0, u "(II[B)V"), (7, .methodref 12 108), (0, .nameAndType 109 110), (0, u "newBytesFor"), (0, u "(I)[B"), (0, .methodref 12 112), (0, .nameAndType 113 114), (0, u "putChar"), (0, u "([BII)V"), (0, .methodref 12 116), (0, .nameAndType 117 118), (0, u "compress"), (0, u "([CI[BII)I"), (0, .methodref 12 120), (0, .nameAndType 121 122), (0, u "toBytes"), (0, u "([CII)[B"), (60, .methodref 184 185), (0, .class_ 186), (0, .nameAndType 187 188), (0, u "java/lang/Math"), (0, u "min"), (0, u "(II)I"), (35, .methodref 184 225), (0, .nameAndType 226 188), (0, u "max"), (0, .integer 65536), (0, .methodref 12 229), (0, .nameAndType 230 231), (0, u "indexOfChar"), (0, u "([BIII)I"), (9, .methodref 3 242), (0, .nameAndType 98 243), (0, u "(III)V"), (0, .methodref 12 245), (0, .nameAndType 246 231), (0, u "indexOfCharUnsafe"), (14, u "coderFromArrayLen"), (0, u "([BI)B"), (5, u "indexOf"), (100, .class_ 371), (1, u "java/lang/StringUTF16$LinesSpliterator"), (58, u "MAX_LENGTH"), (196, .class_ 628), (0, u "java/lang/StringUTF16$CodePointsSpliterator"), (0, .class_ 630), (0, u "java/lang/StringUTF16$CharsSpliterator")] 4

def k11m0 : Method := { name := "<init>", desc := "()V", sig := { parameters := [], returnType := none }, accessFlags := 0, code := none }
def k11c1 : Code := { maxStack := 1, maxLocals := 1, code := jdk_52_method_2_code, exceptionTable := #[], attributes := #[] }
def k11m1 : Method := { name := "newBytesFor", desc := "(I)[B", sig := { parameters := [.int], returnType := some (.array .byte) }, accessFlags := 9, code := some k11c1 }
def k11c2 : Code := { maxStack := 4, maxLocals := 1, code := jdk_52_method_3_code, exceptionTable := #[], attributes := #[] }
def k11m2 : Method := { name := "newBytesLength", desc := "(I)I", sig := { parameters := [.int], returnType := some .int }, accessFlags := 9, code := some k11c2 }
def k11c3 : Code := { maxStack := 4, maxLocals := 3, code := jdk_52_method_4_code, exceptionTable := #[], attributes := #[] }
def k11m3 : Method := { name := "putChar", desc := "([BII)V", sig := { parameters := [(.array .byte), .int, .int], returnType := none }, accessFlags := 8, code := some k11c3 }
def k11c4 : Code := { maxStack := 3, maxLocals := 2, code := jdk_52_method_5_code, exceptionTable := #[], attributes := #[] }
def k11m4 : Method := { name := "getChar", desc := "([BI)C", sig := { parameters := [(.array .byte), .int], returnType := some .char }, accessFlags := 8, code := some k11c4 }
def k11c5 : Code := { maxStack := 2, maxLocals := 1, code := jdk_52_method_6_code, exceptionTable := #[], attributes := #[] }
def k11m5 : Method := { name := "length", desc := "([B)I", sig := { parameters := [(.array .byte)], returnType := some .int }, accessFlags := 9, code := some k11c5 }
def k11c6 : Code := { maxStack := 4, maxLocals := 5, code := jdk_52_method_14_code, exceptionTable := #[], attributes := #[] }
def k11m6 : Method := { name := "toBytes", desc := "([CII)[B", sig := { parameters := [(.array .char), .int, .int], returnType := some (.array .byte) }, accessFlags := 9, code := some k11c6 }
def k11c7 : Code := { maxStack := 2, maxLocals := 2, code := jdk_52_method_15_code, exceptionTable := #[], attributes := #[] }
def k11m7 : Method := { name := "coderFromArrayLen", desc := "([BI)B", sig := { parameters := [(.array .byte), .int], returnType := some .byte }, accessFlags := 8, code := some k11c7 }
def k11c8 : Code := { maxStack := 5, maxLocals := 6, code := jdk_52_method_16_code, exceptionTable := #[], attributes := #[] }
def k11m8 : Method := { name := "compress", desc := "([CII)[B", sig := { parameters := [(.array .char), .int, .int], returnType := some (.array .byte) }, accessFlags := 9, code := some k11c8 }
def k11c9 : Code := { maxStack := 3, maxLocals := 7, code := jdk_52_method_21_code, exceptionTable := #[], attributes := #[] }
def k11m9 : Method := { name := "compress", desc := "([CI[BII)I", sig := { parameters := [(.array .char), .int, (.array .byte), .int, .int], returnType := some .int }, accessFlags := 9, code := some k11c9 }
def k11c10 : Code := { maxStack := 4, maxLocals := 4, code := jdk_52_method_40_code, exceptionTable := #[], attributes := #[] }
def k11m10 : Method := { name := "indexOf", desc := "([BIII)I", sig := { parameters := [(.array .byte), .int, .int, .int], returnType := some .int }, accessFlags := 9, code := some k11c10 }
def k11c11 : Code := { maxStack := 4, maxLocals := 4, code := jdk_52_method_47_code, exceptionTable := #[], attributes := #[] }
def k11m11 : Method := { name := "indexOfChar", desc := "([BIII)I", sig := { parameters := [(.array .byte), .int, .int, .int], returnType := some .int }, accessFlags := 10, code := some k11c11 }
def k11c12 : Code := { maxStack := 2, maxLocals := 5, code := jdk_52_method_48_code, exceptionTable := #[], attributes := #[] }
def k11m12 : Method := { name := "indexOfCharUnsafe", desc := "([BIII)I", sig := { parameters := [(.array .byte), .int, .int, .int], returnType := some .int }, accessFlags := 10, code := some k11c12 }
def k11c13 : Code := { maxStack := 3, maxLocals := 3, code := jdk_52_method_93_code, exceptionTable := #[], attributes := #[] }
def k11m13 : Method := { name := "checkBoundsBeginEnd", desc := "(II[B)V", sig := { parameters := [.int, .int, (.array .byte)], returnType := none }, accessFlags := 9, code := some k11c13 }
/-- java/lang/StringUTF16 -/
def k11 : Class := { plain "java/lang/StringUTF16" (some 0) with
  accessFlags := 48
  interfaces := #[]
  cf := some (fileOf pool11 12 #[.nestMembers #[627, 629, 369]] #[⟨0, 9, 10, #[]⟩, ⟨9, 109, 110, #[]⟩, ⟨9, 15, 16, #[]⟩, ⟨8, 113, 114, #[]⟩, ⟨8, 73, 74, #[]⟩, ⟨9, 50, 51, #[]⟩, ⟨9, 121, 122, #[]⟩, ⟨8, 261, 262, #[]⟩, ⟨9, 117, 122, #[]⟩, ⟨9, 117, 118, #[]⟩, ⟨9, 268, 231, #[]⟩, ⟨10, 230, 231, #[]⟩, ⟨10, 246, 231, #[]⟩, ⟨9, 98, 99, #[]⟩] 48 6 #[] #[⟨26, 61, 62, #[]⟩, ⟨26, 65, 62, #[]⟩, ⟨24, 430, 62, #[]⟩, ⟨4120, 46, 47, #[]⟩])
  fields := #[⟨"HI_BYTE_SHIFT", .int, 26, 0, 0⟩, ⟨"LO_BYTE_SHIFT", .int, 26, 1, 0⟩, ⟨"MAX_LENGTH", .int, 24, 2, 0⟩, ⟨"$assertionsDisabled", .boolean, 4120, 3, 0⟩]
  methods := #[k11m0, k11m1, k11m2, k11m3, k11m4, k11m5, k11m6, k11m7, k11m8, k11m9, k11m10, k11m11, k11m12, k11m13]
  instanceTypes := #[]
  staticTypes := #[.int, .int, .int, .boolean]
  resolved := Array.replicate 635 none
  statics := some 1 }

def pool12 : Array CpInfo := pool [(2, .class_ 4), (1, u "java/lang/Object"), (0, u "<init>"), (0, u "()V"), (17, .class_ 26), (1, u "jdk/internal/util/Preconditions"), (20, u "checkFromToIndex"), (7, .class_ 56), (0, u "jdk/internal/util/Preconditions$4"), (57, .class_ 115), (0, u "jdk/internal/util/Preconditions$1"), (7, u "SIOOBE_FORMATTER"), (0, u "Ljava/util/function/BiFunction;"), (0, .class_ 126), (0, u "jdk/internal/util/Preconditions$2"), (3, u "AIOOBE_FORMATTER"), (0, .class_ 132), (0, u "jdk/internal/util/Preconditions$3"), (3, u "IOOBE_FORMATTER"), (46, u "(IIILjava/util/function/BiFunction;)I")] 10

def k12m0 : Method := { name := "<init>", desc := "()V", sig := { parameters := [], returnType := none }, accessFlags := 1, code := none }
def k12c1 : Code := { maxStack := 4, maxLocals := 4, code := jdk_41_method_12_code, exceptionTable := #[], attributes := #[] }
def k12m1 : Method := { name := "checkFromToIndex", desc := "(IIILjava/util/function/BiFunction;)I", sig := { parameters := [.int, .int, .int, (.object "java/util/function/BiFunction")], returnType := some .int }, accessFlags := 9, code := some k12c1 }
/-- jdk/internal/util/Preconditions -/
def k12 : Class := { plain "jdk/internal/util/Preconditions" (some 0) with
  accessFlags := 33
  interfaces := #[]
  cf := some (fileOf pool12 24 #[.nestMembers #[55, 131, 125, 114]] #[⟨1, 5, 6, #[]⟩, ⟨9, 47, 183, #[]⟩] 33 2 #[] #[⟨25, 123, 124, #[]⟩, ⟨25, 130, 124, #[]⟩, ⟨25, 136, 124, #[]⟩])
  fields := #[⟨"SIOOBE_FORMATTER", (.object "java/util/function/BiFunction"), 25, 0, 0⟩, ⟨"AIOOBE_FORMATTER", (.object "java/util/function/BiFunction"), 25, 1, 0⟩, ⟨"IOOBE_FORMATTER", (.object "java/util/function/BiFunction"), 25, 2, 0⟩]
  methods := #[k12m0, k12m1]
  instanceTypes := #[]
  staticTypes := #[(.object "java/util/function/BiFunction"), (.object "java/util/function/BiFunction"), (.object "java/util/function/BiFunction")]
  resolved := Array.replicate 194 none
  statics := some 2 }

def pool13 : Array CpInfo := pool [(9, u "<init>"), (6, .class_ 18), (1, u "java/lang/Object"), (0, u "()V"), (1, .class_ 23), (1, u "jdk/internal/util/ArraysSupport"), (0, u "LOG2_ARRAY_LONG_INDEX_SCALE"), (0, u "I"), (2, u "U"), (0, u "Ljdk/internal/misc/Unsafe;"), (8, u "BIG_ENDIAN"), (0, u "Z"), (8, u "LOG2_BYTE_BIT_SIZE"), (4, u "LOG2_ARRAY_INT_INDEX_SCALE"), (54, u "JLA"), (0, u "Ljdk/internal/access/JavaLangAccess;"), (11, u "LOG2_ARRAY_BOOLEAN_INDEX_SCALE"), (9, u "LOG2_ARRAY_BYTE_INDEX_SCALE"), (5, u "LOG2_ARRAY_CHAR_INDEX_SCALE"), (5, u "LOG2_ARRAY_SHORT_INDEX_SCALE"), (18, u "LOG2_ARRAY_FLOAT_INDEX_SCALE"), (24, u "LOG2_ARRAY_DOUBLE_INDEX_SCALE"), (89, u "T_BOOLEAN"), (2, u "T_CHAR"), (1, u "T_FLOAT"), (1, u "T_DOUBLE"), (1, u "T_BYTE"), (1, u "T_SHORT"), (1, u "T_INT"), (1, u "T_LONG"), (1, u "SOFT_MAX_ARRAY_LENGTH")] 83

def k13m0 : Method := { name := "<init>", desc := "()V", sig := { parameters := [], returnType := none }, accessFlags := 2, code := none }
/-- jdk/internal/util/ArraysSupport -/
def k13 : Class := { plain "jdk/internal/util/ArraysSupport" (some 0) with
  accessFlags := 33
  interfaces := #[]
  cf := some (fileOf pool13 21 #[] #[⟨2, 9, 19, #[]⟩] 33 16 #[] #[⟨24, 28, 29, #[]⟩, ⟨26, 38, 39, #[]⟩, ⟨25, 121, 25, #[]⟩, ⟨25, 131, 25, #[]⟩, ⟨25, 137, 25, #[]⟩, ⟨25, 143, 25, #[]⟩, ⟨25, 53, 25, #[]⟩, ⟨25, 24, 25, #[]⟩, ⟨25, 162, 25, #[]⟩, ⟨25, 187, 25, #[]⟩, ⟨26, 48, 25, #[]⟩, ⟨25, 277, 25, #[]⟩, ⟨25, 280, 25, #[]⟩, ⟨25, 282, 25, #[]⟩, ⟨25, 284, 25, #[]⟩, ⟨25, 286, 25, #[]⟩, ⟨25, 288, 25, #[]⟩, ⟨25, 290, 25, #[]⟩, ⟨25, 292, 25, #[]⟩, ⟨26, 108, 109, #[]⟩, ⟨25, 294, 25, #[]⟩])
  fields := #[⟨"U", (.object "jdk/internal/misc/Unsafe"), 24, 0, 0⟩, ⟨"BIG_ENDIAN", .boolean, 26, 1, 0⟩, ⟨"LOG2_ARRAY_BOOLEAN_INDEX_SCALE", .int, 25, 2, 0⟩, ⟨"LOG2_ARRAY_BYTE_INDEX_SCALE", .int, 25, 3, 0⟩, ⟨"LOG2_ARRAY_CHAR_INDEX_SCALE", .int, 25, 4, 0⟩, ⟨"LOG2_ARRAY_SHORT_INDEX_SCALE", .int, 25, 5, 0⟩, ⟨"LOG2_ARRAY_INT_INDEX_SCALE", .int, 25, 6, 0⟩, ⟨"LOG2_ARRAY_LONG_INDEX_SCALE", .int, 25, 7, 0⟩, ⟨"LOG2_ARRAY_FLOAT_INDEX_SCALE", .int, 25, 8, 0⟩, ⟨"LOG2_ARRAY_DOUBLE_INDEX_SCALE", .int, 25, 9, 0⟩, ⟨"LOG2_BYTE_BIT_SIZE", .int, 26, 10, 0⟩, ⟨"T_BOOLEAN", .int, 25, 11, 0⟩, ⟨"T_CHAR", .int, 25, 12, 0⟩, ⟨"T_FLOAT", .int, 25, 13, 0⟩, ⟨"T_DOUBLE", .int, 25, 14, 0⟩, ⟨"T_BYTE", .int, 25, 15, 0⟩, ⟨"T_SHORT", .int, 25, 16, 0⟩, ⟨"T_INT", .int, 25, 17, 0⟩, ⟨"T_LONG", .int, 25, 18, 0⟩, ⟨"JLA", (.object "jdk/internal/access/JavaLangAccess"), 26, 19, 0⟩, ⟨"SOFT_MAX_ARRAY_LENGTH", .int, 25, 20, 0⟩]
  methods := #[k13m0]
  instanceTypes := #[]
  staticTypes := #[(.object "jdk/internal/misc/Unsafe"), .boolean, .int, .int, .int, .int, .int, .int, .int, .int, .int, .int, .int, .int, .int, .int, .int, .int, .int, (.object "jdk/internal/access/JavaLangAccess"), .int]
  resolved := Array.replicate 378 none
  statics := none }

def pool14 : Array CpInfo := pool [(1, u "java/lang/Cloneable"), (0, .class_ 1), (0, u "java/lang/Object"), (0, .class_ 3)] 3

/-- java/lang/Cloneable -/
def k14 : Class := { plain "java/lang/Cloneable" (some 0) with
  accessFlags := 1537
  interfaces := #[]
  cf := some (fileOf pool14 2 #[] #[] 1537 4 #[] #[])
  fields := #[]
  methods := #[]
  instanceTypes := #[]
  staticTypes := #[]
  resolved := Array.replicate 8 none
  statics := none }

/-- the primitive byte -/
def k15 : Class := { plain "byte" none with kind := .primitive 'B', accessFlags := 0x411 }
/-- [B -/
def k16 : Class := { plain "[B" (some 0) with kind := .array 15 .byte, interfaces := #[14, 2], accessFlags := 1041 }

/-- the primitive char -/
def k17 : Class := { plain "char" none with kind := .primitive 'C', accessFlags := 0x411 }
/-- [C -/
def k18 : Class := { plain "[C" (some 0) with kind := .array 17 .char, interfaces := #[14, 2], accessFlags := 1041 }

/-- the primitive int -/
def k19 : Class := { plain "int" none with kind := .primitive 'I', accessFlags := 0x411 }
/-- [I -/
def k20 : Class := { plain "[I" (some 0) with kind := .array 19 .int, interfaces := #[14, 2], accessFlags := 1041 }

def heap : Heap := #[{ cls := 7, slots := #[.long 0, .int 1, .null, .int 0, .null, .int 0, .int 0], vm := .statics 7 },
  { cls := 11, slots := #[.int 0, .int 8, .int 0, .int 1], vm := .statics 11 },
  { cls := 12, slots := #[.null, .null, .null], vm := .statics 12 }]
def classes : Array Class := #[k0, k1, k2, k3, k4, k5, k6, k7, k8, k9, k10, k11, k12, k13, k14, k15, k16, k17, k18, k19, k20]
def interned : List (Array UInt16 × Addr) := []
def slotsUsed : Nat := 14
def theMethod : MethodId := ⟨1, 2⟩
def args0 : Array Value := #[.int 5, .int 6, .int 7, .int 8, .int 9]
def aboutOver (below : List Frame) : State where
  vm := { classes := classes, interned := interned.toArray }
  heap := heap
  slotsUsed := slotsUsed
  threads := #[{ frames := .invoking theMethod args0 :: below }]
def below0 : List Frame := [.native { method := ⟨0, 0⟩, args := #[] }]
def about1 : State := aboutOver below0
def p0 : Program := .bare "" "" ""
def e0 : Env := launch0.env 0 0 0
theorem w_frames : about1.frames = Frame.invoking theMethod args0 :: below0 := rfl
set_option maxRecDepth 65536 in
theorem w_args : argsFit about1.vm theMethod args0 = true := by decide +kernel
set_option maxRecDepth 65536 in
theorem w_heap : heapFits about1 = true := by decide +kernel
set_option maxRecDepth 65536 in
theorem w_runnable : about1.curStatus? = some .runnable := by decide +kernel
set_option maxRecDepth 65536 in
theorem w_alone : about1.alone = true := by decide +kernel
set_option maxRecDepth 65536 in
theorem w_named : about1.methodNamed? x = some theMethod := by decide +kernel
set_option maxRecDepth 65536 in
theorem w_hears : about1.hears theMethod below0 = true := by decide +kernel
set_option maxRecDepth 65536 in
theorem w_ripe : about1.ripe theMethod args0 below0 = true := by decide +kernel
theorem w_running : about1.status = .running := rfl
set_option maxRecDepth 65536 in
theorem w_room : about1.hasRoom e0.platform room_1 = true :=
  launch0.hasRoom_least _ room_1 (by decide +kernel) (by decide +kernel) (by decide +kernel) (by decide +kernel) (by decide +kernel) (by decide +kernel)
theorem allAtoms_all (ts : List Jvm.Cond) (a : Array Jvm.Value) (st : Jvm.State) : (allAtoms ts).before a st = ts.all (fun c => c.before a st) := by
  induction ts with
  | nil => rfl
  | cons c t ih =>
    show (Jvm.Cond.and c (allAtoms t)).before a st = _
    rw [Jvm.Cond.before_and, ih, List.all_cons]
def words1 : List Jvm.Cond := Jvm.Cond.code x code maxLocals ret :: tables_1
/-- a 'code' word, met by the world's own term for the bytes: nothing is compared byte by byte -/
theorem code_word {y : MethodName} {bytes : ByteArray} {mx : Nat} {rt : Option FieldType} {a : Array Value} {s : State} {m : MethodId} {meth : Method} {c : Code} (h1 : s.methodNamed? y = some m) (h2 : s.vm.method? m = some meth) (h3 : meth.code = some c) (h4 : c.code = bytes)
    (h5 : (c.maxLocals == mx && c.exceptionTable.isEmpty && decide (c.maxStack ≤ mostOperands) && decide (meth.sig.returnType = rt) && !meth.locks && decide (parseMethodDescriptor y.desc = some meth.sig)) = true) : (Jvm.Cond.code y bytes mx rt).before a s = true := by
  simp only [Bool.and_eq_true, beq_iff_eq, Bool.not_eq_true', decide_eq_true_eq] at h5
  obtain ⟨⟨⟨⟨⟨g1, g2⟩, g3⟩, g4⟩, g5⟩, g6⟩ := h5
  simp [Cond.before, Cond.holds, Cond.value, h1, h2, h3, h4, g1, g2, g3, g4, g5, g6]
def isCode : Jvm.Cond → Bool
  | .code _ _ _ _ => true
  | _ => false
theorem all_split {L : List Jvm.Cond} {P : Jvm.Cond → Bool} (h1 : L.all (fun c => isCode c || P c) = true) (h2 : ∀ c ∈ L.filter isCode, P c = true) : L.all P = true := by
  refine List.all_eq_true.mpr fun c hc => ?_
  have h := List.all_eq_true.mp h1 c hc
  rcases Bool.eq_false_or_eq_true (isCode c) with hi | hi
  · exact h2 c (List.mem_filter.mpr ⟨hc, hi⟩)
  · simpa [hi] using h
set_option maxRecDepth 65536 in
theorem w_c0 : (Jvm.Cond.code x code maxLocals ret).before args0 about1 = true := code_word (m := ⟨1, 2⟩) (meth := k1m2) (c := k1c2) (by decide +kernel) rfl rfl rfl (by decide +kernel)
set_option maxRecDepth 65536 in
theorem w_c1 : (Jvm.Cond.code Y0_ method_2_code (2 : Nat) (Option.some Jvm.ClassFile.FieldType.char)).before args0 about1 = true := code_word (m := ⟨1, 1⟩) (meth := k1m1) (c := k1c1) (by decide +kernel) rfl rfl rfl (by decide +kernel)
set_option maxRecDepth 65536 in
theorem w_c2 : (Jvm.Cond.code Y2_ jdk_42_method_3_code (2 : Nat) (Option.none : Option Jvm.ClassFile.FieldType)).before args0 about1 = true := code_word (m := ⟨7, 1⟩) (meth := k7m1) (c := k7c1) (by decide +kernel) rfl rfl rfl (by decide +kernel)
set_option maxRecDepth 65536 in
theorem w_c3 : (Jvm.Cond.code Y1_ jdk_42_method_149_code (6 : Nat) (Option.none : Option Jvm.ClassFile.FieldType)).before args0 about1 = true := code_word (m := ⟨7, 5⟩) (meth := k7m5) (c := k7c5) (by decide +kernel) rfl rfl rfl (by decide +kernel)
set_option maxRecDepth 65536 in
theorem w_c4 : (Jvm.Cond.code (⟨"java/lang/Object", "<init>", "()V"⟩ : Jvm.MethodName) object_method_1_code (1 : Nat) (Option.none : Option Jvm.ClassFile.FieldType)).before args0 about1 = true := code_word (m := ⟨0, 0⟩) (meth := k0m0) (c := k0c0) (by decide +kernel) rfl rfl rfl (by decide +kernel)
set_option maxRecDepth 65536 in
theorem w_c5 : (Jvm.Cond.code Y11_ prog_2_method_30_code (1 : Nat) (Option.some Jvm.ClassFile.FieldType.char)).before args0 about1 = true := code_word (m := ⟨8, 0⟩) (meth := k8m0) (c := k8c0) (by decide +kernel) rfl rfl rfl (by decide +kernel)
set_option maxRecDepth 65536 in
theorem w_c6 : (Jvm.Cond.code Y10_ jdk_42_method_79_code (2 : Nat) (Option.some Jvm.ClassFile.FieldType.int)).before args0 about1 = true := code_word (m := ⟨7, 3⟩) (meth := k7m3) (c := k7c3) (by decide +kernel) rfl rfl rfl (by decide +kernel)
set_option maxRecDepth 65536 in
theorem w_c7 : (Jvm.Cond.code Y8_ jdk_42_method_80_code (3 : Nat) (Option.some Jvm.ClassFile.FieldType.int)).before args0 about1 = true := code_word (m := ⟨7, 4⟩) (meth := k7m4) (c := k7c4) (by decide +kernel) rfl rfl rfl (by decide +kernel)
set_option maxRecDepth 65536 in
theorem w_c8 : (Jvm.Cond.code Y3_ jdk_42_method_154_code (1 : Nat) (Option.some Jvm.ClassFile.FieldType.boolean)).before args0 about1 = true := code_word (m := ⟨7, 7⟩) (meth := k7m7) (c := k7c7) (by decide +kernel) rfl rfl rfl (by decide +kernel)
set_option maxRecDepth 65536 in
theorem w_c9 : (Jvm.Cond.code Y9_ jdk_42_method_54_code (1 : Nat) (Option.some Jvm.ClassFile.FieldType.int)).before args0 about1 = true := code_word (m := ⟨7, 2⟩) (meth := k7m2) (c := k7c2) (by decide +kernel) rfl rfl rfl (by decide +kernel)
set_option maxRecDepth 65536 in
theorem w_c10 : (Jvm.Cond.code Y20_ jdk_42_method_152_code (1 : Nat) (Option.some Jvm.ClassFile.FieldType.byte)).before args0 about1 = true := code_word (m := ⟨7, 6⟩) (meth := k7m6) (c := k7c6) (by decide +kernel) rfl rfl rfl (by decide +kernel)
set_option maxRecDepth 65536 in
theorem w_c11 : (Jvm.Cond.code Y7_ jdk_43_method_22_code (4 : Nat) (Option.some Jvm.ClassFile.FieldType.int)).before args0 about1 = true := code_word (m := ⟨9, 2⟩) (meth := k9m2) (c := k9c2) (by decide +kernel) rfl rfl rfl (by decide +kernel)
set_option maxRecDepth 65536 in
theorem w_c12 : (Jvm.Cond.code Y4_ jdk_43_method_4_code (1 : Nat) (Option.some Jvm.ClassFile.FieldType.boolean)).before args0 about1 = true := code_word (m := ⟨9, 1⟩) (meth := k9m1) (c := k9c1) (by decide +kernel) rfl rfl rfl (by decide +kernel)
set_option maxRecDepth 65536 in
theorem w_c13 : (Jvm.Cond.code Y5_ jdk_29_method_65_code (2 : Nat) (Option.some Jvm.ClassFile.FieldType.int)).before args0 about1 = true := code_word (m := ⟨10, 1⟩) (meth := k10m1) (c := k10c1) (by decide +kernel) rfl rfl rfl (by decide +kernel)
set_option maxRecDepth 65536 in
theorem w_c14 : (Jvm.Cond.code Y6_ jdk_29_method_69_code (2 : Nat) (Option.some Jvm.ClassFile.FieldType.int)).before args0 about1 = true := code_word (m := ⟨10, 2⟩) (meth := k10m2) (c := k10c2) (by decide +kernel) rfl rfl rfl (by decide +kernel)
set_option maxRecDepth 65536 in
theorem w_c15 : (Jvm.Cond.code Y18_ jdk_52_method_16_code (6 : Nat) (Option.some (Jvm.ClassFile.FieldType.array Jvm.ClassFile.FieldType.byte))).before args0 about1 = true := code_word (m := ⟨11, 8⟩) (meth := k11m8) (c := k11c8) (by decide +kernel) rfl rfl rfl (by decide +kernel)
set_option maxRecDepth 65536 in
theorem w_c16 : (Jvm.Cond.code Y12_ jdk_52_method_21_code (7 : Nat) (Option.some Jvm.ClassFile.FieldType.int)).before args0 about1 = true := code_word (m := ⟨11, 9⟩) (meth := k11m9) (c := k11c9) (by decide +kernel) rfl rfl rfl (by decide +kernel)
set_option maxRecDepth 65536 in
theorem w_c17 : (Jvm.Cond.code Y19_ jdk_52_method_15_code (2 : Nat) (Option.some Jvm.ClassFile.FieldType.byte)).before args0 about1 = true := code_word (m := ⟨11, 7⟩) (meth := k11m7) (c := k11c7) (by decide +kernel) rfl rfl rfl (by decide +kernel)
set_option maxRecDepth 65536 in
theorem w_c18 : (Jvm.Cond.code Y28_ jdk_43_method_23_code (6 : Nat) (Option.some Jvm.ClassFile.FieldType.int)).before args0 about1 = true := code_word (m := ⟨9, 3⟩) (meth := k9m3) (c := k9c3) (by decide +kernel) rfl rfl rfl (by decide +kernel)
set_option maxRecDepth 65536 in
theorem w_c19 : (Jvm.Cond.code Y16_ jdk_52_method_14_code (5 : Nat) (Option.some (Jvm.ClassFile.FieldType.array Jvm.ClassFile.FieldType.byte))).before args0 about1 = true := code_word (m := ⟨11, 6⟩) (meth := k11m6) (c := k11c6) (by decide +kernel) rfl rfl rfl (by decide +kernel)
set_option maxRecDepth 65536 in
theorem w_c20 : (Jvm.Cond.code Y14_ jdk_52_method_2_code (1 : Nat) (Option.some (Jvm.ClassFile.FieldType.array Jvm.ClassFile.FieldType.byte))).before args0 about1 = true := code_word (m := ⟨11, 1⟩) (meth := k11m1) (c := k11c1) (by decide +kernel) rfl rfl rfl (by decide +kernel)
set_option maxRecDepth 65536 in
theorem w_c21 : (Jvm.Cond.code Y13_ jdk_52_method_3_code (1 : Nat) (Option.some Jvm.ClassFile.FieldType.int)).before args0 about1 = true := code_word (m := ⟨11, 2⟩) (meth := k11m2) (c := k11c2) (by decide +kernel) rfl rfl rfl (by decide +kernel)
set_option maxRecDepth 65536 in
theorem w_c22 : (Jvm.Cond.code Y15_ jdk_52_method_4_code (3 : Nat) (Option.none : Option Jvm.ClassFile.FieldType)).before args0 about1 = true := code_word (m := ⟨11, 3⟩) (meth := k11m3) (c := k11c3) (by decide +kernel) rfl rfl rfl (by decide +kernel)
set_option maxRecDepth 65536 in
theorem w_c23 : (Jvm.Cond.code Y17_ jdk_52_method_5_code (2 : Nat) (Option.some Jvm.ClassFile.FieldType.char)).before args0 about1 = true := code_word (m := ⟨11, 4⟩) (meth := k11m4) (c := k11c4) (by decide +kernel) rfl rfl rfl (by decide +kernel)
set_option maxRecDepth 65536 in
theorem w_c24 : (Jvm.Cond.code Y27_ jdk_52_method_40_code (4 : Nat) (Option.some Jvm.ClassFile.FieldType.int)).before args0 about1 = true := code_word (m := ⟨11, 10⟩) (meth := k11m10) (c := k11c10) (by decide +kernel) rfl rfl rfl (by decide +kernel)
set_option maxRecDepth 65536 in
theorem w_c25 : (Jvm.Cond.code Y26_ jdk_52_method_47_code (4 : Nat) (Option.some Jvm.ClassFile.FieldType.int)).before args0 about1 = true := code_word (m := ⟨11, 11⟩) (meth := k11m11) (c := k11c11) (by decide +kernel) rfl rfl rfl (by decide +kernel)
set_option maxRecDepth 65536 in
theorem w_c26 : (Jvm.Cond.code Y24_ jdk_52_method_93_code (3 : Nat) (Option.none : Option Jvm.ClassFile.FieldType)).before args0 about1 = true := code_word (m := ⟨11, 13⟩) (meth := k11m13) (c := k11c13) (by decide +kernel) rfl rfl rfl (by decide +kernel)
set_option maxRecDepth 65536 in
theorem w_c27 : (Jvm.Cond.code Y21_ jdk_52_method_6_code (1 : Nat) (Option.some Jvm.ClassFile.FieldType.int)).before args0 about1 = true := code_word (m := ⟨11, 5⟩) (meth := k11m5) (c := k11c5) (by decide +kernel) rfl rfl rfl (by decide +kernel)
set_option maxRecDepth 65536 in
theorem w_c28 : (Jvm.Cond.code Y23_ jdk_42_method_158_code (3 : Nat) (Option.none : Option Jvm.ClassFile.FieldType)).before args0 about1 = true := code_word (m := ⟨7, 8⟩) (meth := k7m8) (c := k7c8) (by decide +kernel) rfl rfl rfl (by decide +kernel)
set_option maxRecDepth 65536 in
theorem w_c29 : (Jvm.Cond.code Y22_ jdk_41_method_12_code (4 : Nat) (Option.some Jvm.ClassFile.FieldType.int)).before args0 about1 = true := code_word (m := ⟨12, 1⟩) (meth := k12m1) (c := k12c1) (by decide +kernel) rfl rfl rfl (by decide +kernel)
set_option maxRecDepth 65536 in
theorem w_c30 : (Jvm.Cond.code Y25_ jdk_52_method_48_code (5 : Nat) (Option.some Jvm.ClassFile.FieldType.int)).before args0 about1 = true := code_word (m := ⟨11, 12⟩) (meth := k11m12) (c := k11c12) (by decide +kernel) rfl rfl rfl (by decide +kernel)
def codes1 : List Jvm.Cond := [Jvm.Cond.code x code maxLocals ret, Jvm.Cond.code Y0_ method_2_code (2 : Nat) (Option.some Jvm.ClassFile.FieldType.char), Jvm.Cond.code Y2_ jdk_42_method_3_code (2 : Nat) (Option.none : Option Jvm.ClassFile.FieldType), Jvm.Cond.code Y1_ jdk_42_method_149_code (6 : Nat) (Option.none : Option Jvm.ClassFile.FieldType), Jvm.Cond.code (⟨"java/lang/Object", "<init>", "()V"⟩ : Jvm.MethodName) object_method_1_code (1 : Nat) (Option.none : Option Jvm.ClassFile.FieldType), Jvm.Cond.code Y11_ prog_2_method_30_code (1 : Nat) (Option.some Jvm.ClassFile.FieldType.char), Jvm.Cond.code Y10_ jdk_42_method_79_code (2 : Nat) (Option.some Jvm.ClassFile.FieldType.int), Jvm.Cond.code Y8_ jdk_42_method_80_code (3 : Nat) (Option.some Jvm.ClassFile.FieldType.int), Jvm.Cond.code Y3_ jdk_42_method_154_code (1 : Nat) (Option.some Jvm.ClassFile.FieldType.boolean), Jvm.Cond.code Y9_ jdk_42_method_54_code (1 : Nat) (Option.some Jvm.ClassFile.FieldType.int), Jvm.Cond.code Y20_ jdk_42_method_152_code (1 : Nat) (Option.some Jvm.ClassFile.FieldType.byte), Jvm.Cond.code Y7_ jdk_43_method_22_code (4 : Nat) (Option.some Jvm.ClassFile.FieldType.int), Jvm.Cond.code Y4_ jdk_43_method_4_code (1 : Nat) (Option.some Jvm.ClassFile.FieldType.boolean), Jvm.Cond.code Y5_ jdk_29_method_65_code (2 : Nat) (Option.some Jvm.ClassFile.FieldType.int), Jvm.Cond.code Y6_ jdk_29_method_69_code (2 : Nat) (Option.some Jvm.ClassFile.FieldType.int), Jvm.Cond.code Y18_ jdk_52_method_16_code (6 : Nat) (Option.some (Jvm.ClassFile.FieldType.array Jvm.ClassFile.FieldType.byte)), Jvm.Cond.code Y12_ jdk_52_method_21_code (7 : Nat) (Option.some Jvm.ClassFile.FieldType.int), Jvm.Cond.code Y19_ jdk_52_method_15_code (2 : Nat) (Option.some Jvm.ClassFile.FieldType.byte), Jvm.Cond.code Y28_ jdk_43_method_23_code (6 : Nat) (Option.some Jvm.ClassFile.FieldType.int), Jvm.Cond.code Y16_ jdk_52_method_14_code (5 : Nat) (Option.some (Jvm.ClassFile.FieldType.array Jvm.ClassFile.FieldType.byte)), Jvm.Cond.code Y14_ jdk_52_method_2_code (1 : Nat) (Option.some (Jvm.ClassFile.FieldType.array Jvm.ClassFile.FieldType.byte)), Jvm.Cond.code Y13_ jdk_52_method_3_code (1 : Nat) (Option.some Jvm.ClassFile.FieldType.int), Jvm.Cond.code Y15_ jdk_52_method_4_code (3 : Nat) (Option.none : Option Jvm.ClassFile.FieldType), Jvm.Cond.code Y17_ jdk_52_method_5_code (2 : Nat) (Option.some Jvm.ClassFile.FieldType.char), Jvm.Cond.code Y27_ jdk_52_method_40_code (4 : Nat) (Option.some Jvm.ClassFile.FieldType.int), Jvm.Cond.code Y26_ jdk_52_method_47_code (4 : Nat) (Option.some Jvm.ClassFile.FieldType.int), Jvm.Cond.code Y24_ jdk_52_method_93_code (3 : Nat) (Option.none : Option Jvm.ClassFile.FieldType), Jvm.Cond.code Y21_ jdk_52_method_6_code (1 : Nat) (Option.some Jvm.ClassFile.FieldType.int), Jvm.Cond.code Y23_ jdk_42_method_158_code (3 : Nat) (Option.none : Option Jvm.ClassFile.FieldType), Jvm.Cond.code Y22_ jdk_41_method_12_code (4 : Nat) (Option.some Jvm.ClassFile.FieldType.int), Jvm.Cond.code Y25_ jdk_52_method_48_code (5 : Nat) (Option.some Jvm.ClassFile.FieldType.int)]
set_option maxRecDepth 65536 in
theorem codes_eq : words1.filter isCode = codes1 := rfl
theorem w_codes : ∀ c ∈ words1.filter isCode, c.before args0 about1 = true := by
  rw [codes_eq]
  intro c hc
  simp only [codes1, List.mem_cons, List.not_mem_nil, or_false] at hc
  rcases hc with rfl | rfl | rfl | rfl | rfl | rfl | rfl | rfl | rfl | rfl | rfl | rfl | rfl | rfl | rfl | rfl | rfl | rfl | rfl | rfl | rfl | rfl | rfl | rfl | rfl | rfl | rfl | rfl | rfl | rfl | rfl
  · exact w_c0
  · exact w_c1
  · exact w_c2
  · exact w_c3
  · exact w_c4
  · exact w_c5
  · exact w_c6
  · exact w_c7
  · exact w_c8
  · exact w_c9
  · exact w_c10
  · exact w_c11
  · exact w_c12
  · exact w_c13
  · exact w_c14
  · exact w_c15
  · exact w_c16
  · exact w_c17
  · exact w_c18
  · exact w_c19
  · exact w_c20
  · exact w_c21
  · exact w_c22
  · exact w_c23
  · exact w_c24
  · exact w_c25
  · exact w_c26
  · exact w_c27
  · exact w_c28
  · exact w_c29
  · exact w_c30
set_option maxRecDepth 65536 in
theorem w_t1 : (words1.take 24).all (fun c => isCode c || c.before args0 about1) = true := by decide +kernel
set_option maxRecDepth 65536 in
theorem w_t2 : ((words1.drop 24).take 24).all (fun c => isCode c || c.before args0 about1) = true := by decide +kernel
set_option maxRecDepth 65536 in
theorem w_t3 : (((words1.drop 24).drop 24).take 24).all (fun c => isCode c || c.before args0 about1) = true := by decide +kernel
set_option maxRecDepth 65536 in
theorem w_t4 : ((((words1.drop 24).drop 24).drop 24).take 24).all (fun c => isCode c || c.before args0 about1) = true := by decide +kernel
set_option maxRecDepth 65536 in
theorem w_t5 : (((((words1.drop 24).drop 24).drop 24).drop 24).take 24).all (fun c => isCode c || c.before args0 about1) = true := by decide +kernel
set_option maxRecDepth 65536 in
theorem w_t6 : (((((words1.drop 24).drop 24).drop 24).drop 24).drop 24).all (fun c => isCode c || c.before args0 about1) = true := by decide +kernel
theorem w_tables : (allAtoms (Jvm.Cond.code x code maxLocals ret :: tables_1)).before args0 about1 = true := by
  rw [allAtoms_all]
  show words1.all (fun c => c.before args0 about1) = true
  refine all_split ?_ w_codes
  rw [← List.take_append_drop 24 words1, List.all_append, w_t1, ← List.take_append_drop 24 (words1.drop 24), List.all_append, w_t2, ← List.take_append_drop 24 ((words1.drop 24).drop 24), List.all_append, w_t3, ← List.take_append_drop 24 (((words1.drop 24).drop 24).drop 24), List.all_append, w_t4, ← List.take_append_drop 24 ((((words1.drop 24).drop 24).drop 24).drop 24), List.all_append, w_t5, w_t6]
  rfl
set_option maxRecDepth 65536 in
theorem w_rest : rest_1_c.before args0 about1 = true := by decide +kernel
set_option maxRecDepth 65536 in
theorem w_case : (Jvm.Cond.and given_1 narrow_1).before args0 about1 = true := by decide +kernel
set_option maxRecDepth 65536 in
theorem w_consts : constsHeld consts_1 about1 := Jvm.Lit.constsHeldB_iff.mp (by decide +kernel)
theorem w_applies : (headSpec (Jvm.Cond.code x code maxLocals ret :: tables_1) room_1).applies x e0.platform about1 = true :=
  (Spec.applies_iff w_frames).mpr ⟨w_running, w_runnable, w_alone, w_named, w_hears, w_ripe, w_room, w_tables⟩
theorem atStart : AtStart classFile x code maxLocals ret World_1 tables_1 room_1 Calls_1 rest_1 Pre_1 launch0 p0 e0 about1 theMethod args0 below0 :=
  ⟨lists_1, trivial, launch0.admits_env _ _ _, launch0.least_env, fairChoices_fair.cas, fairChoices_fair.clock, w_frames, w_args, w_heap, w_applies, ⟨w_consts, trivial⟩, w_rest, w_case⟩
end start1
theorem witness_1 : WitnessClaimed_1 := ⟨start1.p0, start1.e0, start1.about1, start1.theMethod, start1.args0, start1.below0, start1.atStart⟩
end Jvm.Pilot.@@N@@
