import JvmDerived
import JvmDerived.Pilot.@@N@@Statement
import JvmDerived.Pilot.@@N@@Code
set_option linter.unusedVariables false
set_option linter.unusedSimpArgs false
namespace Jvm.RoadKit
open Sem ClassFile Op Lib Jvm.Stand Jvm.Free Jvm.LawKit
section New
variable {p : Program} {l : Launch} {e : Env} {R : Room} {s : State} {m : MethodId} {args : Array Value} {below : List Frame} {meth : Method} {c : Code} {T : State} {locs : List Loc} {cells slots : Nat}
theorem retI (X : Stand p l e R s m args below meth c T locs cells slots) (hx : p.tables.exec = Jvm.exec) {pc : Nat} {Ls : Array Slot} {z : Int32} {rest : List Value} (hret : meth.sig.returnType = some .int) (hd : decode c.code pc = .ok (.ireturn, 1)) {fs : List Frame}
    (hl : ∀ (f : JFrame) (acts : List Action), f.method = m → f.locked = none → f.entered = [] → (doReturn e (T.setTop f) acts (some (.int z))).1 = T.setFrames fs) : Steps p.tables e below (T.setTop (mkF m pc Ls (.int z :: rest))) (T.setFrames fs) :=
  retOut X hx hret rfl (Or.inl ⟨rfl, Or.inl rfl, z, rfl⟩) hd hl
end New
end Jvm.RoadKit
/- laws to paste: Road.backV, Road.lenW, Road.codOf, Road.eqW, Road.chN (cut by pick.py; bodies as the Statement names them) -/
namespace Jvm.Pilot.@@N@@
namespace StrChars
open Jvm Sem ClassFile Op Lib Jvm.Stand Jvm.Free.XT Jvm.Free.ALB Jvm.Free.JM Jvm.Free
open Jvm.Lib.Cold (StaticIs)
/-- a char array whose places are chars -/
def Ch (a : Addr) (A : Cell) (U : State) : Prop := Arr .char a A U ∧ Typed .char A
theorem Ch.mv {a : Addr} {A : Cell} {U U' : State} (h : Ch a A U) (hal : U.vm.Alike U'.vm) (hh : U'.heap = U.heap) : Ch a A U' := ⟨h.1.mv hal hh, h.2⟩
theorem Ch.keep {a : Addr} {A : Cell} {U U' : State} (h : Ch a A U) (hal : U.vm.Alike U'.vm) (hk : U'.heap[a]? = some A) : Ch a A U' := ⟨h.1.keep hal hk, h.2⟩
/-- what place i of a char[]'s cell holds -/
def cv (A : Cell) (i : Nat) : Int32 := match A.slots[i]? with | some (.int x) => x | _ => 0
theorem Ch.get {a : Addr} {A : Cell} {U : State} (h : Ch a A U) {i : Nat} (hi : i < A.slots.size) : A.slots[i]? = some (.int (cv A i)) := by
  have e := Array.getElem?_eq_getElem hi
  have f := h.2 i _ e
  unfold cv; rw [e]
  generalize A.slots[i] = v at f
  cases v <;> simp [fits] at f ⊢
/-- the byte that i2b leaves of a char -/
def lo8 (x : Int32) : Int32 := x.toInt8.toInt32
theorem fits_lo8 (y : Int32) : fits .byte (.int (lo8 y)) = true := by
  have h1 := y.toInt8.le_toInt
  have h2 := y.toInt8.toInt_lt
  simp only [lo8, fits, Bool.and_eq_true, decide_eq_true_eq, Int32.le_iff_toInt_le, Int8.toInt_toInt32, show (-128 : Int32).toInt = -128 from by decide, show (127 : Int32).toInt = 127 from by decide]
  omega
/-- A' is A but that each place j of lo .. hi - 1 holds f j -/
def Laid (A A' : Cell) (lo hi : Nat) (f : Nat → Value) : Prop := A'.cls = A.cls ∧ A'.vm = A.vm ∧ A'.slots.size = A.slots.size ∧ ∀ i, A'.slots[i]? = if lo ≤ i ∧ i < hi then some (f i) else A.slots[i]?
theorem Laid.zero (A : Cell) (lo : Nat) (f : Nat → Value) : Laid A A lo (lo + 0) f := ⟨rfl, rfl, rfl, fun i => by rw [if_neg (by omega)]⟩
theorem Laid.step {A Ak : Cell} {lo k : Nat} {f : Nat → Value} {v : Value} (h : Laid A Ak lo k f) (hlo : lo ≤ k) (hk : k < Ak.slots.size) (hv : v = f k) : Laid A (Ak.setSlot k v) lo (k + 1) f := by
  refine ⟨h.1, h.2.1, by simpa [Cell.setSlot] using h.2.2.1, fun i => ?_⟩
  by_cases e : k = i
  · subst e; rw [Cell.slots_setSlot_self v hk, if_pos (by omega), hv]
  · rw [Cell.slots_setSlot_ne v e, h.2.2.2 i]
    by_cases q : lo ≤ i ∧ i < k
    · rw [if_pos q, if_pos (by omega)]
    · rw [if_neg q, if_neg (by omega)]
def U16 : String := "java/lang/StringUTF16"
namespace Cmp5
def yN : MethodName := ⟨"java/lang/StringUTF16", "compress", "([CI[BII)I"⟩
abbrev yB : ByteArray := jdk_52_method_21_code
theorem d0 : decode yB 0 = .ok (.iconst 0, 1) := by decide +kernel
theorem d1 : decode yB 1 = .ok (.istore 5, 2) := by decide +kernel
theorem d3 : decode yB 3 = .ok (.iload 5, 2) := by decide +kernel
theorem d5 : decode yB 5 = .ok (.iload 4, 2) := by decide +kernel
theorem d7 : decode yB 7 = .ok (.if_icmp (.ge) 37, 3) := by decide +kernel
theorem d10 : decode yB 10 = .ok (.aload_n 0, 1) := by decide +kernel
theorem d11 : decode yB 11 = .ok (.iload_n 1, 1) := by decide +kernel
theorem d12 : decode yB 12 = .ok (.caload, 1) := by decide +kernel
theorem d13 : decode yB 13 = .ok (.istore 6, 2) := by decide +kernel
theorem d15 : decode yB 15 = .ok (.iload 6, 2) := by decide +kernel
theorem d17 : decode yB 17 = .ok (.sipush 255, 3) := by decide +kernel
theorem d20 : decode yB 20 = .ok (.if_icmp (.le) 6, 3) := by decide +kernel
theorem d26 : decode yB 26 = .ok (.aload_n 2, 1) := by decide +kernel
theorem d27 : decode yB 27 = .ok (.iload_n 3, 1) := by decide +kernel
theorem d28 : decode yB 28 = .ok (.iload 6, 2) := by decide +kernel
theorem d30 : decode yB 30 = .ok (.i2b, 1) := by decide +kernel
theorem d31 : decode yB 31 = .ok (.bastore, 1) := by decide +kernel
theorem d32 : decode yB 32 = .ok (.iinc 1 1, 3) := by decide +kernel
theorem d35 : decode yB 35 = .ok (.iinc 3 1, 3) := by decide +kernel
theorem d38 : decode yB 38 = .ok (.iinc 5 1, 3) := by decide +kernel
theorem d41 : decode yB 41 = .ok (.goto (-38), 3) := by decide +kernel
theorem d44 : decode yB 44 = .ok (.iload 4, 2) := by decide +kernel
theorem d46 : decode yB 46 = .ok (.ireturn, 1) := by decide +kernel
def site : List Cond := []
def tab : Cond := tabOf yN yB 7 (some .int) site
def P (b : Addr) (A : Cell) (d : Addr) (B : Cell) (o q len : Nat) (args : Array Value) (s : State) : Prop := args = #[.ref b, .int (Int32.ofNat o), .ref d, .int (Int32.ofNat q), .int (Int32.ofNat len)] ∧ Ch b A s ∧ Arr .byte d B s ∧ b ≠ d ∧ o + len ≤ A.slots.size ∧ q + len ≤ B.slots.size ∧ ∀ i, i < len → ¬ 255 < cv A (o + i)
def E (b : Addr) (A : Cell) (d : Addr) (B : Cell) (o q len : Nat) (r : Option Value) (s u : State) : Prop := r = some (.int (Int32.ofNat len)) ∧ ∃ B', Put d B' s u ∧ Laid B B' q (q + len) (fun j => Value.int (lo8 (cv A (o + (j - q)))))
/-- no char of the range above 255: len; the places written hold each char's low byte -/
theorem law (l : Launch) (b : Addr) (A : Cell) (d : Addr) (B : Cell) (o q len : Nat) : Law l yN 5 5 0 0 yB 7 (some .int) site (P b A d B o q len) (E b A d B o q len) (copyLocs d q len) 0 0 := by
  refine Law.of_walk (plainFor_of_name (by decide +kernel)) (by decide +kernel) (by decide +kernel) (by decide) (fun _ _ h => by rw [h.1]; rfl) (fun _ U U' hal hh h => ⟨h.1, h.2.1.mv hal hh, h.2.2.1.mv hal hh, h.2.2.2⟩) (fun r U U' V V' h1 hal h2 h => ⟨h.1, h.2.elim fun B' q => ⟨B', q.1.mv h1 h2, q.2⟩⟩) ?_
  intro p e s m args below meth c s₁ X0 hexec hbytes hml hret hlk hnm hown hh0 W hP
  obtain ⟨rfl, hA, hB, hne, l1, l2, hp⟩ := hP
  have c1 : Steps p.tables e below (s₁.setTop (entryFrame m #[.ref b, .int (Int32.ofNat o), .ref d, .int (Int32.ofNat q), .int (Int32.ofNat len)] 7)) (s₁.setTop (mkF m 0 #[.val (.ref b), .val (.int (Int32.ofNat o)), .val (.ref d), .val (.int (Int32.ofNat q)), .val (.int (Int32.ofNat len)), .unset, .unset] [])) := entry rfl
  have hA0 := hA.1.mv X0.warmed.alike hh0
  have hB0 := hB.mv X0.warmed.alike hh0
  have a31 := hA.1.2.2.2
  have c2 : Steps p.tables e below (s₁.setTop (entryFrame m #[.ref b, .int (Int32.ofNat o), .ref d, .int (Int32.ofNat q), .int (Int32.ofNat len)] 7)) (s₁.setTop (mkF m 3 #[.val (.ref b), .val (.int (Int32.ofNat o)), .val (.ref d), .val (.int (Int32.ofNat q)), .val (.int (Int32.ofNat len)), .val (.int 0), .unset] [])) := c1.trans (by
    refine iconstV X0.here hexec rfl 0 (hb hbytes d0) (by decide) ?_
    refine XS.istore X0.here hexec rfl (hb hbytes d1) rfl rfl ?_
    exact Steps.refl _)
  have loop : ∀ (r i : Nat), i + r = len → ∀ (z : Slot), (z = .unset ∨ ∃ w, z = .val w ∧ w.category = 1) → ∀ (Tl : State) (Bk : Cell), Stand p l e { frames := 0, locals := 0, cells := 0, slots := 0 } s m #[.ref b, .int (Int32.ofNat o), .ref d, .int (Int32.ofNat q), .int (Int32.ofNat len)] below meth c Tl ([] ++ copyLocs d q i) 0 0 → Put d Bk s₁ Tl → Laid B Bk q (q + i) (fun j => Value.int (lo8 (cv A (o + (j - q))))) →
      Steps p.tables e below (s₁.setTop (entryFrame m #[.ref b, .int (Int32.ofNat o), .ref d, .int (Int32.ofNat q), .int (Int32.ofNat len)] 7)) (Tl.setTop (mkF m 3 #[.val (.ref b), .val (.int (Int32.ofNat (o + i))), .val (.ref d), .val (.int (Int32.ofNat (q + i))), .val (.int (Int32.ofNat len)), .val (.int (Int32.ofNat i)), z] [])) → ∃ (T' : State) (B' : Cell) (z' : Slot), Stand p l e { frames := 0, locals := 0, cells := 0, slots := 0 } s m #[.ref b, .int (Int32.ofNat o), .ref d, .int (Int32.ofNat q), .int (Int32.ofNat len)] below meth c T' ([] ++ copyLocs d q len) 0 0 ∧ Put d B' s₁ T' ∧ Laid B B' q (q + len) (fun j => Value.int (lo8 (cv A (o + (j - q))))) ∧
      Steps p.tables e below (s₁.setTop (entryFrame m #[.ref b, .int (Int32.ofNat o), .ref d, .int (Int32.ofNat q), .int (Int32.ofNat len)] 7)) (T'.setTop (mkF m 3 #[.val (.ref b), .val (.int (Int32.ofNat (o + len))), .val (.ref d), .val (.int (Int32.ofNat (q + len))), .val (.int (Int32.ofNat len)), .val (.int (Int32.ofNat len)), z'] [])) := by
    intro r
    induction r with
    | zero =>
      intro i hi z hz Tl Bk Xl pl fl cl
      have hil : i = len := by omega
      rw [hil] at Xl fl cl
      exact ⟨Tl, Bk, z, Xl, pl, fl, cl⟩
    | succ r ih =>
      intro i hi z hz Tl Bk Xl pl fl cl
      have all := X0.warmed.alike.symm.trans Xl.warmed.alike
      have hAl := hA0.keep all (pl.other hne hA0.1)
      have hBk := hB0.like all pl.1 fl.1 fl.2.1 fl.2.2.1
      have hlt : q + i < Bk.slots.size := by rw [fl.2.2.1]; omega
      have c3 : Steps p.tables e below (s₁.setTop (entryFrame m #[.ref b, .int (Int32.ofNat o), .ref d, .int (Int32.ofNat q), .int (Int32.ofNat len)] 7)) (Tl.setTop (mkF m 12 #[.val (.ref b), .val (.int (Int32.ofNat (o + i))), .val (.ref d), .val (.int (Int32.ofNat (q + i))), .val (.int (Int32.ofNat len)), .val (.int (Int32.ofNat i)), z] [.int (Int32.ofNat (o + i)), .ref b])) := cl.trans (by
        refine XS.iload Xl.here hexec rfl (hb hbytes d3) rfl ?_
        refine XS.iload Xl.here hexec rfl (hb hbytes d5) rfl ?_
        refine XS.icmpNo Xl.here hexec rfl (hb hbytes d7) rfl (ii_ge_f (lt32 (by omega) (by omega))) ?_
        refine XS.aloadN Xl.here hexec rfl (hb hbytes d10) rfl rfl ?_
        refine XS.iloadN Xl.here hexec rfl (hb hbytes d11) rfl ?_
        exact Steps.refl _)
      have c4 : Steps p.tables e below (s₁.setTop (entryFrame m #[.ref b, .int (Int32.ofNat o), .ref d, .int (Int32.ofNat q), .int (Int32.ofNat len)] 7)) (Tl.setTop (mkF m 13 #[.val (.ref b), .val (.int (Int32.ofNat (o + i))), .val (.ref d), .val (.int (Int32.ofNat (q + i))), .val (.int (Int32.ofNat len)), .val (.int (Int32.ofNat i)), z] [.int (cv A (o + i))])) := c3.trans (by
        refine Xl.aget hexec hAl rfl (hA.get (i := o + i) (by omega)) rfl rfl (hb hbytes d12) ?_
        exact Steps.refl _)
      have c5 : Steps p.tables e below (s₁.setTop (entryFrame m #[.ref b, .int (Int32.ofNat o), .ref d, .int (Int32.ofNat q), .int (Int32.ofNat len)] 7)) (Tl.setTop (mkF m 15 #[.val (.ref b), .val (.int (Int32.ofNat (o + i))), .val (.ref d), .val (.int (Int32.ofNat (q + i))), .val (.int (Int32.ofNat len)), .val (.int (Int32.ofNat i)), .val (.int (cv A (o + i)))] [])) := c4.trans (by
        refine XS.istoreS Xl.here hexec rfl (hb hbytes d13) rfl rfl hz ?_
        exact Steps.refl _)
      have c6 : Steps p.tables e below (s₁.setTop (entryFrame m #[.ref b, .int (Int32.ofNat o), .ref d, .int (Int32.ofNat q), .int (Int32.ofNat len)] 7)) (Tl.setTop (mkF m 31 #[.val (.ref b), .val (.int (Int32.ofNat (o + i))), .val (.ref d), .val (.int (Int32.ofNat (q + i))), .val (.int (Int32.ofNat len)), .val (.int (Int32.ofNat i)), .val (.int (cv A (o + i)))] [.int (lo8 (cv A (o + i))), .int (Int32.ofNat (q + i)), .ref d])) := c5.trans (by
        refine XS.iload Xl.here hexec rfl (hb hbytes d15) rfl ?_
        refine sipushV Xl.here hexec rfl 255 (hb hbytes d17) (by decide) ?_
        refine XS.icmpYes Xl.here hexec rfl (pc0 := 20) rfl (hb hbytes d20) rfl (ii_le_t (hp i (by omega))) (by decide) rfl ?_
        refine XS.aloadN Xl.here hexec rfl (hb hbytes d26) rfl rfl ?_
        refine XS.iloadN Xl.here hexec rfl (hb hbytes d27) rfl ?_
        refine XS.iload Xl.here hexec rfl (hb hbytes d28) rfl ?_
        refine i2b Xl.here hexec rfl (hb hbytes d30) rfl ?_
        exact Steps.refl _)
      obtain ⟨T7, X7, p7, st7⟩ := Xl.aput hexec hBk rfl hlt rfl (fits_lo8 (cv A (o + i))) (g := (mkF m 31 #[.val (.ref b), .val (.int (Int32.ofNat (o + i))), .val (.ref d), .val (.int (Int32.ofNat (q + i))), .val (.int (Int32.ofNat len)), .val (.int (Int32.ofNat i)), .val (.int (cv A (o + i)))] [.int (lo8 (cv A (o + i))), .int (Int32.ofNat (q + i)), .ref d])) rfl (rest := []) rfl (hb hbytes d31)
      have c8 : Steps p.tables e below (s₁.setTop (entryFrame m #[.ref b, .int (Int32.ofNat o), .ref d, .int (Int32.ofNat q), .int (Int32.ofNat len)] 7)) (T7.setTop (mkF m 32 #[.val (.ref b), .val (.int (Int32.ofNat (o + i))), .val (.ref d), .val (.int (Int32.ofNat (q + i))), .val (.int (Int32.ofNat len)), .val (.int (Int32.ofNat i)), .val (.int (cv A (o + i)))] [])) := c6.trans (st7 _ (Steps.refl _))
      have c9 : Steps p.tables e below (s₁.setTop (entryFrame m #[.ref b, .int (Int32.ofNat o), .ref d, .int (Int32.ofNat q), .int (Int32.ofNat len)] 7)) (T7.setTop (mkF m 3 #[.val (.ref b), .val (.int (Int32.ofNat (o + i) + 1)), .val (.ref d), .val (.int (Int32.ofNat (q + i) + 1)), .val (.int (Int32.ofNat len)), .val (.int (Int32.ofNat i + 1)), .val (.int (cv A (o + i)))] [])) := c8.trans (by
        refine iincV X7.here hexec rfl 1 (hb hbytes d32) (by decide) rfl rfl ?_
        refine iincV X7.here hexec rfl 1 (hb hbytes d35) (by decide) rfl rfl ?_
        refine iincV X7.here hexec rfl 1 (hb hbytes d38) (by decide) rfl rfl ?_
        refine XS.goto X7.here hexec rfl (pc0 := 41) rfl (hb hbytes d41) (by decide) rfl ?_
        exact Steps.refl _)
      have c10 : Steps p.tables e below (s₁.setTop (entryFrame m #[.ref b, .int (Int32.ofNat o), .ref d, .int (Int32.ofNat q), .int (Int32.ofNat len)] 7)) (T7.setTop (mkF m 3 #[.val (.ref b), .val (.int (Int32.ofNat (o + (i + 1)))), .val (.ref d), .val (.int (Int32.ofNat (q + (i + 1)))), .val (.int (Int32.ofNat len)), .val (.int (Int32.ofNat (i + 1))), .val (.int (cv A (o + i)))] [])) := by
        have := c9
        rw [succ32, succ32, succ32] at this
        exact this
      exact ih (i + 1) (by omega) _ (Or.inr ⟨_, rfl, rfl⟩) T7 _ (by rw [copyLocs_step, ← List.append_assoc]; exact X7) (pl.trans p7) (fl.step (by omega) hlt (by simp)) c10
  obtain ⟨T9, B9, z9, X9, p9, f9, g9⟩ := loop len 0 (by omega) .unset (Or.inl rfl) s₁ B (by simpa [copyLocs] using X0) ⟨hB0.1, fun _ _ => rfl, rfl⟩ (Laid.zero _ _ _) c2
  have c11 : Steps p.tables e below (s₁.setTop (entryFrame m #[.ref b, .int (Int32.ofNat o), .ref d, .int (Int32.ofNat q), .int (Int32.ofNat len)] 7)) (T9.setTop (mkF m 46 #[.val (.ref b), .val (.int (Int32.ofNat (o + len))), .val (.ref d), .val (.int (Int32.ofNat (q + len))), .val (.int (Int32.ofNat len)), .val (.int (Int32.ofNat len)), z9] [.int (Int32.ofNat len)])) := g9.trans (by
    refine XS.iload X9.here hexec rfl (hb hbytes d3) rfl ?_
    refine XS.iload X9.here hexec rfl (hb hbytes d5) rfl ?_
    refine XS.icmpYes X9.here hexec rfl (pc0 := 7) rfl (hb hbytes d7) rfl (ii_ge_t (nlt32 (by omega) (Nat.le_refl _))) (by decide) rfl ?_
    refine XS.iload X9.here hexec rfl (hb hbytes d44) rfl ?_
    exact Steps.refl _)
  exact ⟨T9, some (.int (Int32.ofNat len)), _, _, _, X9, by simp, rfl, rfl, (fun h => by cases h), ⟨rfl, B9, p9.from hh0, f9⟩, fun fs hl => c11.trans (X9.ireturnOut hexec hret rfl (Or.inl rfl) (hb hbytes d46) hl)⟩
end Cmp5
namespace Cmp3
def yN : MethodName := ⟨"java/lang/StringUTF16", "compress", "([CII)[B"⟩
abbrev yB : ByteArray := jdk_52_method_16_code
theorem d0 : decode yB 0 = .ok (.iload_n 2, 1) := by decide +kernel
theorem d1 : decode yB 1 = .ok (.newarray .byte, 2) := by decide +kernel
theorem d3 : decode yB 3 = .ok (.astore_n 3, 1) := by decide +kernel
theorem d4 : decode yB 4 = .ok (.aload_n 0, 1) := by decide +kernel
theorem d5 : decode yB 5 = .ok (.iload_n 1, 1) := by decide +kernel
theorem d6 : decode yB 6 = .ok (.aload_n 3, 1) := by decide +kernel
theorem d7 : decode yB 7 = .ok (.iconst 0, 1) := by decide +kernel
theorem d8 : decode yB 8 = .ok (.iload_n 2, 1) := by decide +kernel
theorem d9 : decode yB 9 = .ok (.invokestatic 115, 3) := by decide +kernel
theorem d12 : decode yB 12 = .ok (.istore 4, 2) := by decide +kernel
theorem d14 : decode yB 14 = .ok (.iload 4, 2) := by decide +kernel
theorem d16 : decode yB 16 = .ok (.iload_n 2, 1) := by decide +kernel
theorem d17 : decode yB 17 = .ok (.if_icmp (.eq) 40, 3) := by decide +kernel
theorem d57 : decode yB 57 = .ok (.aload_n 3, 1) := by decide +kernel
theorem d58 : decode yB 58 = .ok (.areturn, 1) := by decide +kernel
def site : List Cond := [.arrayClass .byte, Cmp5.tab] ++ staticW U16 115 Cmp5.yN
def tab : Cond := tabOf yN yB 6 (some (.array .byte)) site
def P (b : Addr) (A : Cell) (o len : Nat) (args : Array Value) (s : State) : Prop := args = #[.ref b, .int (Int32.ofNat o), .int (Int32.ofNat len)] ∧ Ch b A s ∧ o + len ≤ A.slots.size ∧ len ≤ 536870912 ∧ ∀ i, i < len → ¬ 255 < cv A (o + i)
def E (b : Addr) (A : Cell) (o len : Nat) (r : Option Value) (s u : State) : Prop := NewArr .byte "[B" len (fun j => .int (lo8 (cv A (o + j)))) r s u ∧ u.heap.size = s.heap.size + 1
/-- no char of the range above 255: a new byte[] of their low bytes -/
theorem law (l : Launch) (b : Addr) (A : Cell) (o len : Nat) : Law l yN 3 3 1 18 yB 6 (some (.array .byte)) site (P b A o len) (E b A o len) [] 1 len := by
  refine Law.of_walk (plainFor_of_name (by decide +kernel)) (by decide +kernel) (by decide +kernel) (by decide) (fun _ _ h => by rw [h.1]; rfl) (fun _ U U' hal hh h => ⟨h.1, h.2.1.mv hal hh, h.2.2⟩) (fun r U U' V V' h1 hal h2 h => ⟨NewArr.mv r U U' V V' h1 hal h2 h.1, by rw [h1, h2]; exact h.2⟩) ?_
  intro p e s m args below meth c s₁ X0 hexec hbytes hml hret hlk hnm hown hh0 W hP
  obtain ⟨rfl, hA, l1, l2, hp⟩ := hP
  have a31 := hA.1.2.2.2
  have c1 : Steps p.tables e below (s₁.setTop (entryFrame m #[.ref b, .int (Int32.ofNat o), .int (Int32.ofNat len)] 6)) (s₁.setTop (mkF m 0 #[.val (.ref b), .val (.int (Int32.ofNat o)), .val (.int (Int32.ofNat len)), .unset, .unset, .unset] [])) := entry rfl
  have c2 : Steps p.tables e below (s₁.setTop (entryFrame m #[.ref b, .int (Int32.ofNat o), .int (Int32.ofNat len)] 6)) (s₁.setTop (mkF m 1 #[.val (.ref b), .val (.int (Int32.ofNat o)), .val (.int (Int32.ofNat len)), .unset, .unset, .unset] [.int (Int32.ofNat len)])) := c1.trans (by
    refine XS.iloadN X0.here hexec rfl (hb hbytes d0) rfl ?_
    exact Steps.refl _)
  obtain ⟨T3, B3, X3, ba3, bs3, bv3, bh3, bf3, st3⟩ := X0.anew hexec (atype := .byte) (wk W (.arrayClass .byte)) rfl (by show len * 1 ≤ _; omega) (by omega) (g := (mkF m 1 #[.val (.ref b), .val (.int (Int32.ofNat o)), .val (.int (Int32.ofNat len)), .unset, .unset, .unset] [.int (Int32.ofNat len)])) rfl (hb hbytes d1) (rest := []) rfl (Nat.le_refl _) (by show 0 + len ≤ len; omega)
  rw [hh0] at ba3 st3
  have kp3 : XT.Kept s T3 := (XT.Kept.of_eq hh0).push bh3
  have hA3 := hA.keep X3.warmed.alike (kp3 _ _ hA.1.1)
  have hne : b ≠ s.heap.size := hA.1.ne
  have c4 : Steps p.tables e below (s₁.setTop (entryFrame m #[.ref b, .int (Int32.ofNat o), .int (Int32.ofNat len)] 6)) (T3.setTop (mkF m 3 #[.val (.ref b), .val (.int (Int32.ofNat o)), .val (.int (Int32.ofNat len)), .unset, .unset, .unset] [.ref s.heap.size])) := c2.trans (st3 _ (Steps.refl _))
  have c5 : Steps p.tables e below (s₁.setTop (entryFrame m #[.ref b, .int (Int32.ofNat o), .int (Int32.ofNat len)] 6)) (T3.setTop (mkF m 9 #[.val (.ref b), .val (.int (Int32.ofNat o)), .val (.int (Int32.ofNat len)), .val (.ref s.heap.size), .unset, .unset] [.int (Int32.ofNat len), .int 0, .ref s.heap.size, .int (Int32.ofNat o), .ref b])) := c4.trans (by
    refine XS.astoreN X3.here hexec rfl (hb hbytes d3) rfl rfl rfl ?_
    refine XS.aloadN X3.here hexec rfl (hb hbytes d4) rfl rfl ?_
    refine XS.iloadN X3.here hexec rfl (hb hbytes d5) rfl ?_
    refine XS.aloadN X3.here hexec rfl (hb hbytes d6) rfl rfl ?_
    refine iconstV X3.here hexec rfl 0 (hb hbytes d7) (by decide) ?_
    refine XS.iloadN X3.here hexec rfl (hb hbytes d8) rfl ?_
    exact Steps.refl _)
  obtain ⟨v6, T6, X6, E6, g6⟩ := X3.callS hexec (Cmp5.law l b A s.heap.size B3 o 0 len) hown (wks W (staticW U16 115 Cmp5.yN)) (wk W Cmp5.tab) (W := 0) (Nat.le_of_ble_eq_true rfl) (Nat.le_of_ble_eq_true rfl) (Nat.le_refl _) (by show 0 + len + 0 ≤ len; omega) (g := (mkF m 9 #[.val (.ref b), .val (.int (Int32.ofNat o)), .val (.int (Int32.ofNat len)), .val (.ref s.heap.size), .unset, .unset] [.int (Int32.ofNat len), .int (Int32.ofNat 0), .ref s.heap.size, .int (Int32.ofNat o), .ref b])) rfl (by rw [hml]; rfl) c5 (argsL := [.ref b, .int (Int32.ofNat o), .ref s.heap.size, .int (Int32.ofNat 0), .int (Int32.ofNat len)]) (rest := []) rfl rfl (by show 2 * 0 + 0 ≤ _; decide) (hb hbytes d9) (⟨rfl, hA3, ba3, hne, l1, by rw [bs3]; simp, hp⟩)
  obtain ⟨rfl, B6, p6, f6⟩ := E6
  have c7 : Steps p.tables e below (s₁.setTop (entryFrame m #[.ref b, .int (Int32.ofNat o), .int (Int32.ofNat len)] 6)) (T6.setTop (mkF m 12 #[.val (.ref b), .val (.int (Int32.ofNat o)), .val (.int (Int32.ofNat len)), .val (.ref s.heap.size), .unset, .unset] [.int (Int32.ofNat len)])) := g6
  have c8 : Steps p.tables e below (s₁.setTop (entryFrame m #[.ref b, .int (Int32.ofNat o), .int (Int32.ofNat len)] 6)) (T6.setTop (mkF m 58 #[.val (.ref b), .val (.int (Int32.ofNat o)), .val (.int (Int32.ofNat len)), .val (.ref s.heap.size), .val (.int (Int32.ofNat len)), .unset] [.ref s.heap.size])) := c7.trans (by
    refine XS.istore X6.here hexec rfl (hb hbytes d12) rfl rfl ?_
    refine XS.iload X6.here hexec rfl (hb hbytes d14) rfl ?_
    refine XS.iloadN X6.here hexec rfl (hb hbytes d16) rfl ?_
    refine XS.icmpYes X6.here hexec rfl (pc0 := 17) rfl (hb hbytes d17) rfl (ii_eq_t rfl) (by decide) rfl ?_
    refine XS.aloadN X6.here hexec rfl (hb hbytes d57) rfl rfl ?_
    exact Steps.refl _)
  have X8 := X6.wide (L' := []) (cells' := 1) (slots' := len) (fun x hx hlt => by
    simp only [List.nil_append, copyLocs, List.mem_map, List.mem_range] at hx
    obtain ⟨i, -, rfl⟩ := hx
    exact absurd hlt (Nat.lt_irrefl _)) (Nat.le_refl _) (by omega)
  exact ⟨T6, some (.ref s.heap.size), _, _, _, X8, rfl, rfl, rfl, (fun h => by cases h), ⟨⟨rfl, B6, ba3.like (X3.warmed.alike.symm.trans X6.warmed.alike) p6.1 f6.1 f6.2.1 f6.2.2.1, f6.2.1.trans bv3, by rw [X6.warmed.alike.findClass, f6.1]; exact bf3, by rw [f6.2.2.1, bs3]; simp, fun j hj => by rw [f6.2.2.2 j, if_pos (by omega)]; rfl, kp3.put p6 (Nat.le_refl _)⟩, by rw [p6.2.2, bh3, hh0]; simp⟩, fun fs hl => c8.trans (X8.areturnOut hexec rfl hret rfl (hb hbytes d58) hl)⟩
end Cmp3
namespace CodL
def yN : MethodName := ⟨"java/lang/StringUTF16", "coderFromArrayLen", "([BI)B"⟩
abbrev yB : ByteArray := jdk_52_method_15_code
theorem d0 : decode yB 0 = .ok (.iload_n 1, 1) := by decide +kernel
theorem d1 : decode yB 1 = .ok (.aload_n 0, 1) := by decide +kernel
theorem d2 : decode yB 2 = .ok (.arraylength, 1) := by decide +kernel
theorem d3 : decode yB 3 = .ok (.isub, 1) := by decide +kernel
theorem d4 : decode yB 4 = .ok (.bipush 31, 2) := by decide +kernel
theorem d6 : decode yB 6 = .ok (.iushr, 1) := by decide +kernel
theorem d7 : decode yB 7 = .ok (.i2b, 1) := by decide +kernel
theorem d8 : decode yB 8 = .ok (.ireturn, 1) := by decide +kernel
def site : List Cond := []
def tab : Cond := tabOf yN yB 2 (some .byte) site
def P (d : Addr) (B : Cell) (args : Array Value) (s : State) : Prop := args = #[.ref d, .int (Int32.ofNat B.slots.size)] ∧ Arr .byte d B s
def E (r : Option Value) (s u : State) : Prop := XT.PureE (some (.int 0)) r s u
/-- an array as long as the number of chars: LATIN1 -/
theorem law (l : Launch) (d : Addr) (B : Cell) : Law l yN 2 2 0 0 yB 2 (some .byte) site (P d B) E [] 0 0 := by
  refine Law.of_walk (plainFor_of_name (by decide +kernel)) (by decide +kernel) (by decide +kernel) (by decide) (fun _ _ h => by rw [h.1]; rfl) (fun _ U U' hal hh h => ⟨h.1, h.2.mv hal hh⟩) (fun r U U' V V' h1 hal h2 h => XT.PureE.mv r U U' V V' h1 hal h2 h) ?_
  intro p e s m args below meth c s₁ X0 hexec hbytes hml hret hlk hnm hown hh0 W hP
  obtain ⟨rfl, hB⟩ := hP
  have hB0 := hB.mv X0.warmed.alike hh0
  have c1 : Steps p.tables e below (s₁.setTop (entryFrame m #[.ref d, .int (Int32.ofNat B.slots.size)] 2)) (s₁.setTop (mkF m 0 #[.val (.ref d), .val (.int (Int32.ofNat B.slots.size))] [])) := entry rfl
  have c2 : Steps p.tables e below (s₁.setTop (entryFrame m #[.ref d, .int (Int32.ofNat B.slots.size)] 2)) (s₁.setTop (mkF m 2 #[.val (.ref d), .val (.int (Int32.ofNat B.slots.size))] [.ref d, .int (Int32.ofNat B.slots.size)])) := c1.trans (by
    refine XS.iloadN X0.here hexec rfl (hb hbytes d0) rfl ?_
    refine XS.aloadN X0.here hexec rfl (hb hbytes d1) rfl rfl ?_
    exact Steps.refl _)
  have c3 : Steps p.tables e below (s₁.setTop (entryFrame m #[.ref d, .int (Int32.ofNat B.slots.size)] 2)) (s₁.setTop (mkF m 8 #[.val (.ref d), .val (.int (Int32.ofNat B.slots.size))] [.int (lo8 (ushr (Int32.ofNat B.slots.size - Int32.ofNat B.slots.size) 31))])) := c2.trans (by
    refine X0.alen hexec hB0 rfl rfl (hb hbytes d2) ?_
    refine XS.isub X0.here hexec rfl (hb hbytes d3) rfl ?_
    refine bipushV X0.here hexec rfl 31 (hb hbytes d4) (by decide) ?_
    refine iushr X0.here hexec rfl (hb hbytes d6) rfl ?_
    refine i2b X0.here hexec rfl (hb hbytes d7) rfl ?_
    exact Steps.refl _)
  have e0 : lo8 (ushr (Int32.ofNat B.slots.size - Int32.ofNat B.slots.size) 31) = 0 := by rw [Int32.sub_self]; decide
  rw [e0] at c3
  exact ⟨s₁, some (.int 0), _, _, _, X0, rfl, rfl, rfl, (fun h => by cases h), ⟨rfl, hh0⟩, fun fs hl => c3.trans (X0.ireturnOut hexec hret rfl (Or.inr (Or.inr (Or.inl rfl))) (hb hbytes d8) hl)⟩
end CodL
/-- the String at a is Latin-1 over a new byte[] (the heap's one new cell): the low bytes of the len chars of A from o on; every cell but a is kept -/
def Got (a : Addr) (D : Cell) (fV fC : Field) (A : Cell) (o len : Nat) (r : Option Value) (s u : State) : Prop := r = none ∧ ∃ D' V : Cell, Blank "java/lang/String" a D' u ∧ Same D D' [fV.slot, fC.slot] ∧ D'.slots[fV.slot]? = some (.ref s.heap.size) ∧ D'.slots[fC.slot]? = some (.int 0) ∧ Arr .byte s.heap.size V u ∧ V.vm = .none ∧ u.vm.findClass "[B" = some V.cls ∧ V.slots.size = len ∧ (∀ j, j < len → V.slots[j]? = some (.int (lo8 (cv A (o + j))))) ∧ (∀ (y : Addr) (c : Cell), y ≠ a → s.heap[y]? = some c → u.heap[y]? = some c) ∧ u.heap.size = s.heap.size + 1
theorem Got.mv {a : Addr} {D A : Cell} {fV fC : Field} {o len : Nat} : ∀ r (U U' V V' : State), U'.heap = U.heap → V.vm.Alike V'.vm → V'.heap = V.heap → Got a D fV fC A o len r U V → Got a D fV fC A o len r U' V' :=
  fun r U U' V V' h1 hal h2 ⟨e0, D', X, a1, a2, a3, a4, a5, a6, a7, a8, a9, a10, a11⟩ => ⟨e0, D', X, a1.mv hal h2, a2, by rw [h1]; exact a3, a4, by rw [h1]; exact a5.mv hal h2, a6, by rw [hal.findClass]; exact a7, a8, a9, by rw [h1, h2]; exact a10, by rw [h1, h2]; exact a11⟩
namespace New4
def yN : MethodName := ⟨"java/lang/String", "<init>", "([CIILjava/lang/Void;)V"⟩
abbrev yB : ByteArray := jdk_42_method_149_code
theorem d0 : decode yB 0 = .ok (.aload_n 0, 1) := by decide +kernel
theorem d1 : decode yB 1 = .ok (.invokespecial 1, 3) := by decide +kernel
theorem d4 : decode yB 4 = .ok (.iload_n 3, 1) := by decide +kernel
theorem d5 : decode yB 5 = .ok (.ifCond (.ne) 22, 3) := by decide +kernel
theorem d27 : decode yB 27 = .ok (.getstatic 38, 3) := by decide +kernel
theorem d30 : decode yB 30 = .ok (.ifCond (.eq) 28, 3) := by decide +kernel
theorem d33 : decode yB 33 = .ok (.aload_n 1, 1) := by decide +kernel
theorem d34 : decode yB 34 = .ok (.iload_n 2, 1) := by decide +kernel
theorem d35 : decode yB 35 = .ok (.iload_n 3, 1) := by decide +kernel
theorem d36 : decode yB 36 = .ok (.invokestatic 177, 3) := by decide +kernel
theorem d39 : decode yB 39 = .ok (.astore 5, 2) := by decide +kernel
theorem d41 : decode yB 41 = .ok (.aload_n 0, 1) := by decide +kernel
theorem d42 : decode yB 42 = .ok (.aload 5, 2) := by decide +kernel
theorem d44 : decode yB 44 = .ok (.iload_n 3, 1) := by decide +kernel
theorem d45 : decode yB 45 = .ok (.invokestatic 47, 3) := by decide +kernel
theorem d48 : decode yB 48 = .ok (.putfield 15, 3) := by decide +kernel
theorem d51 : decode yB 51 = .ok (.aload_n 0, 1) := by decide +kernel
theorem d52 : decode yB 52 = .ok (.aload 5, 2) := by decide +kernel
theorem d54 : decode yB 54 = .ok (.putfield 9, 3) := by decide +kernel
theorem d57 : decode yB 57 = .ok (.return_, 1) := by decide +kernel
def site : List Cond := [.fieldLink "java/lang/String" 38 "java/lang/String" "COMPACT_STRINGS" "Z", Cmp3.tab, CodL.tab, .laysFinal "java/lang/String" "java/lang/String" "value" "[B", .fieldLink "java/lang/String" 9 "java/lang/String" "value" "[B", .laysFinal "java/lang/String" "java/lang/String" "coder" "B", .fieldLink "java/lang/String" 15 "java/lang/String" "coder" "B"] ++ objW "java/lang/String" 1 ++ staticW "java/lang/String" 177 Cmp3.yN ++ staticW "java/lang/String" 47 CodL.yN
def tab : Cond := tabOf yN yB 6 none site
def P (a : Addr) (D : Cell) (fV fC : Field) (b : Addr) (A : Cell) (z : Int32) (o len : Nat) (args : Array Value) (s : State) : Prop := args = #[.ref a, .ref b, .int (Int32.ofNat o), .int (Int32.ofNat len), .null] ∧ Blank "java/lang/String" a D s ∧ Found "java/lang/String" "value" "[B" fV s ∧ Found "java/lang/String" "coder" "B" fC s ∧ Ch b A s ∧ StaticIs s "java/lang/String" "COMPACT_STRINGS" "Z" (.int z) ∧ ¬ z = 0 ∧ 0 < len ∧ o + len ≤ A.slots.size ∧ len ≤ 536870912 ∧ ∀ i, i < len → ¬ 255 < cv A (o + i)
def E (a : Addr) (D : Cell) (fV fC : Field) (A : Cell) (o len : Nat) (r : Option Value) (s u : State) : Prop := Got a D fV fC A o len r s u
/-- len > 0, no char of the range above 255: a Latin-1 String of their low bytes -/
theorem law (l : Launch) (a : Addr) (D : Cell) (fV fC : Field) (b : Addr) (A : Cell) (z : Int32) (o len : Nat) : Law l yN 5 4 2 35 yB 6 none site (P a D fV fC b A z o len) (E a D fV fC A o len) [⟨a, fC.slot⟩, ⟨a, fV.slot⟩] 1 len := by
  refine Law.of_walk (plainFor_of_name (by decide +kernel)) (by decide +kernel) (by decide +kernel) (by decide) (fun _ _ h => by rw [h.1]; rfl) (fun _ U U' hal hh h => ⟨h.1, h.2.1.mv hal hh, h.2.2.1.al hal, h.2.2.2.1.al hal, h.2.2.2.2.1.mv hal hh, h.2.2.2.2.2.1.there hal hh, h.2.2.2.2.2.2⟩) (fun r U U' V V' h1 hal h2 h => Got.mv r U U' V V' h1 hal h2 h) ?_
  intro p e s m args below meth c s₁ X0 hexec hbytes hml hret hlk hnm hown hh0 W hP
  obtain ⟨rfl, hB, f1, f2, hA, s1, hz, l0, l1, l2, hp⟩ := hP
  have a31 := hA.1.2.2.2
  have c1 : Steps p.tables e below (s₁.setTop (entryFrame m #[.ref a, .ref b, .int (Int32.ofNat o), .int (Int32.ofNat len), .null] 6)) (s₁.setTop (mkF m 0 #[.val (.ref a), .val (.ref b), .val (.int (Int32.ofNat o)), .val (.int (Int32.ofNat len)), .val .null, .unset] [])) := entry rfl
  have c2 : Steps p.tables e below (s₁.setTop (entryFrame m #[.ref a, .ref b, .int (Int32.ofNat o), .int (Int32.ofNat len), .null] 6)) (s₁.setTop (mkF m 1 #[.val (.ref a), .val (.ref b), .val (.int (Int32.ofNat o)), .val (.int (Int32.ofNat len)), .val .null, .unset] [.ref a])) := c1.trans (by
    refine XS.aloadN X0.here hexec rfl (hb hbytes d0) rfl rfl ?_
    exact Steps.refl _)
  obtain ⟨T3, X3, q3, st3⟩ := X0.oinit hexec hown (wks W (objW "java/lang/String" 1)) (g := (mkF m 1 #[.val (.ref a), .val (.ref b), .val (.int (Int32.ofNat o)), .val (.int (Int32.ofNat len)), .val .null, .unset] [.ref a])) rfl (by rw [hml]; rfl) (rest := []) rfl (hb hbytes d1) (W := 0) (by show 2 * 0 + 0 ≤ _; decide) (Nat.le_of_ble_eq_true rfl) (Nat.le_of_ble_eq_true rfl)
  have hh3 := q3.trans hh0
  have c4 : Steps p.tables e below (s₁.setTop (entryFrame m #[.ref a, .ref b, .int (Int32.ofNat o), .int (Int32.ofNat len), .null] 6)) (T3.setTop (mkF m 27 #[.val (.ref a), .val (.ref b), .val (.int (Int32.ofNat o)), .val (.int (Int32.ofNat len)), .val .null, .unset] [])) := (c2.trans (st3 _ (Steps.refl _))).trans (by
    refine XS.iloadN X3.here hexec rfl (hb hbytes d4) rfl ?_
    refine XS.ifYes X3.here hexec rfl (pc0 := 5) rfl (hb hbytes d5) rfl (i0_ne_t (nz32 (by omega) l0)) (by decide) rfl ?_
    exact Steps.refl _)
  obtain ⟨T5, X5, q5, st5⟩ := X3.sget hexec hown (wk W (.fieldLink "java/lang/String" 38 "java/lang/String" "COMPACT_STRINGS" "Z")) s1 (fun _ _ h => by rw [hh3]; exact h) (g := (mkF m 27 #[.val (.ref a), .val (.ref b), .val (.int (Int32.ofNat o)), .val (.int (Int32.ofNat len)), .val .null, .unset] [])) rfl (hb hbytes d27)
  have hh5 := q5.trans hh3
  have c6 : Steps p.tables e below (s₁.setTop (entryFrame m #[.ref a, .ref b, .int (Int32.ofNat o), .int (Int32.ofNat len), .null] 6)) (T5.setTop (mkF m 30 #[.val (.ref a), .val (.ref b), .val (.int (Int32.ofNat o)), .val (.int (Int32.ofNat len)), .val .null, .unset] [.int z])) := c4.trans (st5 _ (Steps.refl _))
  have c7 : Steps p.tables e below (s₁.setTop (entryFrame m #[.ref a, .ref b, .int (Int32.ofNat o), .int (Int32.ofNat len), .null] 6)) (T5.setTop (mkF m 36 #[.val (.ref a), .val (.ref b), .val (.int (Int32.ofNat o)), .val (.int (Int32.ofNat len)), .val .null, .unset] [.int (Int32.ofNat len), .int (Int32.ofNat o), .ref b])) := c6.trans (by
    refine XS.ifNo X5.here hexec rfl (hb hbytes d30) rfl (i0_eq_f hz) ?_
    refine XS.aloadN X5.here hexec rfl (hb hbytes d33) rfl rfl ?_
    refine XS.iloadN X5.here hexec rfl (hb hbytes d34) rfl ?_
    refine XS.iloadN X5.here hexec rfl (hb hbytes d35) rfl ?_
    exact Steps.refl _)
  obtain ⟨v8, T8, X8, E8, g8⟩ := X5.callS hexec (Cmp3.law l b A o len) hown (wks W (staticW "java/lang/String" 177 Cmp3.yN)) (wk W Cmp3.tab) (W := 0) (Nat.le_of_ble_eq_true rfl) (Nat.le_of_ble_eq_true rfl) (Nat.le_refl _) (by show 0 + len ≤ len; omega) (g := (mkF m 36 #[.val (.ref a), .val (.ref b), .val (.int (Int32.ofNat o)), .val (.int (Int32.ofNat len)), .val .null, .unset] [.int (Int32.ofNat len), .int (Int32.ofNat o), .ref b])) rfl (by rw [hml]; rfl) c7 (argsL := [.ref b, .int (Int32.ofNat o), .int (Int32.ofNat len)]) (rest := []) rfl rfl (by show 2 * 0 + 0 ≤ _; decide) (hb hbytes d36) (⟨rfl, hA.mv X5.warmed.alike hh5, l1, l2, hp⟩)
  obtain ⟨e8, z8⟩ := E8
  obtain ⟨rfl, N, n1, n2, n3, n4, n5, n6⟩ := NewArr.mv _ T5 s _ _ hh5.symm (Vm.Alike.refl _) rfl e8
  rw [hh5] at z8
  have hB1 := hB.keep X8.warmed.alike (n6 _ _ hB.1)
  have hne : s.heap.size ≠ a := (Nat.ne_of_lt (Array.getElem?_eq_some_iff.mp hB.1).1).symm
  have c9 : Steps p.tables e below (s₁.setTop (entryFrame m #[.ref a, .ref b, .int (Int32.ofNat o), .int (Int32.ofNat len), .null] 6)) (T8.setTop (mkF m 39 #[.val (.ref a), .val (.ref b), .val (.int (Int32.ofNat o)), .val (.int (Int32.ofNat len)), .val .null, .unset] [.ref s.heap.size])) := g8
  have c10 : Steps p.tables e below (s₁.setTop (entryFrame m #[.ref a, .ref b, .int (Int32.ofNat o), .int (Int32.ofNat len), .null] 6)) (T8.setTop (mkF m 45 #[.val (.ref a), .val (.ref b), .val (.int (Int32.ofNat o)), .val (.int (Int32.ofNat len)), .val .null, .val (.ref s.heap.size)] [.int (Int32.ofNat N.slots.size), .ref s.heap.size, .ref a])) := by
    have hc : Steps p.tables e below (s₁.setTop (entryFrame m #[.ref a, .ref b, .int (Int32.ofNat o), .int (Int32.ofNat len), .null] 6)) (T8.setTop (mkF m 45 #[.val (.ref a), .val (.ref b), .val (.int (Int32.ofNat o)), .val (.int (Int32.ofNat len)), .val .null, .val (.ref s.heap.size)] [.int (Int32.ofNat len), .ref s.heap.size, .ref a])) := c9.trans (by
      refine XS.astore X8.here hexec rfl (hb hbytes d39) rfl rfl rfl ?_
      refine XS.aloadN X8.here hexec rfl (hb hbytes d41) rfl rfl ?_
      refine XS.aload X8.here hexec rfl (hb hbytes d42) rfl rfl ?_
      refine XS.iloadN X8.here hexec rfl (hb hbytes d44) rfl ?_
      exact Steps.refl _)
    rw [n4]; exact hc
  obtain ⟨v11, T11, X11, E11, g11⟩ := X8.callS hexec (CodL.law l s.heap.size N) hown (wks W (staticW "java/lang/String" 47 CodL.yN)) (wk W CodL.tab) (W := 1) (Nat.le_of_ble_eq_true rfl) (Nat.le_of_ble_eq_true rfl) (Nat.le_refl _) (by show 0 + len + 0 ≤ len; omega) (g := (mkF m 45 #[.val (.ref a), .val (.ref b), .val (.int (Int32.ofNat o)), .val (.int (Int32.ofNat len)), .val .null, .val (.ref s.heap.size)] [.int (Int32.ofNat N.slots.size), .ref s.heap.size, .ref a])) rfl (by rw [hml]; rfl) c10 (argsL := [.ref s.heap.size, .int (Int32.ofNat N.slots.size)]) (rest := [.ref a]) rfl rfl (by show 2 * 0 + (1 + 0) ≤ _; decide) (hb hbytes d45) (⟨rfl, n1⟩)
  obtain ⟨rfl, q11⟩ := E11
  have hB11 := hB1.mv (X8.warmed.alike.symm.trans X11.warmed.alike) q11
  have c12 : Steps p.tables e below (s₁.setTop (entryFrame m #[.ref a, .ref b, .int (Int32.ofNat o), .int (Int32.ofNat len), .null] 6)) (T11.setTop (mkF m 48 #[.val (.ref a), .val (.ref b), .val (.int (Int32.ofNat o)), .val (.int (Int32.ofNat len)), .val .null, .val (.ref s.heap.size)] [.int 0, .ref a])) := g11
  obtain ⟨T13, X13, p13, bl13, sl13, st13⟩ := X11.finit hexec hown (wk W (.fieldLink "java/lang/String" 15 "java/lang/String" "coder" "B")) (Or.inr ⟨_, (wk W (.laysFinal "java/lang/String" "java/lang/String" "coder" "B"))⟩) (Or.inl ⟨rfl, hnm⟩) f2 (Or.inl rfl) hB11 (t := .byte) (by decide +kernel) rfl (g := (mkF m 48 #[.val (.ref a), .val (.ref b), .val (.int (Int32.ofNat o)), .val (.int (Int32.ofNat len)), .val .null, .val (.ref s.heap.size)] [.int 0, .ref a])) rfl (rest := []) rfl (hb hbytes d48)
  have c14 : Steps p.tables e below (s₁.setTop (entryFrame m #[.ref a, .ref b, .int (Int32.ofNat o), .int (Int32.ofNat len), .null] 6)) (T13.setTop (mkF m 54 #[.val (.ref a), .val (.ref b), .val (.int (Int32.ofNat o)), .val (.int (Int32.ofNat len)), .val .null, .val (.ref s.heap.size)] [.ref s.heap.size, .ref a])) := (c12.trans (st13 _ (Steps.refl _))).trans (by
    refine XS.aloadN X13.here hexec rfl (hb hbytes d51) rfl rfl ?_
    refine XS.aload X13.here hexec rfl (hb hbytes d52) rfl rfl ?_
    exact Steps.refl _)
  obtain ⟨T15, X15, p15, bl15, sl15, st15⟩ := X13.finit hexec hown (wk W (.fieldLink "java/lang/String" 9 "java/lang/String" "value" "[B")) (Or.inr ⟨_, (wk W (.laysFinal "java/lang/String" "java/lang/String" "value" "[B"))⟩) (Or.inl ⟨rfl, hnm⟩) f1 (Or.inl rfl) bl13 (t := (.array .byte)) (by decide +kernel) rfl (g := (mkF m 54 #[.val (.ref a), .val (.ref b), .val (.int (Int32.ofNat o)), .val (.int (Int32.ofNat len)), .val .null, .val (.ref s.heap.size)] [.ref s.heap.size, .ref a])) rfl (rest := []) rfl (hb hbytes d54)
  have c16 : Steps p.tables e below (s₁.setTop (entryFrame m #[.ref a, .ref b, .int (Int32.ofNat o), .int (Int32.ofNat len), .null] 6)) (T15.setTop (mkF m 57 #[.val (.ref a), .val (.ref b), .val (.int (Int32.ofNat o)), .val (.int (Int32.ofNat len)), .val .null, .val (.ref s.heap.size)] [])) := c14.trans (st15 _ (Steps.refl _))
  have ap := apart (Or.inr ⟨_, (wk W (.laysFinal "java/lang/String" "java/lang/String" "value" "[B"))⟩) (Or.inr ⟨_, (wk W (.laysFinal "java/lang/String" "java/lang/String" "coder" "B"))⟩) f1 f2 (t₁ := .array .byte) (t₂ := .byte) (by decide +kernel) (by decide +kernel) (by decide)
  have al := X8.warmed.alike.symm.trans X15.warmed.alike
  have n7 : T11.heap[s.heap.size]? = some N := by rw [q11]; exact n1.1
  exact ⟨T15, none, _, _, _, X15, by simp, rfl, by omega, (fun _ => rfl), ⟨rfl, _, N, bl15, ((Same.refl D _).set _ (by simp)).set _ (by simp), sl15, (Cell.slots_setSlot_ne _ ap).trans sl13, n1.keep al (p15.other hne (p13.other hne n7)), n2, by rw [al.findClass]; exact n3, n4, n5, fun y c h1 h2 => p15.other h1 (p13.other h1 (by rw [q11]; exact n6 y c h2)), by rw [p15.2.2, p13.2.2, q11]; exact z8⟩, fun fs hl => c16.trans (X15.returnOut hexec hret (hb hbytes d57) hl)⟩
end New4
namespace New1
def yN : MethodName := ⟨"java/lang/String", "<init>", "([C)V"⟩
abbrev yB : ByteArray := jdk_42_method_3_code
theorem d0 : decode yB 0 = .ok (.aload_n 0, 1) := by decide +kernel
theorem d1 : decode yB 1 = .ok (.aload_n 1, 1) := by decide +kernel
theorem d2 : decode yB 2 = .ok (.iconst 0, 1) := by decide +kernel
theorem d3 : decode yB 3 = .ok (.aload_n 1, 1) := by decide +kernel
theorem d4 : decode yB 4 = .ok (.arraylength, 1) := by decide +kernel
theorem d5 : decode yB 5 = .ok (.aconst_null, 1) := by decide +kernel
theorem d6 : decode yB 6 = .ok (.invokespecial 27, 3) := by decide +kernel
theorem d9 : decode yB 9 = .ok (.return_, 1) := by decide +kernel
def site : List Cond := [New4.tab] ++ initW "java/lang/String" 27 New4.yN
def tab : Cond := tabOf yN yB 2 none site
def P (a : Addr) (D : Cell) (fV fC : Field) (b : Addr) (A : Cell) (z : Int32) (args : Array Value) (s : State) : Prop := args = #[.ref a, .ref b] ∧ Blank "java/lang/String" a D s ∧ Found "java/lang/String" "value" "[B" fV s ∧ Found "java/lang/String" "coder" "B" fC s ∧ Ch b A s ∧ StaticIs s "java/lang/String" "COMPACT_STRINGS" "Z" (.int z) ∧ ¬ z = 0 ∧ 0 < A.slots.size ∧ A.slots.size ≤ 536870912 ∧ ∀ i, i < A.slots.size → ¬ 255 < cv A i
def E (a : Addr) (D : Cell) (fV fC : Field) (A : Cell) (r : Option Value) (s u : State) : Prop := Got a D fV fC A 0 A.slots.size r s u
/-- new String(chars), not empty, no char above 255: a Latin-1 String of their low bytes -/
theorem law (l : Launch) (a : Addr) (D : Cell) (fV fC : Field) (b : Addr) (A : Cell) (z : Int32) : Law l yN 2 1 3 52 yB 2 none site (P a D fV fC b A z) (E a D fV fC A) [⟨a, fC.slot⟩, ⟨a, fV.slot⟩] 1 A.slots.size := by
  refine Law.of_walk (plainFor_of_name (by decide +kernel)) (by decide +kernel) (by decide +kernel) (by decide) (fun _ _ h => by rw [h.1]; rfl) (fun _ U U' hal hh h => ⟨h.1, h.2.1.mv hal hh, h.2.2.1.al hal, h.2.2.2.1.al hal, h.2.2.2.2.1.mv hal hh, h.2.2.2.2.2.1.there hal hh, h.2.2.2.2.2.2⟩) (fun r U U' V V' h1 hal h2 h => Got.mv r U U' V V' h1 hal h2 h) ?_
  intro p e s m args below meth c s₁ X0 hexec hbytes hml hret hlk hnm hown hh0 W hP
  obtain ⟨rfl, hB, f1, f2, hA, s1, hz, l0, l2, hp⟩ := hP
  have c1 : Steps p.tables e below (s₁.setTop (entryFrame m #[.ref a, .ref b] 2)) (s₁.setTop (mkF m 0 #[.val (.ref a), .val (.ref b)] [])) := entry rfl
  have c2 : Steps p.tables e below (s₁.setTop (entryFrame m #[.ref a, .ref b] 2)) (s₁.setTop (mkF m 6 #[.val (.ref a), .val (.ref b)] [.null, .int (Int32.ofNat A.slots.size), .int 0, .ref b, .ref a])) := c1.trans (by
    refine XS.aloadN X0.here hexec rfl (hb hbytes d0) rfl rfl ?_
    refine XS.aloadN X0.here hexec rfl (hb hbytes d1) rfl rfl ?_
    refine iconstV X0.here hexec rfl 0 (hb hbytes d2) (by decide) ?_
    refine XS.aloadN X0.here hexec rfl (hb hbytes d3) rfl rfl ?_
    refine X0.alen hexec (hA.1.mv X0.warmed.alike hh0) rfl rfl (hb hbytes d4) ?_
    refine XS.aconstNull X0.here hexec rfl (hb hbytes d5) ?_
    exact Steps.refl _)
  obtain ⟨v3, T3, X3, E3, g3⟩ := X0.callN hexec (New4.law l a D fV fC b A z 0 A.slots.size) rfl hown (wks W (initW "java/lang/String" 27 New4.yN)) (W New4.tab (by simp only [site, List.mem_cons, List.mem_append, true_or, or_true])) (W := 0) (Nat.le_of_ble_eq_true rfl) (Nat.le_of_ble_eq_true rfl) (Nat.le_refl _) (by show 0 + A.slots.size ≤ A.slots.size; omega) (g := (mkF m 6 #[.val (.ref a), .val (.ref b)] [.null, .int (Int32.ofNat A.slots.size), .int (Int32.ofNat 0), .ref b, .ref a])) rfl (by rw [hml]; rfl) c2 (argsL := [.ref b, .int (Int32.ofNat 0), .int (Int32.ofNat A.slots.size), .null]) (rest := []) rfl rfl (by show 2 * 0 + 0 ≤ _; decide) (hb hbytes d6) (⟨rfl, hB.mv X0.warmed.alike hh0, f1.al X0.warmed.alike, f2.al X0.warmed.alike, hA.mv X0.warmed.alike hh0, s1.there X0.warmed.alike hh0, hz, l0, by omega, l2, fun i hi => by rw [Nat.zero_add]; exact hp i hi⟩)
  have e0 := Got.mv _ s₁ s _ _ hh0.symm (Vm.Alike.refl _) rfl E3
  obtain rfl := e0.1
  have c4 : Steps p.tables e below (s₁.setTop (entryFrame m #[.ref a, .ref b] 2)) (T3.setTop (mkF m 9 #[.val (.ref a), .val (.ref b)] [])) := g3
  exact ⟨T3, none, _, _, _, X3, by simp, rfl, by omega, (fun _ => rfl), e0, fun fs hl => c4.trans (X3.returnOut hexec hret (hb hbytes d9) hl)⟩
theorem pays {l : Launch} {R : Room} {p : Program} {e : Env} {below : List Frame} {s : State} {sargs : Array Value} {len W : Nat} (a : Addr) (D : Cell) (fV fC : Field) (b : Addr) (A : Cell) (z : Int32) (htab : tab.before sargs s = true) (hfr : 4 ≤ R.frames) (hlo : W + 65 ≤ R.locals) :
    Back l R p e below s sargs yN len W (fun A₁ a₁ => A₁.cells + 1 ≤ R.cells ∧ A₁.slots + A.slots.size ≤ R.slots ∧ P a D fV fC b A z a₁ A₁.U) (fun A₁ _ v₁ B₁ => E a D fV fC A v₁ A₁.U B₁.U ∧ B₁.locs = A₁.locs ++ [⟨a, fC.slot⟩, ⟨a, fV.slot⟩] ∧ B₁.cells = A₁.cells + 1 ∧ B₁.slots = A₁.slots + A.slots.size) :=
  (law l a D fV fC b A z).pays htab hfr (by omega)
end New1
/-- the byte, read back as charAt reads it, is the char -/
theorem lo8_mask {x : Int32} (h0 : ¬ x < 0) (h1 : ¬ 255 < x) : lo8 x &&& 255 = x := by
  have t : ∀ k : Fin 256, lo8 (Int32.ofNat k.val) &&& 255 = Int32.ofNat k.val := by decide +kernel
  rw [Int32.lt_iff_toInt_lt] at h0 h1
  have e0 : (0 : Int32).toInt = 0 := rfl
  have e1 : (255 : Int32).toInt = 255 := rfl
  obtain ⟨k, hk⟩ : ∃ k : Nat, x.toInt = k := ⟨x.toInt.toNat, by omega⟩
  have hx : x = Int32.ofNat k := Int32.toInt_inj.mp (by rw [hk, Int32.toInt_ofNat_small (by omega)])
  rw [hx]
  exact t ⟨k, by omega⟩
end StrChars
namespace StrChars.Road
open Jvm Sem ClassFile Op Lib Jvm.Stand Jvm.Free Jvm.Free.XT
open Jvm.Lib.Cold (StaticIs)
abbrev ST : String := "java/lang/String"
/-- every table word that New1's law asks, flat -/
abbrev words : List Jvm.Cond := [.code New1.yN New1.yB 2 none, .initialized ST, .methodLink ST 27 New4.yN, .instanceMethod New4.yN,
  .code New4.yN New4.yB 6 none, .fieldLink ST 38 ST "COMPACT_STRINGS" "Z", .laysFinal ST ST "value" "[B", .fieldLink ST 9 ST "value" "[B", .laysFinal ST ST "coder" "B", .fieldLink ST 15 ST "coder" "B",
  .methodLink ST 1 Lib.objectInit, .instanceMethod Lib.objectInit, .code Lib.objectInit ⟨#[0xb1]⟩ 1 none, .methodLink ST 177 Cmp3.yN, .static Cmp3.yN, .methodLink ST 47 CodL.yN, .static CodL.yN,
  .code Cmp3.yN Cmp3.yB 6 (some (.array .byte)), .initialized U16, .arrayClass .byte, .methodLink U16 115 Cmp5.yN, .static Cmp5.yN, .code Cmp5.yN Cmp5.yB 7 (some .int), .code CodL.yN CodL.yB 2 (some .byte)]
theorem tab_of {a : Array Value} {s : State} (h : ∀ w ∈ words, w.before a s = true) : New1.tab.before a s = true := by
  have h5 : Cmp5.tab.before a s = true := unparts (wk h (.code Cmp5.yN Cmp5.yB 7 (some .int))) (wks h (.initialized Cmp5.yN.cls :: Cmp5.site))
  have hc : CodL.tab.before a s = true := unparts (wk h (.code CodL.yN CodL.yB 2 (some .byte))) (wks h (.initialized CodL.yN.cls :: CodL.site))
  have q5 : ∀ w ∈ Cmp5.tab :: words, w.before a s = true := fun w hw => (List.mem_cons.mp hw).elim (fun e => e ▸ h5) (h w)
  have h3 : Cmp3.tab.before a s = true := unparts (wk q5 (.code Cmp3.yN Cmp3.yB 6 (some (.array .byte)))) (wks q5 (.initialized Cmp3.yN.cls :: Cmp3.site))
  have q3 : ∀ w ∈ Cmp3.tab :: CodL.tab :: words, w.before a s = true := fun w hw => (List.mem_cons.mp hw).elim (fun e => e ▸ h3) fun hw => (List.mem_cons.mp hw).elim (fun e => e ▸ hc) (h w)
  have h4 : New4.tab.before a s = true := unparts (wk q3 (.code New4.yN New4.yB 6 none)) (wks q3 (.initialized New4.yN.cls :: New4.site))
  have q4 : ∀ w ∈ New4.tab :: words, w.before a s = true := fun w hw => (List.mem_cons.mp hw).elim (fun e => e ▸ h4) (h w)
  exact unparts (wk q4 (.code New1.yN New1.yB 2 none)) (wks q4 (.initialized New1.yN.cls :: New1.site))
/-- the words ride from the start Z to the walk's own state -/
theorem moved {Z s : State} {a0 args : Array Value} (hZ : Z.Warmed39 s.vm) (hw : ∀ d ∈ words, d.before a0 Z = true) : ∀ d ∈ words, d.before args s = true := fun d hd => by
  have q := hw d hd
  have t : ∀ d ∈ words, d = .arrayClass .byte ∨ (d.onTables && d.keepsFace) = true := by decide +kernel
  rcases t d hd with rfl | t
  · exact RoadKit.mvA hZ q
  · exact RoadKit.mv hZ q t
/-- WHAT COMES BACK, over the tables of the start Z: h the heap at the call, h' behind it -/
def Q (Z : State) (x : Addr) (A : Cell) (h : Heap) (v : Option Value) (h' : Heap) (L : List Loc) : Prop := v = none ∧ (∀ y ∈ L, y.base = x) ∧ RoadKit.Keep h h' [x] ∧ h'.size = h.size + 1 ∧ RoadKit.Exa Z h' x ST ∧ RoadKit.Fld Z h' x ST "value" "[B" (.ref h.size) ∧ RoadKit.Fld Z h' x ST "coder" "B" (.int 0) ∧
  (∃ V : Cell, RoadKit.Arr Z h' h.size V .byte ∧ V.vm = .none ∧ Z.vm.findClass "[B" = some V.cls ∧ V.slots.size = A.slots.size ∧ ∀ j, j < A.slots.size → V.slots[j]? = some (.int (lo8 (cv A j)))) ∧
  ∀ (O n d : String) (w : Value), RoadKit.Fld Z h x O n d w → RoadKit.slotOf Z O n d ≠ RoadKit.slotOf Z ST "value" "[B" → RoadKit.slotOf Z O n d ≠ RoadKit.slotOf Z ST "coder" "B" → RoadKit.Fld Z h' x O n d w
/-- **new String(chars) AT A CALL, IN THE ROAD'S FORM**: for specialBack behind newO: x the fresh String, b the char[] with the cell A -/
theorem back {p : Program} {l : Launch} {e : Env} {R : Room} {s : State} {args : Array Value} {below : List Frame} {len W : Nat} {Z : State} {a0 : Array Value} {h : Heap} (hZ : Z.Warmed39 s.vm) (hw : ∀ d ∈ words, d.before a0 Z = true) {kI : Nat} (wi : (Jvm.Cond.instantiable ST kI).before a0 Z = true)
    {x b : Addr} {A : Cell} {z : Int32} {v0 c0 : Value} (E : RoadKit.Exa Z h x ST) (V : RoadKit.Fld Z h x ST "value" "[B" v0) (C : RoadKit.Fld Z h x ST "coder" "B" c0) (K : RoadKit.Arr Z h b A .char) (hty : Typed .char A) (S : RoadKit.Sta Z h ST "COMPACT_STRINGS" "Z" (.int z)) (hz : ¬ z = 0)
    (l0 : 0 < A.slots.size) (l2 : A.slots.size ≤ 536870912) (hp : ∀ i, i < A.slots.size → ¬ 255 < cv A i) (hfr : 4 ≤ R.frames) (hlo : W + 65 ≤ R.locals) :
    Back l R p e below s args New1.yN len W (fun P a => a = #[.ref x, .ref b] ∧ P.U.heap = h ∧ P.cells + 1 ≤ R.cells ∧ P.slots + A.slots.size ≤ R.slots)
      (fun P _ v B => ∃ L, Q Z x A h v B.U.heap L ∧ B.locs = P.locs ++ L ∧ B.cells = P.cells + 1 ∧ B.slots = P.slots + A.slots.size) := by
  intro m meth c P g ig mk a X hg hsize hdg hW hn hp'
  obtain ⟨rfl, rfl, r1, r2⟩ := hp'
  have al : Z.vm.Alike P.U.vm := hZ.alike.trans X.warmed.alike
  obtain ⟨D, cfV, kV, iV, fV, hD, gV, stV, knV, obV, asV, slV⟩ := id V
  obtain ⟨D', cfC, kC, iC, fC, hD', gC, stC, -, -, asC, slC⟩ := id C
  cases hD.symm.trans hD'
  obtain ⟨D2, kD, e1, e2, e3, e4, e5⟩ := id E
  cases hD.symm.trans e1
  obtain ⟨c2, k2, i1, i2, i3, -⟩ := Cond.instantiable_spec wi
  cases e2.symm.trans i1
  cases e3.symm.trans i2
  obtain ⟨kU, u1, u2⟩ := al.2.2 _ _ e3
  have hB : Blank ST x D P.U := ⟨hD, ⟨knV, fun q hq => by rw [hq] at obV; cases obV⟩, by rw [al.findClass]; exact e2, kU, u1, by rw [u2]; exact i3, by rw [u2]; exact e5 i3⟩
  have F1 : Found ST "value" "[B" fV P.U := ⟨SBG.found_only al ⟨cfV, kV, iV, gV⟩, stV⟩
  have F2 : Found ST "coder" "B" fC P.U := ⟨SBG.found_only al ⟨cfC, kC, iC, gC⟩, stC⟩
  have hA : Ch b A P.U := ⟨⟨K.1, State.isArrayOf_alike al K.2.1, K.2.2, by omega⟩, hty⟩
  have hS : StaticIs P.U ST "COMPACT_STRINGS" "Z" (.int z) := by
    obtain ⟨cfS, iS, kS, fS, st, cS, t1, t2, t3, t4, t5, t6, t7⟩ := S
    exact StaticIs.there (s := { Z with heap := P.U.heap }) ⟨cfS, iS, kS, fS, st, cS, t1, t2, t3, t4, t5, (fun q => by rw [q] at t6; cases t6), t7⟩ al rfl
  obtain ⟨v, B, X', ⟨⟨hv, E', V', q1, q2, q3, q4, q5, q6, q7, q8, q9, q10, q11⟩, hl, hc, hs⟩, st⟩ := New1.pays x D fV fC b A z (tab_of (moved hZ hw)) hfr hlo m meth c P g ig mk _ X hg hsize hdg hW hn ⟨r1, r2, rfl, hB, F1, F2, hA, hS, hz, l0, l2, hp⟩
  have al' : Z.vm.Alike B.U.vm := hZ.alike.trans X'.warmed.alike
  have hsz : E'.slots.size = D.slots.size := by
    obtain ⟨-, -, -, kB, w1, w2, w3⟩ := q1
    obtain ⟨kB', y1, y2⟩ := al'.2.2 _ _ e3
    rw [q2.2.1] at w1
    cases w1.symm.trans y1
    rw [w3, e5 i3, y2]
  refine ⟨v, B, X', ⟨_, ⟨hv, ?_, ⟨by omega, fun y cy hy hn' => q10 y cy (by simpa using hn') hy, fun y cy hy => ?_⟩, q11, ⟨E', _, q1.1, by rw [q2.2.1]; exact e2, by rw [q2.2.1]; exact e3, by rw [q2.1]; exact obV, fun _ => by rw [hsz]; exact e5 i3⟩,
    ⟨E', cfV, kV, iV, fV, q1.1, gV, stV, by rw [q2.1]; exact knV, by rw [q2.1]; exact obV, by rw [q2.2.1]; exact asV, q3⟩, ⟨E', cfC, kC, iC, fC, q1.1, gC, stC, by rw [q2.1]; exact knV, by rw [q2.1]; exact obV, by rw [q2.2.1]; exact asC, q4⟩,
    ⟨V', ⟨q5.1, State.isArrayOf_alike al'.symm q5.2.1, q5.2.2.1⟩, q6, by rw [← al'.findClass]; exact q7, q8, fun j hj => by have := q9 j hj; rwa [Nat.zero_add] at this⟩, fun O n d w F n1 n2 => ?_⟩, hl, hc, hs⟩, st⟩
  · intro y hy
    simp only [List.mem_cons, List.not_mem_nil, or_false] at hy
    rcases hy with rfl | rfl <;> rfl
  · by_cases q : y = x
    · subst q
      cases hD.symm.trans hy
      exact ⟨E', q1.1, q2.2.1, q2.1, hsz⟩
    · exact ⟨cy, q10 y cy q hy, rfl, rfl, rfl⟩
  · obtain ⟨D3, cf, k, i, f, g1, g2, g3, g4, g5, g6, g7⟩ := F
    cases hD.symm.trans g1
    simp only [RoadKit.slotOf, g2, gV, gC, Option.map_some, Option.getD_some] at n1 n2
    exact ⟨E', cf, k, i, f, q1.1, g2, g3, by rw [q2.1]; exact g4, by rw [q2.1]; exact g5, by rw [q2.2.1]; exact g6, by rw [q2.2.2 f.slot (by simp [n1, n2])]; exact g7⟩
end StrChars.Road
namespace StrChars.Road
open Jvm Sem ClassFile Op Lib Jvm.Stand Jvm.Free Jvm.Free.XT
/-- WHAT COMES BACK, the byte[] as a list of values -/
def QA (Z : State) (x : Addr) (zn : Int32) (cs : List Int32) (h : Heap) (v : Option Value) (h' : Heap) (L : List Loc) : Prop := v = none ∧ (∀ y ∈ L, y.base = x) ∧ RoadKit.Keep h h' [x] ∧ h'.size = h.size + 1 ∧ RoadKit.Exa Z h' x ST ∧ RoadKit.Fld Z h' x ST "value" "[B" (.ref h.size) ∧ RoadKit.Fld Z h' x ST "coder" "B" (.int 0) ∧
  (∃ kb, Z.vm.findClass "[B" = some kb ∧ RoadKit.Arv Z h' h.size kb .byte zn (cs.map fun c => .int (lo8 c)) (.int 0)) ∧
  ∀ (O n d : String) (w : Value), RoadKit.Fld Z h x O n d w → RoadKit.slotOf Z O n d ≠ RoadKit.slotOf Z ST "value" "[B" → RoadKit.slotOf Z O n d ≠ RoadKit.slotOf Z ST "coder" "B" → RoadKit.Fld Z h' x O n d w
/-- **new String(chars) AT A CALL, THE ARRAYS AS LISTS**: the char[] at b holds cs, not empty, no char above 255 -/
theorem backArv {p : Program} {l : Launch} {e : Env} {R : Room} {s : State} {args : Array Value} {below : List Frame} {len W : Nat} {Z : State} {a0 : Array Value} {h : Heap} (hZ : Z.Warmed39 s.vm) (hw : ∀ d ∈ words, d.before a0 Z = true) {kI : Nat} (wi : (Jvm.Cond.instantiable ST kI).before a0 Z = true)
    {x b : Addr} {k : ClassId} {zn z : Int32} {cs : List Int32} {dv v0 c0 : Value} (E : RoadKit.Exa Z h x ST) (V : RoadKit.Fld Z h x ST "value" "[B" v0) (C : RoadKit.Fld Z h x ST "coder" "B" c0) (K : RoadKit.Arv Z h b k .char zn (cs.map Value.int) dv) (S : RoadKit.Sta Z h ST "COMPACT_STRINGS" "Z" (.int z)) (hz : ¬ z = 0)
    (hlen : zn.toNatClampNeg = cs.length) (h0 : 0 < cs.length) (hbig : cs.length ≤ 536870912) (hall : ∀ c ∈ cs, ¬ 255 < c) (hfr : 4 ≤ R.frames) (hlo : W + 65 ≤ R.locals) :
    Back l R p e below s args New1.yN len W (fun P a => a = #[.ref x, .ref b] ∧ P.U.heap = h ∧ P.cells + 1 ≤ R.cells ∧ P.slots + cs.length ≤ R.slots)
      (fun P _ v B => ∃ L, QA Z x zn cs h v B.U.heap L ∧ B.locs = P.locs ++ L ∧ B.cells = P.cells + 1 ∧ B.slots = P.slots + cs.length) := by
  obtain ⟨A, K1, K2, K3, K4, K5, K6⟩ := K
  have e : A.slots.size = cs.length := K3.trans hlen
  have hat : ∀ (i : Nat) (hi : i < cs.length), A.slots[i]? = some (.int cs[i]) := fun i hi => by rw [K5 i (by omega)]; simp [List.getD_eq_getElem?_getD, hi]
  have hcv : ∀ (i : Nat) (hi : i < cs.length), cv A i = cs[i] := fun i hi => by unfold cv; rw [hat i hi]
  have hty : Typed .char A := fun i v hv => by
    have hi : i < A.slots.size := (Array.getElem?_eq_some_iff.mp hv).1
    have q := K5 i hi
    rw [hv] at q
    rw [Option.some.inj q]
    exact K6 i hi
  refine Back.mono (back hZ hw wi E V C K1 hty S hz (by omega) (by omega) (fun i hi => by rw [hcv i (by omega)]; exact hall _ (List.getElem_mem _)) hfr hlo) (fun P a hp => ⟨hp.1, hp.2.1, hp.2.2.1, by rw [e]; exact hp.2.2.2⟩) (fun P a v B hp hq => ?_)
  obtain ⟨L, ⟨q1, q2, q3, q4, q5, q6, q7, ⟨V', v1, v2, v3, v4, v5⟩, q9⟩, hl, hc, hs⟩ := hq
  refine ⟨L, ⟨q1, q2, q3, q4, q5, q6, q7, ⟨V'.cls, v3, V', v1, rfl, by rw [v4, e, hlen], K4, fun i hi => ?_, fun i hi => ?_⟩, q9⟩, hl, hc, by rw [hs, e]⟩
  · have hi' : i < cs.length := by omega
    rw [v5 i (by omega), hcv i hi']; simp [List.getD_eq_getElem?_getD, hi']
  · have hi' : i < cs.length := by omega
    simp only [List.getD_eq_getElem?_getD, List.getElem?_map, List.getElem?_eq_getElem hi', Option.map_some, Option.getD_some]
    exact fits_lo8 _
end StrChars.Road
namespace StrChars.Road
open Jvm Sem ClassFile Op Lib Jvm.Stand Jvm.Free Jvm.Free.XT
/-- WHAT COMES BACK, in the writer's own shape -/
def QV (Z : State) (x : Addr) (N : Int32) (bs : List Int32) (h : Heap) (n0 : Nat) (v : Option Value) (h' : Heap) (L : List Loc) : Prop := v = none ∧ RoadKit.Fr n0 L ∧ RoadKit.Keep h h' [x] ∧ RoadKit.Exa Z h' x ST ∧ RoadKit.Fld Z h' x ST "coder" "B" (.int 0) ∧
  ∃ (t : Addr) (kb : ClassId), n0 ≤ t ∧ h.size ≤ t ∧ ¬ t = x ∧ RoadKit.Fld Z h' x ST "value" "[B" (.ref t) ∧ RoadKit.Arv Z h' t kb .byte N (bs.map Value.int) (.int 0)
/-- **new String(chars) AT A CALL, FOR THE WRITER**: a char[] of n known ints, each 0 to 255 -/
theorem backV {p : Program} {l : Launch} {e : Env} {R : Room} {s : State} {args : Array Value} {below : List Frame} {len W : Nat} {Z : State} {a0 : Array Value} {h : Heap} (hZ : Z.Warmed39 s.vm) (hw : ∀ d ∈ words, d.before a0 Z = true) {kI : Nat} (wi : (Jvm.Cond.instantiable ST kI).before a0 Z = true)
    {x b : Addr} {kC : ClassId} {cs bs : List Int32} {d v0 c0 : Value} {z N : Int32} {n n0 : Nat} (hx0 : n0 ≤ x) (hh0 : n0 ≤ h.size) (E : RoadKit.Exa Z h x ST) (V : RoadKit.Fld Z h x ST "value" "[B" v0) (C : RoadKit.Fld Z h x ST "coder" "B" c0) (K : RoadKit.Arv Z h b kC .char N (cs.map Value.int) d) (S : RoadKit.Sta Z h ST "COMPACT_STRINGS" "Z" (.int z)) (hz : ¬ z = 0)
    (hn : cs.length = n) (hN : N = Int32.ofNat n) (l0 : 0 < n) (l2 : n ≤ 4000) (hp : ∀ c ∈ cs, ¬ c < 0 ∧ ¬ (255 : Int32) < c) (hb : bs = cs.map (fun c => c.toInt8.toInt32)) (hfr : 4 ≤ R.frames) (hlo : W + 65 ≤ R.locals) :
    Back l R p e below s args (⟨"java/lang/String", "<init>", "([C)V"⟩ : MethodName) len W (fun P a => a = #[.ref x, .ref b] ∧ P.U.heap = h ∧ P.cells + 1 ≤ R.cells ∧ P.slots + n ≤ R.slots)
      (fun P _ v B => ∃ L, QV Z x N bs h n0 v B.U.heap L ∧ B.locs = P.locs ++ L ∧ B.cells = P.cells + 1 ∧ B.slots = P.slots + n) := by
  subst hn hN hb
  refine Back.mono (backArv hZ hw wi E V C K S hz (n32 (by omega)) l0 (by omega) (fun c hc => (hp c hc).2) hfr hlo) (fun P a hp => hp) (fun P a v B hp hq => ?_)
  obtain ⟨L, ⟨q1, q2, q3, q4, q5, q6, q7, ⟨kb, v1, v2⟩, q9⟩, hl, hc, hs⟩ := hq
  exact ⟨L, ⟨q1, fun y hy => by rw [q2 y hy]; exact hx0, q3, q5, q7, h.size, kb, hh0, Nat.le_refl _, Nat.ne_of_gt E.lt, q6, by rw [List.map_map]; exact v2⟩, hl, hc, hs⟩
end StrChars.Road
namespace StrChars
open Jvm Sem ClassFile Op Lib Jvm.Stand Jvm.Free.XT Jvm.Free.ALB Jvm.Free.JM Jvm.Free
open Jvm.Lib.Cold (StaticIs)
def hi8 (x : Int32) : Int32 := lo8 (x >>> ((8 : Int32) &&& 31))
/-- what StringUTF16.getChar makes of two bytes -/
def pairCh (u v : Int32) : Int32 := (((u &&& 255) <<< ((0 : Int32) &&& 31)) ||| ((v &&& 255) <<< ((8 : Int32) &&& 31))).toUInt32.toUInt16.toUInt32.toInt32
theorem shr0 (c : Int32) : c >>> ((0 : Int32) &&& 31) = c := by
  have e : ((0 : Int32) &&& 31) = 0 := by decide
  rw [e]
  apply Int32.toBitVec_inj.mp
  rw [Int32.toBitVec_shiftRight]
  have e1 : ((0 : Int32).toBitVec.smod 32) = 0#32 := by decide
  rw [e1, BitVec.sshiftRight_eq']
  exact BitVec.sshiftRight_zero
theorem lo8_and (x : Int32) : (lo8 x &&& 255).toBitVec.toNat = x.toBitVec.toNat % 256 := by
  have h : (lo8 x).toBitVec = (x.toBitVec.signExtend 8).signExtend 32 := by rw [lo8, Int8.toBitVec_toInt32, Int32.toBitVec_toInt8]
  rw [Int32.toBitVec_and, BitVec.toNat_and, h]
  have e : ((x.toBitVec.signExtend 8).signExtend 32).toNat % 256 = x.toBitVec.toNat % 256 := by
    rw [BitVec.toNat_signExtend]
    have hlt := x.toBitVec.isLt
    simp only [BitVec.toNat_setWidth, BitVec.toNat_signExtend]
    split <;> split <;> omega
  rw [← e]
  exact Nat.and_two_pow_sub_one_eq_mod _ 8
theorem pair_says {c : Int32} (h0 : ¬ c < 0) (h1 : ¬ 65535 < c) : pairCh (lo8 c) (hi8 c) = c := by
  rw [Int32.lt_iff_toInt_lt] at h0 h1
  have e0 : (0 : Int32).toInt = 0 := rfl
  have e1 : (65535 : Int32).toInt = 65535 := rfl
  have hc : c.toInt = c.toBitVec.toNat := by
    have := c.toBitVec.isLt
    have e : c.toInt = c.toBitVec.toInt := rfl
    rw [e] at h0 h1
    rw [e]
    rw [BitVec.toInt_eq_toNat_cond] at h0 h1 ⊢
    split at h0 <;> split <;> omega
  have hn : c.toBitVec.toNat < 65536 := by omega
  have a1 := lo8_and c
  have a2 : (hi8 c &&& 255).toBitVec.toNat = c.toBitVec.toNat / 256 := by
    rw [hi8, lo8_and]
    have e : ((8 : Int32) &&& 31) = 8 := by decide
    rw [e, Int32.toBitVec_shiftRight]
    have e2 : ((8 : Int32).toBitVec.smod 32) = 8#32 := by decide
    rw [e2, BitVec.sshiftRight_eq', BitVec.toNat_sshiftRight_of_msb_false (by rw [BitVec.msb_eq_false_iff_two_mul_lt]; omega)]
    show c.toBitVec.toNat >>> 8 % 256 = _
    rw [Nat.shiftRight_eq_div_pow]
    omega
  unfold pairCh
  apply Int32.toBitVec_inj.mp
  apply BitVec.eq_of_toNat_eq
  have f0 : ((0 : Int32) &&& 31) = 0 := by decide
  have f8 : ((8 : Int32) &&& 31) = 8 := by decide
  rw [f0, f8]
  have g : (((lo8 c &&& 255) <<< (0 : Int32)) ||| ((hi8 c &&& 255) <<< (8 : Int32))).toBitVec.toNat = c.toBitVec.toNat := by
    rw [Int32.toBitVec_or, Int32.toBitVec_shiftLeft, Int32.toBitVec_shiftLeft]
    have s0 : ((0 : Int32).toBitVec.smod 32) = 0#32 := by decide
    have s8 : ((8 : Int32).toBitVec.smod 32) = 8#32 := by decide
    rw [s0, s8, BitVec.toNat_or]
    simp only [BitVec.shiftLeft_eq', BitVec.toNat_shiftLeft, a1, a2]
    show (c.toBitVec.toNat % 256) <<< 0 % 2 ^ 32 ||| (c.toBitVec.toNat / 256) <<< 8 % 2 ^ 32 = _
    rw [Nat.shiftLeft_zero, Nat.mod_eq_of_lt (show c.toBitVec.toNat % 256 < 2 ^ 32 by omega), Nat.mod_eq_of_lt (show (c.toBitVec.toNat / 256) <<< 8 < 2 ^ 32 by rw [Nat.shiftLeft_eq]; omega), Nat.or_comm, ← Nat.shiftLeft_add_eq_or_of_lt (by omega), Nat.shiftLeft_eq]
    omega
  show BitVec.toNat (((((lo8 c &&& 255) <<< (0 : Int32)) ||| ((hi8 c &&& 255) <<< (8 : Int32))).toBitVec.setWidth 16).setWidth 32) = _
  rw [BitVec.toNat_setWidth, BitVec.toNat_setWidth, g]
  omega
end StrChars
namespace StrChars
open Jvm Sem ClassFile Op Lib Jvm.Stand Jvm.Free.XT Jvm.Free.ALB Jvm.Free.JM Jvm.Free
open Jvm.Lib.Cold (StaticIs)
theorem shr1 {n : Nat} (h : 2 * n < 2 ^ 31) : Int32.ofNat (2 * n) >>> ((1 : Int32) &&& 31) = Int32.ofNat n := by
  have e : ((1 : Int32) &&& 31) = 1 := by decide
  rw [e]
  apply Int32.toBitVec_inj.mp
  rw [Int32.toBitVec_shiftRight]
  have e1 : ((1 : Int32).toBitVec.smod 32) = 1#32 := by decide
  have hm : (BitVec.ofNat 32 (2 * n)).toNat = 2 * n := by rw [BitVec.toNat_ofNat, Nat.mod_eq_of_lt (by omega)]
  rw [e1, BitVec.sshiftRight_eq']
  apply BitVec.eq_of_toNat_eq
  show ((BitVec.ofNat 32 (2 * n)).sshiftRight 1).toNat = (BitVec.ofNat 32 n).toNat
  rw [BitVec.toNat_sshiftRight_of_msb_false (by rw [BitVec.msb_eq_false_iff_two_mul_lt, hm]; omega), hm, BitVec.toNat_ofNat, Nat.shiftRight_eq_div_pow]
  omega
/-- charAt's cast of a byte read back -/
def chr8 (u : Int32) : Int32 := (u &&& 255).toUInt32.toUInt16.toUInt32.toInt32
theorem chr8_lo8 {c : Int32} (h0 : ¬ c < 0) (h1 : ¬ 255 < c) : chr8 (lo8 c) = c := by
  have t : ∀ k : Fin 256, (Int32.ofNat k.val).toUInt32.toUInt16.toUInt32.toInt32 = Int32.ofNat k.val := by decide +kernel
  unfold chr8
  rw [lo8_mask h0 h1]
  rw [Int32.lt_iff_toInt_lt] at h0 h1
  have e0 : (0 : Int32).toInt = 0 := rfl
  have e1 : (255 : Int32).toInt = 255 := rfl
  obtain ⟨k, hk⟩ : ∃ k : Nat, c.toInt = k := ⟨c.toInt.toNat, by omega⟩
  have hx : c = Int32.ofNat k := Int32.toInt_inj.mp (by rw [hk, Int32.toInt_ofNat_small (by omega)])
  rw [hx]
  exact t ⟨k, by omega⟩
theorem narrow_ch {c : Int32} (h0 : ¬ c < 0) (h1 : ¬ 65535 < c) : narrow .char (.int c) = .int c := by
  have q : narrow .char (.int (pairCh (lo8 c) (hi8 c))) = .int (pairCh (lo8 c) (hi8 c)) := narrow_c _
  rwa [pair_says h0 h1] at q
/-- the array's cell V codes the n chars f 0 .. f (n - 1) by the coder cd, as the JDK does: coder 1 just where some char is above 255 -/
def Cod (cd : Int32) (n : Nat) (f : Nat → Int32) (V : Cell) : Prop := (cd = 0 ∧ V.slots.size = n ∧ ∀ j, j < n → V.slots[j]? = some (.int (lo8 (f j))) ∧ ¬ 255 < f j) ∨ (cd = 1 ∧ V.slots.size = 2 * n ∧ (∀ j, j < n → V.slots[2 * j]? = some (.int (lo8 (f j))) ∧ V.slots[2 * j + 1]? = some (.int (hi8 (f j)))) ∧ ∃ j, j < n ∧ 255 < f j)
theorem Cod.cd {cd : Int32} {n : Nat} {f : Nat → Int32} {V : Cell} (h : Cod cd n f V) : cd = 0 ∨ cd = 1 := h.imp (fun q => q.1) fun q => q.1
theorem Cod.len {cd : Int32} {n : Nat} {f : Nat → Int32} {V : Cell} (h : Cod cd n f V) (hs : V.slots.size < 2 ^ 31) : Int32.ofNat V.slots.size >>> (cd &&& 31) = Int32.ofNat n := by
  rcases h with ⟨rfl, h, -⟩ | ⟨rfl, h, -⟩
  · rw [shr0, h]
  · rw [h, shr1 (by omega)]
/-- **x is a String of the n chars f 0 .. f (n - 1)**, Latin-1 or UTF-16; its array at t has the cell V -/
def Txt (x t : Addr) (V : Cell) (cd : Int32) (n : Nat) (f : Nat → Int32) (U : State) : Prop := Exact "java/lang/String" x U ∧ Has x "java/lang/String" "value" "[B" (.ref t) U ∧ Has x "java/lang/String" "coder" "B" (.int cd) U ∧ XT.Arr .byte t V U ∧ Cod cd n f V ∧ ∀ j, j < n → ¬ f j < 0 ∧ ¬ 65535 < f j
theorem Txt.mv {x t : Addr} {V : Cell} {cd : Int32} {n : Nat} {f : Nat → Int32} {U U' : State} (h : Txt x t V cd n f U) (hal : U.vm.Alike U'.vm) (hh : U'.heap = U.heap) : Txt x t V cd n f U' := ⟨h.1.mv hal hh, h.2.1.mv hal hh, h.2.2.1.mv hal hh, h.2.2.2.1.mv hal hh, h.2.2.2.2⟩
namespace Cdr
def yN : MethodName := ⟨"java/lang/String", "coder", "()B"⟩
abbrev yB : ByteArray := jdk_42_method_152_code
theorem d0 : decode yB 0 = .ok (.getstatic 38, 3) := by decide +kernel
theorem d3 : decode yB 3 = .ok (.ifCond (.eq) 10, 3) := by decide +kernel
theorem d6 : decode yB 6 = .ok (.aload_n 0, 1) := by decide +kernel
theorem d7 : decode yB 7 = .ok (.getfield 15, 3) := by decide +kernel
theorem d10 : decode yB 10 = .ok (.goto 4, 3) := by decide +kernel
theorem d14 : decode yB 14 = .ok (.ireturn, 1) := by decide +kernel
def site : List Cond := [.fieldLink "java/lang/String" 38 "java/lang/String" "COMPACT_STRINGS" "Z", .fieldLink "java/lang/String" 15 "java/lang/String" "coder" "B"]
def tab : Cond := tabOf yN yB 1 (some .byte) site
def P (x : Addr) (cd z : Int32) (args : Array Value) (s : State) : Prop := args = #[.ref x] ∧ Has x "java/lang/String" "coder" "B" (.int cd) s ∧ (cd = 0 ∨ cd = 1) ∧ StaticIs s "java/lang/String" "COMPACT_STRINGS" "Z" (.int z) ∧ ¬ z = 0
def E (cd : Int32) (r : Option Value) (s u : State) : Prop := XT.PureE (some (.int cd)) r s u
theorem law (l : Launch) (x : Addr) (cd z : Int32) : Law l yN 1 0 0 0 yB 1 (some .byte) site (P x cd z) (E cd) [] 0 0 := by
  refine Law.of_walk (plainFor_of_name (by decide +kernel)) (by decide +kernel) (by decide +kernel) (by decide) (fun _ _ h => by rw [h.1]; rfl) (fun _ U U' hal hh h => ⟨h.1, h.2.1.mv hal hh, h.2.2.1, h.2.2.2.1.there hal hh, h.2.2.2.2⟩) (fun r U U' V V' h1 hal h2 h => XT.PureE.mv r U U' V V' h1 hal h2 h) ?_
  intro p e s m args below meth c s₁ X0 hexec hbytes hml hret hlk hnm hown hh0 W hP
  obtain ⟨rfl, hx, hc, s1, hz⟩ := hP
  have c1 : Steps p.tables e below (s₁.setTop (entryFrame m #[.ref x] 1)) (s₁.setTop (mkF m 0 #[.val (.ref x)] [])) := entry rfl
  obtain ⟨T2, X2, q2, st2⟩ := X0.sget hexec hown (wk W (.fieldLink "java/lang/String" 38 "java/lang/String" "COMPACT_STRINGS" "Z")) s1 (fun _ _ h => by rw [hh0]; exact h) (g := (mkF m 0 #[.val (.ref x)] [])) rfl (hb hbytes d0)
  have hh2 := q2.trans hh0
  have c3 : Steps p.tables e below (s₁.setTop (entryFrame m #[.ref x] 1)) (T2.setTop (mkF m 7 #[.val (.ref x)] [.ref x])) := (c1.trans (st2 _ (Steps.refl _))).trans (by
    refine XS.ifNo X2.here hexec rfl (hb hbytes d3) rfl (i0_eq_f hz) ?_
    refine XS.aloadN X2.here hexec rfl (hb hbytes d6) rfl rfl ?_
    exact Steps.refl _)
  obtain ⟨T4, X4, q4, st4⟩ := X2.hget hexec hown (wk W (.fieldLink "java/lang/String" 15 "java/lang/String" "coder" "B")) (hx.mv X2.warmed.alike hh2) (g := (mkF m 7 #[.val (.ref x)] [.ref x])) rfl (rest := []) rfl (hb hbytes d7)
  have c5 : Steps p.tables e below (s₁.setTop (entryFrame m #[.ref x] 1)) (T4.setTop (mkF m 14 #[.val (.ref x)] [.int cd])) := (c3.trans (st4 _ (Steps.refl _))).trans (by
    refine XS.goto X4.here hexec rfl (pc0 := 10) rfl (hb hbytes d10) (by decide) rfl ?_
    exact Steps.refl _)
  exact ⟨T4, some (.int cd), _, _, _, X4, rfl, rfl, rfl, (fun h => by cases h), ⟨rfl, q4.trans hh2⟩, fun fs hl => c5.trans (X4.ireturnOut hexec hret (by rcases hc with rfl | rfl <;> rfl) (Or.inr (Or.inr (Or.inl rfl))) (hb hbytes d14) hl)⟩
end Cdr
namespace Len
def yN : MethodName := ⟨"java/lang/String", "length", "()I"⟩
abbrev yB : ByteArray := jdk_42_method_54_code
theorem d0 : decode yB 0 = .ok (.aload_n 0, 1) := by decide +kernel
theorem d1 : decode yB 1 = .ok (.getfield 9, 3) := by decide +kernel
theorem d4 : decode yB 4 = .ok (.arraylength, 1) := by decide +kernel
theorem d5 : decode yB 5 = .ok (.aload_n 0, 1) := by decide +kernel
theorem d6 : decode yB 6 = .ok (.invokevirtual 335, 3) := by decide +kernel
theorem d9 : decode yB 9 = .ok (.ishr, 1) := by decide +kernel
theorem d10 : decode yB 10 = .ok (.ireturn, 1) := by decide +kernel
def site : List Cond := [.fieldLink "java/lang/String" 9 "java/lang/String" "value" "[B", Cdr.tab] ++ virtW "java/lang/String" 335 "java/lang/String" Cdr.yN Cdr.yN
def tab : Cond := tabOf yN yB 1 (some .int) site
def P (x t : Addr) (V : Cell) (cd : Int32) (n : Nat) (f : Nat → Int32) (z : Int32) (args : Array Value) (s : State) : Prop := args = #[.ref x] ∧ Txt x t V cd n f s ∧ StaticIs s "java/lang/String" "COMPACT_STRINGS" "Z" (.int z) ∧ ¬ z = 0
def E (n : Nat) (r : Option Value) (s u : State) : Prop := XT.PureE (some (.int (Int32.ofNat n))) r s u
/-- length() of a String of n chars, in either coding -/
theorem law (l : Launch) (x t : Addr) (V : Cell) (cd : Int32) (n : Nat) (f : Nat → Int32) (z : Int32) : Law l yN 1 0 1 13 yB 1 (some .int) site (P x t V cd n f z) (E n) [] 0 0 := by
  refine Law.of_walk (plainFor_of_name (by decide +kernel)) (by decide +kernel) (by decide +kernel) (by decide) (fun _ _ h => by rw [h.1]; rfl) (fun _ U U' hal hh h => ⟨h.1, h.2.1.mv hal hh, h.2.2.1.there hal hh, h.2.2.2⟩) (fun r U U' V V' h1 hal h2 h => XT.PureE.mv r U U' V V' h1 hal h2 h) ?_
  intro p e s m args below meth c s₁ X0 hexec hbytes hml hret hlk hnm hown hh0 W hP
  obtain ⟨rfl, hx, s1, hz⟩ := hP
  have v31 := hx.2.2.2.1.2.2.2
  have c1 : Steps p.tables e below (s₁.setTop (entryFrame m #[.ref x] 1)) (s₁.setTop (mkF m 1 #[.val (.ref x)] [.ref x])) := Steps.trans (entry rfl) (by
    show Steps p.tables e below (s₁.setTop (mkF m 0 #[.val (.ref x)] [])) _
    refine XS.aloadN X0.here hexec rfl (hb hbytes d0) rfl rfl ?_
    exact Steps.refl _)
  obtain ⟨T2, X2, q2, st2⟩ := X0.hget hexec hown (wk W (.fieldLink "java/lang/String" 9 "java/lang/String" "value" "[B")) (hx.mv X0.warmed.alike hh0).2.1 (g := (mkF m 1 #[.val (.ref x)] [.ref x])) rfl (rest := []) rfl (hb hbytes d1)
  have hh2 := q2.trans hh0
  have hx2 := hx.mv X2.warmed.alike hh2
  have c3 : Steps p.tables e below (s₁.setTop (entryFrame m #[.ref x] 1)) (T2.setTop (mkF m 6 #[.val (.ref x)] [.ref x, .int (Int32.ofNat V.slots.size)])) := (c1.trans (st2 _ (Steps.refl _))).trans (by
    refine X2.alen hexec hx2.2.2.2.1 rfl rfl (hb hbytes d4) ?_
    refine XS.aloadN X2.here hexec rfl (hb hbytes d5) rfl rfl ?_
    exact Steps.refl _)
  obtain ⟨v4, T4, X4, E4, g4⟩ := X2.callV hexec (Cdr.law l x cd z) hown (wks W (virtW "java/lang/String" 335 "java/lang/String" Cdr.yN Cdr.yN)) rfl (by decide) (wk W Cdr.tab) (W := 1) (Nat.le_of_ble_eq_true rfl) (Nat.le_of_ble_eq_true rfl) (Nat.le_refl _) (Nat.le_refl _) (hx2.1.fc X2.warmed.alike) hx2.1.is (g := (mkF m 6 #[.val (.ref x)] [.ref x, .int (Int32.ofNat V.slots.size)])) rfl (by rw [hml]; rfl) c3 (argsL := []) (rest := [.int (Int32.ofNat V.slots.size)]) rfl rfl (by show 2 * 0 + (1 + 0) ≤ _; decide) (hb hbytes d6) (⟨rfl, hx2.2.2.1, hx.2.2.2.2.1.cd, s1.there X2.warmed.alike hh2, hz⟩)
  obtain ⟨rfl, q4⟩ := E4
  have c5 : Steps p.tables e below (s₁.setTop (entryFrame m #[.ref x] 1)) (T4.setTop (mkF m 10 #[.val (.ref x)] [.int (Int32.ofNat V.slots.size >>> (cd &&& 31))])) := Steps.trans g4 (by
    refine ishr X4.here hexec rfl (hb hbytes d9) rfl ?_
    exact Steps.refl _)
  rw [hx.2.2.2.2.1.len v31] at c5
  exact ⟨T4, some (.int (Int32.ofNat n)), _, _, _, X4, rfl, rfl, rfl, (fun h => by cases h), ⟨rfl, q4.trans hh2⟩, fun fs hl => c5.trans (X4.ireturnOut hexec hret rfl (Or.inl rfl) (hb hbytes d10) hl)⟩
theorem pays {l : Launch} {R : Room} {p : Program} {e : Env} {below : List Frame} {s : State} {sargs : Array Value} {len W : Nat} (x t : Addr) (V : Cell) (cd : Int32) (n : Nat) (f : Nat → Int32) (z : Int32) (htab : tab.before sargs s = true) (hfr : 2 ≤ R.frames) (hlo : W + 25 ≤ R.locals) :
    Back l R p e below s sargs yN len W (fun A₁ a₁ => A₁.cells + 0 ≤ R.cells ∧ A₁.slots + 0 ≤ R.slots ∧ P x t V cd n f z a₁ A₁.U) (fun A₁ _ v₁ B₁ => E n v₁ A₁.U B₁.U ∧ B₁.locs = A₁.locs ++ [] ∧ B₁.cells = A₁.cells + 0 ∧ B₁.slots = A₁.slots + 0) :=
  (law l x t V cd n f z).pays htab hfr (by omega)
end Len
namespace IsL
def yN : MethodName := ⟨"java/lang/String", "isLatin1", "()Z"⟩
abbrev yB : ByteArray := jdk_42_method_154_code
theorem d0 : decode yB 0 = .ok (.getstatic 38, 3) := by decide +kernel
theorem d3 : decode yB 3 = .ok (.ifCond (.eq) 14, 3) := by decide +kernel
theorem d6 : decode yB 6 = .ok (.aload_n 0, 1) := by decide +kernel
theorem d7 : decode yB 7 = .ok (.getfield 15, 3) := by decide +kernel
theorem d10 : decode yB 10 = .ok (.ifCond (.ne) 7, 3) := by decide +kernel
theorem d13 : decode yB 13 = .ok (.iconst 1, 1) := by decide +kernel
theorem d14 : decode yB 14 = .ok (.goto 4, 3) := by decide +kernel
theorem d17 : decode yB 17 = .ok (.iconst 0, 1) := by decide +kernel
theorem d18 : decode yB 18 = .ok (.ireturn, 1) := by decide +kernel
def site : List Cond := [.fieldLink "java/lang/String" 38 "java/lang/String" "COMPACT_STRINGS" "Z", .fieldLink "java/lang/String" 15 "java/lang/String" "coder" "B"]
def tab : Cond := tabOf yN yB 1 (some .boolean) site
def P (x : Addr) (cd z : Int32) (args : Array Value) (s : State) : Prop := args = #[.ref x] ∧ Has x "java/lang/String" "coder" "B" (.int cd) s ∧ (cd = 0 ∨ cd = 1) ∧ StaticIs s "java/lang/String" "COMPACT_STRINGS" "Z" (.int z) ∧ ¬ z = 0
def E (cd : Int32) (r : Option Value) (s u : State) : Prop := XT.PureE (some (.int (1 - cd))) r s u
theorem law (l : Launch) (x : Addr) (cd z : Int32) : Law l yN 1 0 0 0 yB 1 (some .boolean) site (P x cd z) (E cd) [] 0 0 := by
  refine Law.of_walk (plainFor_of_name (by decide +kernel)) (by decide +kernel) (by decide +kernel) (by decide) (fun _ _ h => by rw [h.1]; rfl) (fun _ U U' hal hh h => ⟨h.1, h.2.1.mv hal hh, h.2.2.1, h.2.2.2.1.there hal hh, h.2.2.2.2⟩) (fun r U U' V V' h1 hal h2 h => XT.PureE.mv r U U' V V' h1 hal h2 h) ?_
  intro p e s m args below meth c s₁ X0 hexec hbytes hml hret hlk hnm hown hh0 W hP
  obtain ⟨rfl, hx, hc, s1, hz⟩ := hP
  have c1 : Steps p.tables e below (s₁.setTop (entryFrame m #[.ref x] 1)) (s₁.setTop (mkF m 0 #[.val (.ref x)] [])) := entry rfl
  obtain ⟨T2, X2, q2, st2⟩ := X0.sget hexec hown (wk W (.fieldLink "java/lang/String" 38 "java/lang/String" "COMPACT_STRINGS" "Z")) s1 (fun _ _ h => by rw [hh0]; exact h) (g := (mkF m 0 #[.val (.ref x)] [])) rfl (hb hbytes d0)
  have hh2 := q2.trans hh0
  have c3 : Steps p.tables e below (s₁.setTop (entryFrame m #[.ref x] 1)) (T2.setTop (mkF m 7 #[.val (.ref x)] [.ref x])) := (c1.trans (st2 _ (Steps.refl _))).trans (by
    refine XS.ifNo X2.here hexec rfl (hb hbytes d3) rfl (i0_eq_f hz) ?_
    refine XS.aloadN X2.here hexec rfl (hb hbytes d6) rfl rfl ?_
    exact Steps.refl _)
  obtain ⟨T4, X4, q4, st4⟩ := X2.hget hexec hown (wk W (.fieldLink "java/lang/String" 15 "java/lang/String" "coder" "B")) (hx.mv X2.warmed.alike hh2) (g := (mkF m 7 #[.val (.ref x)] [.ref x])) rfl (rest := []) rfl (hb hbytes d7)
  have c5 : Steps p.tables e below (s₁.setTop (entryFrame m #[.ref x] 1)) (T4.setTop (mkF m 10 #[.val (.ref x)] [.int cd])) := c3.trans (st4 _ (Steps.refl _))
  have c6 : Steps p.tables e below (s₁.setTop (entryFrame m #[.ref x] 1)) (T4.setTop (mkF m 18 #[.val (.ref x)] [.int (1 - cd)])) := by
    rcases hc with rfl | rfl
    · exact c5.trans (by
        refine XS.ifNo X4.here hexec rfl (hb hbytes d10) rfl (i0_ne_f rfl) ?_
        refine iconstV X4.here hexec rfl 1 (hb hbytes d13) (by decide) ?_
        refine XS.goto X4.here hexec rfl (pc0 := 14) rfl (hb hbytes d14) (by decide) rfl ?_
        exact Steps.refl _)
    · exact c5.trans (by
        refine XS.ifYes X4.here hexec rfl (pc0 := 10) rfl (hb hbytes d10) rfl (i0_ne_t (by decide)) (by decide) rfl ?_
        refine iconstV X4.here hexec rfl 0 (hb hbytes d17) (by decide) ?_
        exact Steps.refl _)
  exact ⟨T4, some (.int (1 - cd)), _, _, _, X4, rfl, rfl, rfl, (fun h => by cases h), ⟨rfl, q4.trans hh2⟩, fun fs hl => c6.trans (X4.ireturnOut hexec hret (by rcases hc with rfl | rfl <;> rfl) (Or.inr (Or.inl rfl)) (hb hbytes d18) hl)⟩
end IsL
namespace LChA
def yN : MethodName := ⟨"java/lang/StringLatin1", "charAt", "([BI)C"⟩
abbrev yB : ByteArray := jdk_43_method_2_code
theorem d0 : decode yB 0 = .ok (.iload_n 1, 1) := by decide +kernel
theorem d1 : decode yB 1 = .ok (.aload_n 0, 1) := by decide +kernel
theorem d2 : decode yB 2 = .ok (.arraylength, 1) := by decide +kernel
theorem d3 : decode yB 3 = .ok (.invokestatic 9, 3) := by decide +kernel
theorem d6 : decode yB 6 = .ok (.aload_n 0, 1) := by decide +kernel
theorem d7 : decode yB 7 = .ok (.iload_n 1, 1) := by decide +kernel
theorem d8 : decode yB 8 = .ok (.baload, 1) := by decide +kernel
theorem d9 : decode yB 9 = .ok (.sipush 255, 3) := by decide +kernel
theorem d12 : decode yB 12 = .ok (.iand, 1) := by decide +kernel
theorem d13 : decode yB 13 = .ok (.i2c, 1) := by decide +kernel
theorem d14 : decode yB 14 = .ok (.ireturn, 1) := by decide +kernel
def site : List Cond := [JO.Str_checkIndex.tab] ++ staticW "java/lang/StringLatin1" 9 JO.Str_checkIndex.yN
def tab : Cond := tabOf yN yB 2 (some .char) site
def P (t : Addr) (V : Cell) (i : Nat) (u : Int32) (fm : Value) (args : Array Value) (s : State) : Prop := args = #[.ref t, .int (Int32.ofNat i)] ∧ XT.Arr .byte t V s ∧ V.slots[i]? = some (.int u) ∧ (StaticIs s "jdk/internal/util/Preconditions" "SIOOBE_FORMATTER" "Ljava/util/function/BiFunction;" fm ∧ fm.isRef = true)
def E (u : Int32) (r : Option Value) (s w : State) : Prop := XT.PureE (some (.int (chr8 u))) r s w
theorem law (l : Launch) (t : Addr) (V : Cell) (i : Nat) (u : Int32) (fm : Value) : Law l yN 2 2 2 27 yB 2 (some .char) site (P t V i u fm) (E u) [] 0 0 := by
  refine Law.of_walk (plainFor_of_name (by decide +kernel)) (by decide +kernel) (by decide +kernel) (by decide) (fun _ _ h => by rw [h.1]; rfl) (fun _ U U' hal hh h => ⟨h.1, h.2.1.mv hal hh, h.2.2.1, h.2.2.2.1.there hal hh, h.2.2.2.2⟩) (fun r U U' V V' h1 hal h2 h => XT.PureE.mv r U U' V V' h1 hal h2 h) ?_
  intro p e s m args below meth c s₁ X0 hexec hbytes hml hret hlk hnm hown hh0 W hP
  obtain ⟨rfl, hV, hu, s1, rf⟩ := hP
  have v31 := hV.2.2.2
  have hi : i < V.slots.size := (Array.getElem?_eq_some_iff.mp hu).1
  have c1 : Steps p.tables e below (s₁.setTop (entryFrame m #[.ref t, .int (Int32.ofNat i)] 2)) (s₁.setTop (mkF m 0 #[.val (.ref t), .val (.int (Int32.ofNat i))] [])) := entry rfl
  have c2 : Steps p.tables e below (s₁.setTop (entryFrame m #[.ref t, .int (Int32.ofNat i)] 2)) (s₁.setTop (mkF m 3 #[.val (.ref t), .val (.int (Int32.ofNat i))] [.int (Int32.ofNat V.slots.size), .int (Int32.ofNat i)])) := c1.trans (by
    refine XS.iloadN X0.here hexec rfl (hb hbytes d0) rfl ?_
    refine XS.aloadN X0.here hexec rfl (hb hbytes d1) rfl rfl ?_
    refine X0.alen hexec (hV.mv X0.warmed.alike hh0) rfl rfl (hb hbytes d2) ?_
    exact Steps.refl _)
  obtain ⟨v3, T3, X3, E3, g3⟩ := X0.callS hexec (JO.Str_checkIndex.law l (Int32.ofNat i) (Int32.ofNat V.slots.size) fm) hown (wks W (staticW "java/lang/StringLatin1" 9 JO.Str_checkIndex.yN)) (wk W JO.Str_checkIndex.tab) (W := 0) (Nat.le_of_ble_eq_true rfl) (Nat.le_of_ble_eq_true rfl) (Nat.le_refl _) (Nat.le_refl _) (g := (mkF m 3 #[.val (.ref t), .val (.int (Int32.ofNat i))] [.int (Int32.ofNat V.slots.size), .int (Int32.ofNat i)])) rfl (by rw [hml]; rfl) c2 (argsL := [.int (Int32.ofNat i), .int (Int32.ofNat V.slots.size)]) (rest := []) rfl rfl (by show 2 * 0 + 0 ≤ _; decide) (hb hbytes d3) (⟨rfl, rf, s1.there X0.warmed.alike hh0, Int32.ofNat_not_neg (by omega), lt32 v31 hi⟩)
  obtain ⟨rfl, q3⟩ := E3
  have hh3 := q3.trans hh0
  have c4 : Steps p.tables e below (s₁.setTop (entryFrame m #[.ref t, .int (Int32.ofNat i)] 2)) (T3.setTop (mkF m 14 #[.val (.ref t), .val (.int (Int32.ofNat i))] [.int (chr8 u)])) := Steps.trans g3 (by
    refine XS.aloadN X3.here hexec rfl (hb hbytes d6) rfl rfl ?_
    refine XS.iloadN X3.here hexec rfl (hb hbytes d7) rfl ?_
    refine X3.aget hexec (hV.mv X3.warmed.alike hh3) rfl hu rfl rfl (hb hbytes d8) ?_
    refine sipushV X3.here hexec rfl 255 (hb hbytes d9) (by decide) ?_
    refine XS.iand X3.here hexec rfl (hb hbytes d12) rfl ?_
    refine i2c X3.here hexec rfl (hb hbytes d13) rfl ?_
    exact Steps.refl _)
  exact ⟨T3, some (.int (chr8 u)), _, _, _, X3, rfl, rfl, rfl, (fun h => by cases h), ⟨rfl, hh3⟩, fun fs hl => c4.trans (X3.ireturnOut hexec hret (narrow_c _) (Or.inr (Or.inr (Or.inr (Or.inl rfl)))) (hb hbytes d14) hl)⟩
end LChA
end StrChars
namespace StrChars.Road
open Jvm Sem ClassFile Op Lib Jvm.Stand Jvm.Free Jvm.Free.XT
open Jvm.Lib.Cold (StaticIs)
theorem consq {a : Array Value} {s : State} {c : Jvm.Cond} {L : List Jvm.Cond} (h0 : c.before a s = true) (h : ∀ w ∈ L, w.before a s = true) : ∀ w ∈ c :: L, w.before a s = true := fun w hw => (List.mem_cons.mp hw).elim (fun e => e ▸ h0) (h w)
/-- the words of String.length(), either coding -/
abbrev wordsLen : List Jvm.Cond := [.code Len.yN Len.yB 1 (some .int), .initialized ST, .fieldLink ST 9 ST "value" "[B", .fieldLink ST 38 ST "COMPACT_STRINGS" "Z", .fieldLink ST 15 ST "coder" "B", .code Cdr.yN Cdr.yB 1 (some .byte), .methodLink ST 335 Cdr.yN, .declares Cdr.yN, .selects ST Cdr.yN Cdr.yN, .instanceMethod Cdr.yN]
theorem tabLen_of {a : Array Value} {s : State} (h : ∀ w ∈ wordsLen, w.before a s = true) : Len.tab.before a s = true := by
  have hc : Cdr.tab.before a s = true := unparts (wk h (.code Cdr.yN Cdr.yB 1 (some .byte))) (wks h (.initialized Cdr.yN.cls :: Cdr.site))
  have q := consq hc h
  exact unparts (wk q (.code Len.yN Len.yB 1 (some .int))) (wks q (.initialized Len.yN.cls :: Len.site))
theorem movedLen {Z s : State} {a0 args : Array Value} (hZ : Z.Warmed39 s.vm) (hw : ∀ d ∈ wordsLen, d.before a0 Z = true) : ∀ d ∈ wordsLen, d.before args s = true := fun d hd => by
  have q := hw d hd
  have t : ∀ d ∈ wordsLen, d = .arrayClass .byte ∨ (d.onTables && d.keepsFace) = true := by decide +kernel
  rcases t d hd with rfl | t
  · exact RoadKit.mvA hZ q
  · exact RoadKit.mv hZ q t
/-- the bytes of the chars cs, low before high -/
def wideBytes : List Int32 → List Value
  | [] => []
  | c :: cs => .int (lo8 c) :: .int (hi8 c) :: wideBytes cs
theorem wide_lo (d : Value) : ∀ (cs : List Int32) (j : Nat), j < cs.length → (wideBytes cs).getD (2 * j) d = .int (lo8 (cs.getD j 0))
  | [], j, h => absurd h (Nat.not_lt_zero j)
  | c :: cs, 0, _ => rfl
  | c :: cs, j + 1, h => by
    have q := wide_lo d cs j (by simpa using h)
    rw [show 2 * (j + 1) = 2 * j + 1 + 1 from by omega]
    simpa [wideBytes] using q
theorem wide_hi (d : Value) : ∀ (cs : List Int32) (j : Nat), j < cs.length → (wideBytes cs).getD (2 * j + 1) d = .int (hi8 (cs.getD j 0))
  | [], j, h => absurd h (Nat.not_lt_zero j)
  | c :: cs, 0, _ => rfl
  | c :: cs, j + 1, h => by
    have q := wide_hi d cs j (by simpa using h)
    rw [show 2 * (j + 1) + 1 = 2 * j + 1 + 1 + 1 from by omega]
    simpa [wideBytes] using q
theorem low_at (d : Value) (cs : List Int32) (j : Nat) (h : j < cs.length) : (cs.map fun c => Value.int (lo8 c)).getD j d = .int (lo8 (cs.getD j 0)) := by
  simp [List.getD_eq_getElem?_getD, h]
/-- an array of N2 bytes vs codes the chars cs by the coder cd -/
def CodA (cs : List Int32) (cd N2 : Int32) (vs : List Value) : Prop := (cd = 0 ∧ N2 = Int32.ofNat cs.length ∧ vs = (cs.map fun c => Value.int (lo8 c)) ∧ ∀ c ∈ cs, ¬ 255 < c) ∨ (cd = 1 ∧ N2 = Int32.ofNat (2 * cs.length) ∧ vs = wideBytes cs ∧ ∃ c ∈ cs, 255 < c)
theorem CodA.cod {cs : List Int32} {cd N2 : Int32} {vs : List Value} {V : Cell} (h : CodA cs cd N2 vs) (hn : 2 * cs.length < 2 ^ 31) (hs : V.slots.size = N2.toNatClampNeg) (hv : RoadKit.Has V vs (.int 0)) : Cod cd cs.length (fun j => cs.getD j 0) V := by
  rcases h with ⟨rfl, rfl, rfl, h⟩ | ⟨rfl, rfl, rfl, c, hc, hw⟩
  · rw [n32 (by omega)] at hs
    exact Or.inl ⟨rfl, hs, fun j hj => ⟨by rw [hv j (by omega), low_at _ _ _ hj], by
      have e : cs.getD j 0 = cs[j] := by simp [List.getD_eq_getElem?_getD, hj]
      show ¬ 255 < cs.getD j 0
      rw [e]; exact h _ (List.getElem_mem _)⟩⟩
  · rw [n32 (by omega)] at hs
    obtain ⟨j, hj, rfl⟩ := List.getElem_of_mem hc
    exact Or.inr ⟨rfl, hs, fun j hj => ⟨by rw [hv _ (by omega), wide_lo _ _ _ hj], by rw [hv _ (by omega), wide_hi _ _ _ hj]⟩, j, hj, by
      have e : cs.getD j 0 = cs[j] := by simp [List.getD_eq_getElem?_getD, hj]
      show 255 < cs.getD j 0
      rw [e]; exact hw⟩
/-- an object of exactly java/lang/String, its two fields found: as the laws ask it -/
theorem strObj {Z U : State} {a0 : Array Value} {kI : Nat} (wi : (Jvm.Cond.instantiable ST kI).before a0 Z = true) (al : Z.vm.Alike U.vm) {x : Addr} {v0 c0 : Value} (E : RoadKit.Exa Z U.heap x ST) (V : RoadKit.Fld Z U.heap x ST "value" "[B" v0) (C : RoadKit.Fld Z U.heap x ST "coder" "B" c0) :
    ∃ (D : Cell) (fV fC : Field), Blank ST x D U ∧ Found ST "value" "[B" fV U ∧ Found ST "coder" "B" fC U ∧ D.slots[fV.slot]? = some v0 ∧ D.slots[fC.slot]? = some c0 ∧ RoadKit.slotOf Z ST "value" "[B" = fV.slot ∧ RoadKit.slotOf Z ST "coder" "B" = fC.slot := by
  obtain ⟨D, cfV, kV, iV, fV, hD, gV, stV, knV, obV, asV, slV⟩ := V
  obtain ⟨D', cfC, kC, iC, fC, hD', gC, stC, -, -, asC, slC⟩ := C
  cases hD.symm.trans hD'
  obtain ⟨D2, kD, e1, e2, e3, e4, e5⟩ := E
  cases hD.symm.trans e1
  obtain ⟨c2, k2, i1, i2, i3, -⟩ := Cond.instantiable_spec wi
  cases e2.symm.trans i1
  cases e3.symm.trans i2
  obtain ⟨kU, u1, u2⟩ := al.2.2 _ _ e3
  exact ⟨D, fV, fC, ⟨hD, ⟨knV, fun q hq => by rw [hq] at obV; cases obV⟩, by rw [al.findClass]; exact e2, kU, u1, by rw [u2]; exact i3, by rw [u2]; exact e5 i3⟩, ⟨SBG.found_only al ⟨cfV, kV, iV, gV⟩, stV⟩, ⟨SBG.found_only al ⟨cfC, kC, iC, gC⟩, stC⟩, slV, slC, by simp [RoadKit.slotOf, gV], by simp [RoadKit.slotOf, gC]⟩
theorem sta_is {Z U : State} (al : Z.vm.Alike U.vm) {C n d : String} {v : Value} (S : RoadKit.Sta Z U.heap C n d v) : StaticIs U C n d v := by
  obtain ⟨cfS, iS, kS, fS, st, cS, t1, t2, t3, t4, t5, t6, t7⟩ := S
  exact StaticIs.there (s := { Z with heap := U.heap }) ⟨cfS, iS, kS, fS, st, cS, t1, t2, t3, t4, t5, (fun q => by rw [q] at t6; cases t6), t7⟩ al rfl
/-- **length() OF SUCH A STRING** -/
theorem lenW {p : Program} {l : Launch} {e : Env} {R : Room} {s : State} {args : Array Value} {below : List Frame} {len W : Nat} {Z : State} {a0 : Array Value} {h : Heap} (hZ : Z.Warmed39 s.vm) (hw : ∀ d ∈ wordsLen, d.before a0 Z = true) {kI : Nat} (wi : (Jvm.Cond.instantiable ST kI).before a0 Z = true)
    {x t : Addr} {kb : ClassId} {cs : List Int32} {cd N2 z : Int32} {vs : List Value} (E : RoadKit.Exa Z h x ST) (V : RoadKit.Fld Z h x ST "value" "[B" (.ref t)) (C : RoadKit.Fld Z h x ST "coder" "B" (.int cd)) (K : RoadKit.Arv Z h t kb .byte N2 vs (.int 0)) (hc : CodA cs cd N2 vs) (hb : ∀ c ∈ cs, ¬ c < 0 ∧ ¬ (65535 : Int32) < c)
    (S : RoadKit.Sta Z h ST "COMPACT_STRINGS" "Z" (.int z)) (hz : ¬ z = 0) (l2 : cs.length ≤ 4000) (hfr : 2 ≤ R.frames) (hlo : W + 25 ≤ R.locals) :
    Back l R p e below s args (⟨"java/lang/String", "length", "()I"⟩ : MethodName) len W (fun P a => a = #[.ref x] ∧ P.U.heap = h ∧ P.cells + 0 ≤ R.cells ∧ P.slots + 0 ≤ R.slots)
      (fun P _ v B => ∃ L, (v = some (.int (Int32.ofNat cs.length)) ∧ L = [] ∧ B.U.heap = h) ∧ B.locs = P.locs ++ L ∧ B.cells = P.cells + 0 ∧ B.slots = P.slots + 0) := by
  obtain ⟨A, K1, K2, K3, K4, K5, K6⟩ := K
  have hcod := hc.cod (by omega) K3 K5
  intro m meth c P g ig mk a X hg hsize hdg hW hn hp'
  obtain ⟨rfl, rfl, r1, r2⟩ := hp'
  have al : Z.vm.Alike P.U.vm := hZ.alike.trans X.warmed.alike
  obtain ⟨D, fV, fC, hB, F1, F2, g1, g2, -, -⟩ := strObj wi al E V C
  have hx : Txt x t A cd cs.length (fun j => cs.getD j 0) P.U := ⟨⟨_, hB.2.2.1, D, hB.1, rfl, by cases q : D.vm <;> first | rfl | exact absurd q (hB.2.1.2 _)⟩, Has.of hB F1 g1, Has.of hB F2 g2, ⟨K1.1, State.isArrayOf_alike al K1.2.1, K1.2.2, by rcases hcod with ⟨-, q, -⟩ | ⟨-, q, -⟩ <;> omega⟩, hcod, fun j hj => by
    have e : cs.getD j 0 = cs[j] := by simp [List.getD_eq_getElem?_getD, hj]
    show ¬ cs.getD j 0 < 0 ∧ ¬ 65535 < cs.getD j 0
    rw [e]; exact hb _ (List.getElem_mem _)⟩
  obtain ⟨v, B, X', ⟨⟨hv, hh⟩, hl, hk, hs⟩, st⟩ := Len.pays x t A cd cs.length (fun j => cs.getD j 0) z (tabLen_of (movedLen hZ hw)) hfr hlo m meth c P g ig mk _ X hg hsize hdg hW hn ⟨r1, r2, rfl, hx, sta_is al S, hz⟩
  exact ⟨v, B, X', ⟨[], ⟨hv, rfl, hh⟩, hl, hk, hs⟩, st⟩
end StrChars.Road
namespace StrChars
open Jvm Sem ClassFile Op Lib Jvm.Stand Jvm.Free.XT Jvm.Free.ALB Jvm.Free.JM Jvm.Free
open Jvm.Lib.Cold (StaticIs)
/-- what place i of a byte[]'s cell holds -/
def yv (A : Cell) (i : Nat) : Int32 := match A.slots[i]? with | some (.int x) => x | _ => 0
theorem yv_get {a : Addr} {A : Cell} {U : State} (h : XT.Arr .byte a A U) (ht : Typed .byte A) {i : Nat} (hi : i < A.slots.size) : A.slots[i]? = some (.int (yv A i)) := by
  have e := Array.getElem?_eq_getElem hi
  have f := ht i _ e
  unfold yv; rw [e]
  generalize A.slots[i] = v at f
  cases v <;> simp [fits] at f ⊢
/-- the two arrays are equal, place for place -/
def EqC (A B : Cell) : Prop := A.slots.size = B.slots.size ∧ ∀ i, i < A.slots.size → yv A i = yv B i
/-- a boolean that says whether p -/
def Says01 (q : Prop) (r : Option Value) (s u : State) : Prop := ∃ v : Int32, r = some (.int v) ∧ u.heap = s.heap ∧ ((v = 1 ∧ q) ∨ (v = 0 ∧ ¬ q))
theorem Says01.mv {q : Prop} : ∀ r (U U' V V' : State), U'.heap = U.heap → V.vm.Alike V'.vm → V'.heap = V.heap → Says01 q r U V → Says01 q r U' V' :=
  fun r U U' V V' h1 _ h2 ⟨v, a, b, c⟩ => ⟨v, a, by rw [h1, h2]; exact b, c⟩
namespace LEq
def yN : MethodName := ⟨"java/lang/StringLatin1", "equals", "([B[B)Z"⟩
abbrev yB : ByteArray := jdk_43_method_13_code
theorem d0 : decode yB 0 = .ok (.aload_n 0, 1) := by decide +kernel
theorem d1 : decode yB 1 = .ok (.arraylength, 1) := by decide +kernel
theorem d2 : decode yB 2 = .ok (.aload_n 1, 1) := by decide +kernel
theorem d3 : decode yB 3 = .ok (.arraylength, 1) := by decide +kernel
theorem d4 : decode yB 4 = .ok (.if_icmp (.ne) 30, 3) := by decide +kernel
theorem d7 : decode yB 7 = .ok (.iconst 0, 1) := by decide +kernel
theorem d8 : decode yB 8 = .ok (.istore_n 2, 1) := by decide +kernel
theorem d9 : decode yB 9 = .ok (.iload_n 2, 1) := by decide +kernel
theorem d10 : decode yB 10 = .ok (.aload_n 0, 1) := by decide +kernel
theorem d11 : decode yB 11 = .ok (.arraylength, 1) := by decide +kernel
theorem d12 : decode yB 12 = .ok (.if_icmp (.ge) 20, 3) := by decide +kernel
theorem d15 : decode yB 15 = .ok (.aload_n 0, 1) := by decide +kernel
theorem d16 : decode yB 16 = .ok (.iload_n 2, 1) := by decide +kernel
theorem d17 : decode yB 17 = .ok (.baload, 1) := by decide +kernel
theorem d18 : decode yB 18 = .ok (.aload_n 1, 1) := by decide +kernel
theorem d19 : decode yB 19 = .ok (.iload_n 2, 1) := by decide +kernel
theorem d20 : decode yB 20 = .ok (.baload, 1) := by decide +kernel
theorem d21 : decode yB 21 = .ok (.if_icmp (.eq) 5, 3) := by decide +kernel
theorem d24 : decode yB 24 = .ok (.iconst 0, 1) := by decide +kernel
theorem d25 : decode yB 25 = .ok (.ireturn, 1) := by decide +kernel
theorem d26 : decode yB 26 = .ok (.iinc 2 1, 3) := by decide +kernel
theorem d29 : decode yB 29 = .ok (.goto (-20), 3) := by decide +kernel
theorem d32 : decode yB 32 = .ok (.iconst 1, 1) := by decide +kernel
theorem d33 : decode yB 33 = .ok (.ireturn, 1) := by decide +kernel
theorem d34 : decode yB 34 = .ok (.iconst 0, 1) := by decide +kernel
theorem d35 : decode yB 35 = .ok (.ireturn, 1) := by decide +kernel
def site : List Cond := []
def tab : Cond := tabOf yN yB 3 (some .boolean) site
def P (a : Addr) (A : Cell) (b : Addr) (B : Cell) (args : Array Value) (s : State) : Prop := args = #[.ref a, .ref b] ∧ XT.Arr .byte a A s ∧ Typed .byte A ∧ XT.Arr .byte b B s ∧ Typed .byte B
/-- whether two byte[] are equal, place for place -/
theorem law (l : Launch) (a : Addr) (A : Cell) (b : Addr) (B : Cell) : Law l yN 2 2 0 0 yB 3 (some .boolean) site (P a A b B) (Says01 (EqC A B)) [] 0 0 := by
  refine Law.of_walk (plainFor_of_name (by decide +kernel)) (by decide +kernel) (by decide +kernel) (by decide) (fun _ _ h => by rw [h.1]; rfl) (fun _ U U' hal hh h => ⟨h.1, h.2.1.mv hal hh, h.2.2.1, h.2.2.2.1.mv hal hh, h.2.2.2.2⟩) (fun r U U' V V' h1 hal h2 h => Says01.mv r U U' V V' h1 hal h2 h) ?_
  intro p e s m args below meth c s₁ X0 hexec hbytes hml hret hlk hnm hown hh0 W hP
  obtain ⟨rfl, hA, tA, hB, tB⟩ := hP
  have a31 := hA.2.2.2
  have b31 := hB.2.2.2
  have hA0 := hA.mv X0.warmed.alike hh0
  have hB0 := hB.mv X0.warmed.alike hh0
  have c1 : Steps p.tables e below (s₁.setTop (entryFrame m #[.ref a, .ref b] 3)) (s₁.setTop (mkF m 0 #[.val (.ref a), .val (.ref b), .unset] [])) := entry rfl
  have c2 : Steps p.tables e below (s₁.setTop (entryFrame m #[.ref a, .ref b] 3)) (s₁.setTop (mkF m 4 #[.val (.ref a), .val (.ref b), .unset] [.int (Int32.ofNat B.slots.size), .int (Int32.ofNat A.slots.size)])) := c1.trans (by
    refine XS.aloadN X0.here hexec rfl (hb hbytes d0) rfl rfl ?_
    refine X0.alen hexec hA0 rfl rfl (hb hbytes d1) ?_
    refine XS.aloadN X0.here hexec rfl (hb hbytes d2) rfl rfl ?_
    refine X0.alen hexec hB0 rfl rfl (hb hbytes d3) ?_
    exact Steps.refl _)
  by_cases hs : A.slots.size = B.slots.size
  · have c3 : Steps p.tables e below (s₁.setTop (entryFrame m #[.ref a, .ref b] 3)) (s₁.setTop (mkF m 9 #[.val (.ref a), .val (.ref b), .val (.int 0)] [])) := c2.trans (by
      refine XS.icmpNo X0.here hexec rfl (hb hbytes d4) rfl (ii_ne_f (by rw [hs])) ?_
      refine iconstV X0.here hexec rfl 0 (hb hbytes d7) (by decide) ?_
      refine XS.istoreN X0.here hexec rfl (hb hbytes d8) rfl rfl ?_
      exact Steps.refl _)
    have loop : ∀ (r i : Nat), i + r = A.slots.size → (∀ j, j < i → yv A j = yv B j) → Steps p.tables e below (s₁.setTop (entryFrame m #[.ref a, .ref b] 3)) (s₁.setTop (mkF m 9 #[.val (.ref a), .val (.ref b), .val (.int (Int32.ofNat i))] [])) → ∃ (pc : Nat) (Ls : Array Slot) (v : Int32), (pc = 25 ∨ pc = 33) ∧ ((v = 1 ∧ EqC A B) ∨ (v = 0 ∧ ¬ EqC A B)) ∧ Steps p.tables e below (s₁.setTop (entryFrame m #[.ref a, .ref b] 3)) (s₁.setTop (mkF m pc Ls [.int v])) := by
      intro r
      induction r with
      | zero =>
        intro i hi he cl
        exact ⟨33, _, 1, Or.inr rfl, Or.inl ⟨rfl, hs, fun j hj => he j (by omega)⟩, cl.trans (by
          refine XS.iloadN X0.here hexec rfl (hb hbytes d9) rfl ?_
          refine XS.aloadN X0.here hexec rfl (hb hbytes d10) rfl rfl ?_
          refine X0.alen hexec hA0 rfl rfl (hb hbytes d11) ?_
          refine XS.icmpYes X0.here hexec rfl (pc0 := 12) rfl (hb hbytes d12) rfl (ii_ge_t (nlt32 (by omega) (by omega))) (by decide) rfl ?_
          refine iconstV X0.here hexec rfl 1 (hb hbytes d32) (by decide) ?_
          exact Steps.refl _)⟩
      | succ r ih =>
        intro i hi he cl
        have c4 : Steps p.tables e below (s₁.setTop (entryFrame m #[.ref a, .ref b] 3)) (s₁.setTop (mkF m 21 #[.val (.ref a), .val (.ref b), .val (.int (Int32.ofNat i))] [.int (yv B i), .int (yv A i)])) := cl.trans (by
          refine XS.iloadN X0.here hexec rfl (hb hbytes d9) rfl ?_
          refine XS.aloadN X0.here hexec rfl (hb hbytes d10) rfl rfl ?_
          refine X0.alen hexec hA0 rfl rfl (hb hbytes d11) ?_
          refine XS.icmpNo X0.here hexec rfl (hb hbytes d12) rfl (ii_ge_f (lt32 (by omega) (by omega))) ?_
          refine XS.aloadN X0.here hexec rfl (hb hbytes d15) rfl rfl ?_
          refine XS.iloadN X0.here hexec rfl (hb hbytes d16) rfl ?_
          refine X0.aget hexec hA0 rfl (yv_get hA tA (i := i) (by omega)) rfl rfl (hb hbytes d17) ?_
          refine XS.aloadN X0.here hexec rfl (hb hbytes d18) rfl rfl ?_
          refine XS.iloadN X0.here hexec rfl (hb hbytes d19) rfl ?_
          refine X0.aget hexec hB0 rfl (yv_get hB tB (i := i) (by omega)) rfl rfl (hb hbytes d20) ?_
          exact Steps.refl _)
        by_cases hv : yv A i = yv B i
        · have c5 : Steps p.tables e below (s₁.setTop (entryFrame m #[.ref a, .ref b] 3)) (s₁.setTop (mkF m 9 #[.val (.ref a), .val (.ref b), .val (.int (Int32.ofNat i + 1))] [])) := c4.trans (by
            refine XS.icmpYes X0.here hexec rfl (pc0 := 21) rfl (hb hbytes d21) rfl (ii_eq_t hv) (by decide) rfl ?_
            refine iincV X0.here hexec rfl 1 (hb hbytes d26) (by decide) rfl rfl ?_
            refine XS.goto X0.here hexec rfl (pc0 := 29) rfl (hb hbytes d29) (by decide) rfl ?_
            exact Steps.refl _)
          rw [succ32] at c5
          exact ih (i + 1) (by omega) (fun j hj => by
            by_cases e : j = i
            · rw [e]; exact hv
            · exact he j (by omega)) c5
        · exact ⟨25, _, 0, Or.inl rfl, Or.inr ⟨rfl, fun q => hv (q.2 i (by omega))⟩, c4.trans (by
            refine XS.icmpNo X0.here hexec rfl (hb hbytes d21) rfl (ii_eq_f hv) ?_
            refine iconstV X0.here hexec rfl 0 (hb hbytes d24) (by decide) ?_
            exact Steps.refl _)⟩
    obtain ⟨pc, Ls, v, hpc, hv, cz⟩ := loop A.slots.size 0 (by omega) (fun j hj => absurd hj (Nat.not_lt_zero j)) c3
    have nv : narrow .boolean (.int v) = .int v := by rcases hv with ⟨rfl, -⟩ | ⟨rfl, -⟩ <;> rfl
    rcases hpc with rfl | rfl
    · exact ⟨s₁, some (.int v), _, _, _, X0, rfl, rfl, rfl, (fun h => by cases h), ⟨v, rfl, hh0, hv⟩, fun fs hl => cz.trans (X0.ireturnOut hexec hret nv (Or.inr (Or.inl rfl)) (hb hbytes d25) hl)⟩
    · exact ⟨s₁, some (.int v), _, _, _, X0, rfl, rfl, rfl, (fun h => by cases h), ⟨v, rfl, hh0, hv⟩, fun fs hl => cz.trans (X0.ireturnOut hexec hret nv (Or.inr (Or.inl rfl)) (hb hbytes d33) hl)⟩
  · have c3 : Steps p.tables e below (s₁.setTop (entryFrame m #[.ref a, .ref b] 3)) (s₁.setTop (mkF m 35 #[.val (.ref a), .val (.ref b), .unset] [.int 0])) := c2.trans (by
      refine XS.icmpYes X0.here hexec rfl (pc0 := 4) rfl (hb hbytes d4) rfl (ii_ne_t (ne32 a31 b31 hs)) (by decide) rfl ?_
      refine iconstV X0.here hexec rfl 0 (hb hbytes d34) (by decide) ?_
      exact Steps.refl _)
    exact ⟨s₁, some (.int 0), _, _, _, X0, rfl, rfl, rfl, (fun h => by cases h), ⟨0, rfl, hh0, Or.inr ⟨rfl, fun q => hs q.1⟩⟩, fun fs hl => c3.trans (X0.ireturnOut hexec hret rfl (Or.inr (Or.inl rfl)) (hb hbytes d35) hl)⟩
end LEq
theorem Cod.ty {cd : Int32} {n : Nat} {f : Nat → Int32} {V : Cell} (h : Cod cd n f V) : Typed .byte V := fun i v hv => by
  have hi : i < V.slots.size := (Array.getElem?_eq_some_iff.mp hv).1
  rcases h with ⟨-, k1, k2⟩ | ⟨-, k1, k2, -⟩
  · rw [(k2 i (by omega)).1] at hv; cases hv; exact fits_lo8 _
  · rcases Nat.mod_two_eq_zero_or_one i with e | e
    · obtain ⟨j, rfl⟩ : ∃ j, i = 2 * j := ⟨i / 2, by omega⟩
      rw [(k2 j (by omega)).1] at hv; cases hv; exact fits_lo8 _
    · obtain ⟨j, rfl⟩ : ∃ j, i = 2 * j + 1 := ⟨i / 2, by omega⟩
      rw [(k2 j (by omega)).2] at hv; cases hv; exact fits_lo8 _
/-- the same text -/
def SameT (n : Nat) (f : Nat → Int32) (k : Nat) (g : Nat → Int32) : Prop := n = k ∧ ∀ j, j < n → f j = g j
theorem lo8_inj {x y : Int32} (h0 : ¬ x < 0) (h1 : ¬ 255 < x) (k0 : ¬ y < 0) (k1 : ¬ 255 < y) (h : lo8 x = lo8 y) : x = y := by
  rw [← lo8_mask h0 h1, ← lo8_mask k0 k1, h]
/-- arrays coded by one coder are equal just where the texts are -/
theorem Cod.eqv {cd : Int32} {n k : Nat} {f g : Nat → Int32} {V V' : Cell} (h : Cod cd n f V) (h' : Cod cd k g V') (hf : ∀ j, j < n → ¬ f j < 0 ∧ ¬ 65535 < f j) (hg : ∀ j, j < k → ¬ g j < 0 ∧ ¬ 65535 < g j) : EqC V V' ↔ SameT n f k g := by
  have yvv : ∀ {W : Cell} {i : Nat} {x : Int32}, W.slots[i]? = some (.int x) → yv W i = x := fun q => by unfold yv; rw [q]
  rcases h with ⟨rfl, k1, k2⟩ | ⟨rfl, k1, k2, -⟩
  · rcases h' with ⟨-, m1, m2⟩ | ⟨e, -⟩
    · constructor
      · rintro ⟨e1, e2⟩
        refine ⟨by omega, fun j hj => ?_⟩
        have q := e2 j (by omega)
        rw [yvv (k2 j hj).1, yvv (m2 j (by omega)).1] at q
        exact lo8_inj (hf j hj).1 (k2 j hj).2 (hg j (by omega)).1 (m2 j (by omega)).2 q
      · rintro ⟨rfl, e2⟩
        refine ⟨by omega, fun j hj => ?_⟩
        rw [yvv (k2 j (by omega)).1, yvv (m2 j (by omega)).1, e2 j (by omega)]
    · exact absurd e (by decide)
  · rcases h' with ⟨e, -⟩ | ⟨-, m1, m2, -⟩
    · exact absurd e (by decide)
    · constructor
      · rintro ⟨e1, e2⟩
        refine ⟨by omega, fun j hj => ?_⟩
        have q1 := e2 (2 * j) (by omega)
        have q2 := e2 (2 * j + 1) (by omega)
        rw [yvv (k2 j hj).1, yvv (m2 j (by omega)).1] at q1
        rw [yvv (k2 j hj).2, yvv (m2 j (by omega)).2] at q2
        rw [← pair_says (hf j hj).1 (hf j hj).2, ← pair_says (hg j (by omega)).1 (hg j (by omega)).2, q1, q2]
      · rintro ⟨rfl, e2⟩
        refine ⟨by omega, fun i hi => ?_⟩
        rcases Nat.mod_two_eq_zero_or_one i with e | e
        · obtain ⟨j, rfl⟩ : ∃ j, i = 2 * j := ⟨i / 2, by omega⟩
          rw [yvv (k2 j (by omega)).1, yvv (m2 j (by omega)).1, e2 j (by omega)]
        · obtain ⟨j, rfl⟩ : ∃ j, i = 2 * j + 1 := ⟨i / 2, by omega⟩
          rw [yvv (k2 j (by omega)).2, yvv (m2 j (by omega)).2, e2 j (by omega)]
/-- two codings differ: so do the texts -/
theorem Cod.dif {cd cd' : Int32} {n k : Nat} {f g : Nat → Int32} {V V' : Cell} (h : Cod cd n f V) (h' : Cod cd' k g V') (hne : ¬ cd = cd') : ¬ SameT n f k g := by
  rintro ⟨rfl, e⟩
  rcases h with ⟨rfl, -, k2⟩ | ⟨rfl, -, -, j, hj, hw⟩
  · rcases h' with ⟨rfl, -⟩ | ⟨-, -, -, j, hj, hw⟩
    · exact hne rfl
    · exact (k2 j hj).2 (by rw [e j hj]; exact hw)
  · rcases h' with ⟨-, -, m2⟩ | ⟨rfl, -⟩
    · exact (m2 j hj).2 (by rw [← e j hj]; exact hw)
    · exact hne rfl
/-- an object of exactly C is an instance of C -/
theorem cinst {p : Program} {l : Launch} {e : Env} {R : Room} {s : State} {m : MethodId} {args : Array Value} {below : List Frame} {meth : Method} {c : Code} {T : State} {locs : List Loc} {cells slots : Nat} (X : Stand p l e R s m args below meth c T locs cells slots) (hexec : p.tables.exec = Jvm.exec) {own C : String} {index : Nat} (hown : s.vm.findClass own = some m.cls) (hlink : (Cond.classLink own index C).before args s = true) {a : Addr} (hE : Exact C a T)
    {g : JFrame} (hg : g.method = m) {rest : List Value} (hstack : g.stack = .ref a :: rest) (hdg : decode c.code g.pc = .ok (.instanceof index, 3)) :
    ∃ T', Stand p l e R s m args below meth c T' locs cells slots ∧ T'.heap = T.heap ∧ ∀ target, Steps p.tables e below (T'.setTop { g with pc := g.pc + 3, stack := .int 1 :: rest }) target → Steps p.tables e below (T.setTop g) target := by
  obtain ⟨cB, h1, D, h2, h3, h4⟩ := hE
  have h1' : s.vm.findClass C = some cB := by rw [← X.warmed.alike.findClass]; exact h1
  obtain ⟨vm', X', st⟩ := X.instanceofYes hexec hown hlink h2 h4 h1' (by rw [h3]; exact Jvm.Free.SB.assignable_self _ _) hg hstack hdg
  exact ⟨_, X', rfl, st⟩
theorem cself {p : Program} {l : Launch} {e : Env} {R : Room} {s : State} {m : MethodId} {args : Array Value} {below : List Frame} {meth : Method} {c : Code} {T : State} {locs : List Loc} {cells slots : Nat} (X : Stand p l e R s m args below meth c T locs cells slots) (hexec : p.tables.exec = Jvm.exec) {own C : String} {index : Nat} (hown : s.vm.findClass own = some m.cls) (hlink : (Cond.classLink own index C).before args s = true) {a : Addr} (hE : Exact C a T)
    {g : JFrame} (hg : g.method = m) {rest : List Value} (hstack : g.stack = .ref a :: rest) (hdg : decode c.code g.pc = .ok (.checkcast index, 3)) :
    ∃ T', Stand p l e R s m args below meth c T' locs cells slots ∧ T'.heap = T.heap ∧ ∀ target, Steps p.tables e below (T'.setTop { g with pc := g.pc + 3, stack := .ref a :: rest }) target → Steps p.tables e below (T.setTop g) target := by
  obtain ⟨cB, h1, D, h2, h3, h4⟩ := hE
  have h1' : s.vm.findClass C = some cB := by rw [← X.warmed.alike.findClass]; exact h1
  obtain ⟨vm', X', st⟩ := X.checkcastYes hexec hown hlink h2 h4 h1' (by rw [h3]; exact Jvm.Free.SB.assignable_self _ _) hg hstack hdg
  exact ⟨_, X', rfl, fun t h => st t (by rw [← hstack] at h; exact h)⟩
namespace SEq
def yN : MethodName := ⟨"java/lang/String", "equals", "(Ljava/lang/Object;)Z"⟩
abbrev yB : ByteArray := jdk_42_method_66_code
theorem d0 : decode yB 0 = .ok (.aload_n 0, 1) := by decide +kernel
theorem d1 : decode yB 1 = .ok (.aload_n 1, 1) := by decide +kernel
theorem d2 : decode yB 2 = .ok (.if_acmp (.ne) 5, 3) := by decide +kernel
theorem d5 : decode yB 5 = .ok (.iconst 1, 1) := by decide +kernel
theorem d6 : decode yB 6 = .ok (.ireturn, 1) := by decide +kernel
theorem d7 : decode yB 7 = .ok (.aload_n 1, 1) := by decide +kernel
theorem d8 : decode yB 8 = .ok (.instanceof 10, 3) := by decide +kernel
theorem d11 : decode yB 11 = .ok (.ifCond (.eq) 43, 3) := by decide +kernel
theorem d14 : decode yB 14 = .ok (.aload_n 1, 1) := by decide +kernel
theorem d15 : decode yB 15 = .ok (.checkcast 10, 3) := by decide +kernel
theorem d18 : decode yB 18 = .ok (.astore_n 2, 1) := by decide +kernel
theorem d19 : decode yB 19 = .ok (.getstatic 38, 3) := by decide +kernel
theorem d22 : decode yB 22 = .ok (.ifCond (.eq) 14, 3) := by decide +kernel
theorem d25 : decode yB 25 = .ok (.aload_n 0, 1) := by decide +kernel
theorem d26 : decode yB 26 = .ok (.getfield 15, 3) := by decide +kernel
theorem d29 : decode yB 29 = .ok (.aload_n 2, 1) := by decide +kernel
theorem d30 : decode yB 30 = .ok (.getfield 15, 3) := by decide +kernel
theorem d33 : decode yB 33 = .ok (.if_icmp (.ne) 21, 3) := by decide +kernel
theorem d36 : decode yB 36 = .ok (.aload_n 0, 1) := by decide +kernel
theorem d37 : decode yB 37 = .ok (.getfield 9, 3) := by decide +kernel
theorem d40 : decode yB 40 = .ok (.aload_n 2, 1) := by decide +kernel
theorem d41 : decode yB 41 = .ok (.getfield 9, 3) := by decide +kernel
theorem d44 : decode yB 44 = .ok (.invokestatic 541, 3) := by decide +kernel
theorem d47 : decode yB 47 = .ok (.ifCond (.eq) 7, 3) := by decide +kernel
theorem d50 : decode yB 50 = .ok (.iconst 1, 1) := by decide +kernel
theorem d51 : decode yB 51 = .ok (.goto 4, 3) := by decide +kernel
theorem d54 : decode yB 54 = .ok (.iconst 0, 1) := by decide +kernel
theorem d55 : decode yB 55 = .ok (.ireturn, 1) := by decide +kernel
def site : List Cond := [.classLink "java/lang/String" 10 "java/lang/String", .fieldLink "java/lang/String" 38 "java/lang/String" "COMPACT_STRINGS" "Z", .fieldLink "java/lang/String" 15 "java/lang/String" "coder" "B", .fieldLink "java/lang/String" 9 "java/lang/String" "value" "[B", LEq.tab] ++ staticW "java/lang/String" 541 LEq.yN
def tab : Cond := tabOf yN yB 3 (some .boolean) site
def P (x t : Addr) (V : Cell) (cd : Int32) (n : Nat) (f : Nat → Int32) (y t' : Addr) (V' : Cell) (cd' : Int32) (k : Nat) (g : Nat → Int32) (z : Int32) (args : Array Value) (s : State) : Prop := args = #[.ref x, .ref y] ∧ Txt x t V cd n f s ∧ Txt y t' V' cd' k g s ∧ StaticIs s "java/lang/String" "COMPACT_STRINGS" "Z" (.int z) ∧ ¬ z = 0
/-- equals(Object) of two Strings: whether the texts are the same -/
theorem law (l : Launch) (x t : Addr) (V : Cell) (cd : Int32) (n : Nat) (f : Nat → Int32) (y t' : Addr) (V' : Cell) (cd' : Int32) (k : Nat) (g : Nat → Int32) (z : Int32) : Law l yN 2 1 1 14 yB 3 (some .boolean) site (P x t V cd n f y t' V' cd' k g z) (Says01 (SameT n f k g)) [] 0 0 := by
  refine Law.of_walk (plainFor_of_name (by decide +kernel)) (by decide +kernel) (by decide +kernel) (by decide) (fun _ _ h => by rw [h.1]; rfl) (fun _ U U' hal hh h => ⟨h.1, h.2.1.mv hal hh, h.2.2.1.mv hal hh, h.2.2.2.1.there hal hh, h.2.2.2.2⟩) (fun r U U' V V' h1 hal h2 h => Says01.mv r U U' V V' h1 hal h2 h) ?_
  intro p e s m args below meth c s₁ X0 hexec hbytes hml hret hlk hnm hown hh0 W hP
  obtain ⟨rfl, hx, hy, s1, hz⟩ := hP
  have c1 : Steps p.tables e below (s₁.setTop (entryFrame m #[.ref x, .ref y] 3)) (s₁.setTop (mkF m 2 #[.val (.ref x), .val (.ref y), .unset] [.ref y, .ref x])) := Steps.trans (entry rfl) (by
    show Steps p.tables e below (s₁.setTop (mkF m 0 #[.val (.ref x), .val (.ref y), .unset] [])) _
    refine XS.aloadN X0.here hexec rfl (hb hbytes d0) rfl rfl ?_
    refine XS.aloadN X0.here hexec rfl (hb hbytes d1) rfl rfl ?_
    exact Steps.refl _)
  by_cases hxy : x = y
  · have c2 : Steps p.tables e below (s₁.setTop (entryFrame m #[.ref x, .ref y] 3)) (s₁.setTop (mkF m 6 #[.val (.ref x), .val (.ref y), .unset] [.int 1])) := c1.trans (by
      refine acmpNo X0.here hexec rfl (hb hbytes d2) rfl rfl rfl (by simp [acmp, hxy]) ?_
      refine iconstV X0.here hexec rfl 1 (hb hbytes d5) (by decide) ?_
      exact Steps.refl _)
    subst hxy
    have ec : cd = cd' := by
      obtain ⟨D, fd, a1, a2, a3⟩ := hx.2.2.1
      obtain ⟨D', fd', b1, b2, b3⟩ := hy.2.2.1
      cases a1.symm.trans b1
      obtain ⟨q1, q2, q3, q4⟩ := a2.1
      obtain ⟨r1, r2, r3, r4⟩ := b2.1
      cases q4.symm.trans r4
      cases a3.symm.trans b3; rfl
    have et : t = t' := by
      obtain ⟨D, fd, a1, a2, a3⟩ := hx.2.1
      obtain ⟨D', fd', b1, b2, b3⟩ := hy.2.1
      cases a1.symm.trans b1
      obtain ⟨q1, q2, q3, q4⟩ := a2.1
      obtain ⟨r1, r2, r3, r4⟩ := b2.1
      cases q4.symm.trans r4
      cases a3.symm.trans b3; rfl
    subst ec et
    have ev : V = V' := by cases hx.2.2.2.1.1.symm.trans hy.2.2.2.1.1; rfl
    subst ev
    have hs : SameT n f k g := (Cod.eqv hx.2.2.2.2.1 hy.2.2.2.2.1 hx.2.2.2.2.2 hy.2.2.2.2.2).mp ⟨rfl, fun _ _ => rfl⟩
    exact ⟨s₁, some (.int 1), _, _, _, X0, rfl, rfl, rfl, (fun h => by cases h), ⟨1, rfl, hh0, Or.inl ⟨rfl, hs⟩⟩, fun fs hl => c2.trans (X0.ireturnOut hexec hret rfl (Or.inr (Or.inl rfl)) (hb hbytes d6) hl)⟩
  · have c2 : Steps p.tables e below (s₁.setTop (entryFrame m #[.ref x, .ref y] 3)) (s₁.setTop (mkF m 8 #[.val (.ref x), .val (.ref y), .unset] [.ref y])) := c1.trans (by
      refine acmpYes X0.here hexec rfl (pc0 := 2) rfl (hb hbytes d2) rfl rfl rfl (by simp [acmp, hxy]) (by decide) rfl ?_
      refine XS.aloadN X0.here hexec rfl (hb hbytes d7) rfl rfl ?_
      exact Steps.refl _)
    obtain ⟨T3, X3, q3, st3⟩ := cinst X0 hexec hown (wk W (.classLink "java/lang/String" 10 "java/lang/String")) (hy.mv X0.warmed.alike hh0).1 (g := (mkF m 8 #[.val (.ref x), .val (.ref y), .unset] [.ref y])) rfl (rest := []) rfl (hb hbytes d8)
    have hh3 := q3.trans hh0
    have c4 : Steps p.tables e below (s₁.setTop (entryFrame m #[.ref x, .ref y] 3)) (T3.setTop (mkF m 15 #[.val (.ref x), .val (.ref y), .unset] [.ref y])) := (c2.trans (st3 _ (Steps.refl _))).trans (by
      refine XS.ifNo X3.here hexec rfl (hb hbytes d11) rfl (i0_eq_f (by decide)) ?_
      refine XS.aloadN X3.here hexec rfl (hb hbytes d14) rfl rfl ?_
      exact Steps.refl _)
    obtain ⟨T5, X5, q5, st5⟩ := cself X3 hexec hown (wk W (.classLink "java/lang/String" 10 "java/lang/String")) (hy.mv X3.warmed.alike hh3).1 (g := (mkF m 15 #[.val (.ref x), .val (.ref y), .unset] [.ref y])) rfl (rest := []) rfl (hb hbytes d15)
    have hh5 := q5.trans hh3
    have c6 : Steps p.tables e below (s₁.setTop (entryFrame m #[.ref x, .ref y] 3)) (T5.setTop (mkF m 19 #[.val (.ref x), .val (.ref y), .val (.ref y)] [])) := (c4.trans (st5 _ (Steps.refl _))).trans (by
      refine XS.astoreN X5.here hexec rfl (hb hbytes d18) rfl rfl rfl ?_
      exact Steps.refl _)
    obtain ⟨T7, X7, q7, st7⟩ := X5.sget hexec hown (wk W (.fieldLink "java/lang/String" 38 "java/lang/String" "COMPACT_STRINGS" "Z")) s1 (fun _ _ h => by rw [hh5]; exact h) (g := (mkF m 19 #[.val (.ref x), .val (.ref y), .val (.ref y)] [])) rfl (hb hbytes d19)
    have hh7 := q7.trans hh5
    have c8 : Steps p.tables e below (s₁.setTop (entryFrame m #[.ref x, .ref y] 3)) (T7.setTop (mkF m 26 #[.val (.ref x), .val (.ref y), .val (.ref y)] [.ref x])) := (c6.trans (st7 _ (Steps.refl _))).trans (by
      refine XS.ifNo X7.here hexec rfl (hb hbytes d22) rfl (i0_eq_f hz) ?_
      refine XS.aloadN X7.here hexec rfl (hb hbytes d25) rfl rfl ?_
      exact Steps.refl _)
    obtain ⟨T9, X9, q9, st9⟩ := X7.hget hexec hown (wk W (.fieldLink "java/lang/String" 15 "java/lang/String" "coder" "B")) (hx.mv X7.warmed.alike hh7).2.2.1 (g := (mkF m 26 #[.val (.ref x), .val (.ref y), .val (.ref y)] [.ref x])) rfl (rest := []) rfl (hb hbytes d26)
    have hh9 := q9.trans hh7
    have c10 : Steps p.tables e below (s₁.setTop (entryFrame m #[.ref x, .ref y] 3)) (T9.setTop (mkF m 30 #[.val (.ref x), .val (.ref y), .val (.ref y)] [.ref y, .int cd])) := (c8.trans (st9 _ (Steps.refl _))).trans (by
      refine XS.aloadN X9.here hexec rfl (hb hbytes d29) rfl rfl ?_
      exact Steps.refl _)
    obtain ⟨T11, X11, q11, st11⟩ := X9.hget hexec hown (wk W (.fieldLink "java/lang/String" 15 "java/lang/String" "coder" "B")) (hy.mv X9.warmed.alike hh9).2.2.1 (g := (mkF m 30 #[.val (.ref x), .val (.ref y), .val (.ref y)] [.ref y, .int cd])) rfl (rest := [.int cd]) rfl (hb hbytes d30)
    have hh11 := q11.trans hh9
    have c12 : Steps p.tables e below (s₁.setTop (entryFrame m #[.ref x, .ref y] 3)) (T11.setTop (mkF m 33 #[.val (.ref x), .val (.ref y), .val (.ref y)] [.int cd', .int cd])) := c10.trans (st11 _ (Steps.refl _))
    by_cases hcd : cd = cd'
    · subst hcd
      have c13 : Steps p.tables e below (s₁.setTop (entryFrame m #[.ref x, .ref y] 3)) (T11.setTop (mkF m 37 #[.val (.ref x), .val (.ref y), .val (.ref y)] [.ref x])) := c12.trans (by
        refine XS.icmpNo X11.here hexec rfl (hb hbytes d33) rfl (ii_ne_f rfl) ?_
        refine XS.aloadN X11.here hexec rfl (hb hbytes d36) rfl rfl ?_
        exact Steps.refl _)
      obtain ⟨T14, X14, q14, st14⟩ := X11.hget hexec hown (wk W (.fieldLink "java/lang/String" 9 "java/lang/String" "value" "[B")) (hx.mv X11.warmed.alike hh11).2.1 (g := (mkF m 37 #[.val (.ref x), .val (.ref y), .val (.ref y)] [.ref x])) rfl (rest := []) rfl (hb hbytes d37)
      have hh14 := q14.trans hh11
      have c15 : Steps p.tables e below (s₁.setTop (entryFrame m #[.ref x, .ref y] 3)) (T14.setTop (mkF m 41 #[.val (.ref x), .val (.ref y), .val (.ref y)] [.ref y, .ref t])) := (c13.trans (st14 _ (Steps.refl _))).trans (by
        refine XS.aloadN X14.here hexec rfl (hb hbytes d40) rfl rfl ?_
        exact Steps.refl _)
      obtain ⟨T16, X16, q16, st16⟩ := X14.hget hexec hown (wk W (.fieldLink "java/lang/String" 9 "java/lang/String" "value" "[B")) (hy.mv X14.warmed.alike hh14).2.1 (g := (mkF m 41 #[.val (.ref x), .val (.ref y), .val (.ref y)] [.ref y, .ref t])) rfl (rest := [.ref t]) rfl (hb hbytes d41)
      have hh16 := q16.trans hh14
      have c17 : Steps p.tables e below (s₁.setTop (entryFrame m #[.ref x, .ref y] 3)) (T16.setTop (mkF m 44 #[.val (.ref x), .val (.ref y), .val (.ref y)] [.ref t', .ref t])) := c15.trans (st16 _ (Steps.refl _))
      obtain ⟨v18, T18, X18, E18, g18⟩ := X16.callS hexec (LEq.law l t V t' V') hown (wks W (staticW "java/lang/String" 541 LEq.yN)) (wk W LEq.tab) (W := 0) (Nat.le_of_ble_eq_true rfl) (Nat.le_of_ble_eq_true rfl) (Nat.le_refl _) (Nat.le_refl _) (g := (mkF m 44 #[.val (.ref x), .val (.ref y), .val (.ref y)] [.ref t', .ref t])) rfl (by rw [hml]; rfl) c17 (argsL := [.ref t, .ref t']) (rest := []) rfl rfl (by show 2 * 0 + 0 ≤ _; decide) (hb hbytes d44) (⟨rfl, hx.2.2.2.1.mv X16.warmed.alike hh16, hx.2.2.2.2.1.ty, hy.2.2.2.1.mv X16.warmed.alike hh16, hy.2.2.2.2.1.ty⟩)
      obtain ⟨v, rfl, q18, hv⟩ := E18
      have iff := Cod.eqv hx.2.2.2.2.1 hy.2.2.2.2.1 hx.2.2.2.2.2 hy.2.2.2.2.2
      rcases hv with ⟨rfl, he⟩ | ⟨rfl, he⟩
      · have c19 : Steps p.tables e below (s₁.setTop (entryFrame m #[.ref x, .ref y] 3)) (T18.setTop (mkF m 55 #[.val (.ref x), .val (.ref y), .val (.ref y)] [.int 1])) := Steps.trans g18 (by
          refine XS.ifNo X18.here hexec rfl (hb hbytes d47) rfl (i0_eq_f (by decide)) ?_
          refine iconstV X18.here hexec rfl 1 (hb hbytes d50) (by decide) ?_
          refine XS.goto X18.here hexec rfl (pc0 := 51) rfl (hb hbytes d51) (by decide) rfl ?_
          exact Steps.refl _)
        exact ⟨T18, some (.int 1), _, _, _, X18, rfl, rfl, rfl, (fun h => by cases h), ⟨1, rfl, q18.trans hh16, Or.inl ⟨rfl, iff.mp he⟩⟩, fun fs hl => c19.trans (X18.ireturnOut hexec hret rfl (Or.inr (Or.inl rfl)) (hb hbytes d55) hl)⟩
      · have c19 : Steps p.tables e below (s₁.setTop (entryFrame m #[.ref x, .ref y] 3)) (T18.setTop (mkF m 55 #[.val (.ref x), .val (.ref y), .val (.ref y)] [.int 0])) := Steps.trans g18 (by
          refine XS.ifYes X18.here hexec rfl (pc0 := 47) rfl (hb hbytes d47) rfl (i0_eq_t rfl) (by decide) rfl ?_
          refine iconstV X18.here hexec rfl 0 (hb hbytes d54) (by decide) ?_
          exact Steps.refl _)
        exact ⟨T18, some (.int 0), _, _, _, X18, rfl, rfl, rfl, (fun h => by cases h), ⟨0, rfl, q18.trans hh16, Or.inr ⟨rfl, fun q => he (iff.mpr q)⟩⟩, fun fs hl => c19.trans (X18.ireturnOut hexec hret rfl (Or.inr (Or.inl rfl)) (hb hbytes d55) hl)⟩
    · have c13 : Steps p.tables e below (s₁.setTop (entryFrame m #[.ref x, .ref y] 3)) (T11.setTop (mkF m 55 #[.val (.ref x), .val (.ref y), .val (.ref y)] [.int 0])) := c12.trans (by
        refine XS.icmpYes X11.here hexec rfl (pc0 := 33) rfl (hb hbytes d33) rfl (ii_ne_t hcd) (by decide) rfl ?_
        refine iconstV X11.here hexec rfl 0 (hb hbytes d54) (by decide) ?_
        exact Steps.refl _)
      exact ⟨T11, some (.int 0), _, _, _, X11, rfl, rfl, rfl, (fun h => by cases h), ⟨0, rfl, hh11, Or.inr ⟨rfl, Cod.dif hx.2.2.2.2.1 hy.2.2.2.2.1 hcd⟩⟩, fun fs hl => c13.trans (X11.ireturnOut hexec hret rfl (Or.inr (Or.inl rfl)) (hb hbytes d55) hl)⟩
theorem pays {l : Launch} {R : Room} {p : Program} {e : Env} {below : List Frame} {s : State} {sargs : Array Value} {len W : Nat} (x t : Addr) (V : Cell) (cd : Int32) (n : Nat) (f : Nat → Int32) (y t' : Addr) (V' : Cell) (cd' : Int32) (k : Nat) (g : Nat → Int32) (z : Int32) (htab : tab.before sargs s = true) (hfr : 2 ≤ R.frames) (hlo : W + 28 ≤ R.locals) :
    Back l R p e below s sargs yN len W (fun A₁ a₁ => A₁.cells + 0 ≤ R.cells ∧ A₁.slots + 0 ≤ R.slots ∧ P x t V cd n f y t' V' cd' k g z a₁ A₁.U) (fun A₁ _ v₁ B₁ => Says01 (SameT n f k g) v₁ A₁.U B₁.U ∧ B₁.locs = A₁.locs ++ [] ∧ B₁.cells = A₁.cells + 0 ∧ B₁.slots = A₁.slots + 0) :=
  (law l x t V cd n f y t' V' cd' k g z).pays htab hfr (by omega)
end SEq
end StrChars
namespace StrChars.Road
open Jvm Sem ClassFile Op Lib Jvm.Stand Jvm.Free Jvm.Free.XT
open Jvm.Lib.Cold (StaticIs)
/-- the words of String.equals(Object) -/
abbrev wordsEq : List Jvm.Cond := [.code SEq.yN SEq.yB 3 (some .boolean), .initialized ST, .classLink ST 10 ST, .fieldLink ST 38 ST "COMPACT_STRINGS" "Z", .fieldLink ST 15 ST "coder" "B", .fieldLink ST 9 ST "value" "[B", .methodLink ST 541 LEq.yN, .static LEq.yN, .code LEq.yN LEq.yB 3 (some .boolean), .initialized "java/lang/StringLatin1"]
theorem tabEq_of {a : Array Value} {s : State} (h : ∀ w ∈ wordsEq, w.before a s = true) : SEq.tab.before a s = true := by
  have hl : LEq.tab.before a s = true := unparts (wk h (.code LEq.yN LEq.yB 3 (some .boolean))) (wks h (.initialized LEq.yN.cls :: LEq.site))
  have q := consq hl h
  exact unparts (wk q (.code SEq.yN SEq.yB 3 (some .boolean))) (wks q (.initialized SEq.yN.cls :: SEq.site))
theorem movedEq {Z s : State} {a0 args : Array Value} (hZ : Z.Warmed39 s.vm) (hw : ∀ d ∈ wordsEq, d.before a0 Z = true) : ∀ d ∈ wordsEq, d.before args s = true := fun d hd => by
  have t : ∀ d ∈ wordsEq, (d.onTables && d.keepsFace) = true := by decide +kernel
  exact RoadKit.mv hZ (hw d hd) (t d hd)
/-- the road's facts of a String, as the laws ask it -/
theorem txt_of {Z U : State} {a0 : Array Value} {kI : Nat} (wi : (Jvm.Cond.instantiable ST kI).before a0 Z = true) (al : Z.vm.Alike U.vm) {x t : Addr} {kb : ClassId} {cs : List Int32} {cd N2 : Int32} {vs : List Value} (E : RoadKit.Exa Z U.heap x ST) (V : RoadKit.Fld Z U.heap x ST "value" "[B" (.ref t)) (C : RoadKit.Fld Z U.heap x ST "coder" "B" (.int cd)) (K : RoadKit.Arv Z U.heap t kb .byte N2 vs (.int 0)) (hc : CodA cs cd N2 vs) (hb : ∀ c ∈ cs, ¬ c < 0 ∧ ¬ (65535 : Int32) < c) (l2 : cs.length ≤ 4000) :
    ∃ A, Txt x t A cd cs.length (fun j => cs.getD j 0) U := by
  obtain ⟨A, K1, K2, K3, K4, K5, K6⟩ := K
  have hcod := hc.cod (by omega) K3 K5
  obtain ⟨D, fV, fC, hB, F1, F2, g1, g2, -, -⟩ := strObj wi al E V C
  exact ⟨A, ⟨_, hB.2.2.1, D, hB.1, rfl, by cases q : D.vm <;> first | rfl | exact absurd q (hB.2.1.2 _)⟩, Has.of hB F1 g1, Has.of hB F2 g2, ⟨K1.1, State.isArrayOf_alike al K1.2.1, K1.2.2, by rcases hcod with ⟨-, q, -⟩ | ⟨-, q, -⟩ <;> omega⟩, hcod, fun j hj => by
    have e : cs.getD j 0 = cs[j] := by simp [List.getD_eq_getElem?_getD, hj]
    show ¬ cs.getD j 0 < 0 ∧ ¬ 65535 < cs.getD j 0
    rw [e]; exact hb _ (List.getElem_mem _)⟩
theorem same_list (cs ds : List Int32) : SameT cs.length (fun j => cs.getD j 0) ds.length (fun j => ds.getD j 0) ↔ cs = ds := by
  constructor
  · rintro ⟨e, q⟩
    refine List.ext_getElem e fun j h1 h2 => ?_
    have := q j h1
    simpa [List.getD_eq_getElem?_getD, h1, h2] using this
  · rintro rfl
    exact ⟨rfl, fun _ _ => rfl⟩
/-- **equals(Object) OF TWO SUCH STRINGS**: 1 just where the chars are the same -/
theorem eqW {p : Program} {l : Launch} {e : Env} {R : Room} {s : State} {args : Array Value} {below : List Frame} {len W : Nat} {Z : State} {a0 : Array Value} {h : Heap} (hZ : Z.Warmed39 s.vm) (hw : ∀ d ∈ wordsEq, d.before a0 Z = true) {kI : Nat} (wi : (Jvm.Cond.instantiable ST kI).before a0 Z = true)
    {x t : Addr} {kb : ClassId} {cs : List Int32} {cd N2 : Int32} {vs : List Value} (E : RoadKit.Exa Z h x ST) (V : RoadKit.Fld Z h x ST "value" "[B" (.ref t)) (C : RoadKit.Fld Z h x ST "coder" "B" (.int cd)) (K : RoadKit.Arv Z h t kb .byte N2 vs (.int 0)) (hc : CodA cs cd N2 vs) (hb : ∀ c ∈ cs, ¬ c < 0 ∧ ¬ (65535 : Int32) < c) (l2 : cs.length ≤ 4000)
    {y t' : Addr} {kb' : ClassId} {ds : List Int32} {cd' N2' : Int32} {vs' : List Value} (E' : RoadKit.Exa Z h y ST) (V' : RoadKit.Fld Z h y ST "value" "[B" (.ref t')) (C' : RoadKit.Fld Z h y ST "coder" "B" (.int cd')) (K' : RoadKit.Arv Z h t' kb' .byte N2' vs' (.int 0)) (hc' : CodA ds cd' N2' vs') (hb' : ∀ c ∈ ds, ¬ c < 0 ∧ ¬ (65535 : Int32) < c) (l2' : ds.length ≤ 4000)
    {z : Int32} (S : RoadKit.Sta Z h ST "COMPACT_STRINGS" "Z" (.int z)) (hz : ¬ z = 0) (hfr : 2 ≤ R.frames) (hlo : W + 28 ≤ R.locals) :
    Back l R p e below s args (⟨"java/lang/String", "equals", "(Ljava/lang/Object;)Z"⟩ : MethodName) len W (fun P a => a = #[.ref x, .ref y] ∧ P.U.heap = h ∧ P.cells + 0 ≤ R.cells ∧ P.slots + 0 ≤ R.slots)
      (fun P _ v B => ∃ L, (((v = some (.int 1) ∧ cs = ds) ∨ (v = some (.int 0) ∧ ¬ cs = ds)) ∧ L = [] ∧ B.U.heap = h) ∧ B.locs = P.locs ++ L ∧ B.cells = P.cells + 0 ∧ B.slots = P.slots + 0) := by
  intro m meth c P g ig mk a X hg hsize hdg hW hn hp'
  obtain ⟨rfl, rfl, r1, r2⟩ := hp'
  have al : Z.vm.Alike P.U.vm := hZ.alike.trans X.warmed.alike
  obtain ⟨A, hx⟩ := txt_of wi al E V C K hc hb l2
  obtain ⟨A', hy⟩ := txt_of wi al E' V' C' K' hc' hb' l2'
  obtain ⟨v, B, X', ⟨⟨w, hv, hh, hq⟩, hl, hk, hs⟩, st⟩ := SEq.pays x t A cd cs.length (fun j => cs.getD j 0) y t' A' cd' ds.length (fun j => ds.getD j 0) z (tabEq_of (movedEq hZ hw)) hfr hlo m meth c P g ig mk _ X hg hsize hdg hW hn ⟨r1, r2, rfl, hx, hy, sta_is al S, hz⟩
  refine ⟨v, B, X', ⟨[], ⟨?_, rfl, hh⟩, hl, hk, hs⟩, st⟩
  rcases hq with ⟨rfl, q⟩ | ⟨rfl, q⟩
  · exact Or.inl ⟨hv, (same_list cs ds).mp q⟩
  · exact Or.inr ⟨hv, fun e => q ((same_list cs ds).mpr e)⟩
end StrChars.Road
namespace StrChars
open Jvm Sem ClassFile Op Lib Jvm.Stand Jvm.Free.XT Jvm.Free.ALB Jvm.Free.JM Jvm.Free
open Jvm.Lib.Cold (StaticIs)
namespace ChN
def yN : MethodName := ⟨"java/lang/String", "charAt", "(I)C"⟩
abbrev yB : ByteArray := jdk_42_method_56_code
theorem d0 : decode yB 0 = .ok (.aload_n 0, 1) := by decide +kernel
theorem d1 : decode yB 1 = .ok (.invokevirtual 492, 3) := by decide +kernel
theorem d4 : decode yB 4 = .ok (.ifCond (.eq) 12, 3) := by decide +kernel
theorem d7 : decode yB 7 = .ok (.aload_n 0, 1) := by decide +kernel
theorem d8 : decode yB 8 = .ok (.getfield 9, 3) := by decide +kernel
theorem d11 : decode yB 11 = .ok (.iload_n 1, 1) := by decide +kernel
theorem d12 : decode yB 12 = .ok (.invokestatic 495, 3) := by decide +kernel
theorem d15 : decode yB 15 = .ok (.ireturn, 1) := by decide +kernel
def site : List Cond := [.fieldLink "java/lang/String" 9 "java/lang/String" "value" "[B", IsL.tab, LChA.tab] ++ virtW "java/lang/String" 492 "java/lang/String" IsL.yN IsL.yN ++ staticW "java/lang/String" 495 LChA.yN
def tab : Cond := tabOf yN yB 2 (some .char) site
def P (x t : Addr) (V : Cell) (n : Nat) (f : Nat → Int32) (z : Int32) (fm : Value) (i : Nat) (args : Array Value) (s : State) : Prop := args = #[.ref x, .int (Int32.ofNat i)] ∧ Txt x t V 0 n f s ∧ i < n ∧ StaticIs s "java/lang/String" "COMPACT_STRINGS" "Z" (.int z) ∧ ¬ z = 0 ∧ StaticIs s "jdk/internal/util/Preconditions" "SIOOBE_FORMATTER" "Ljava/util/function/BiFunction;" fm ∧ fm.isRef = true
def E (f : Nat → Int32) (i : Nat) (r : Option Value) (s u : State) : Prop := XT.PureE (some (.int (f i))) r s u
/-- charAt(i) of a Latin-1 String of n chars, i < n: f i -/
theorem law (l : Launch) (x t : Addr) (V : Cell) (n : Nat) (f : Nat → Int32) (z : Int32) (fm : Value) (i : Nat) : Law l yN 2 1 3 40 yB 2 (some .char) site (P x t V n f z fm i) (E f i) [] 0 0 := by
  refine Law.of_walk (plainFor_of_name (by decide +kernel)) (by decide +kernel) (by decide +kernel) (by decide) (fun _ _ h => by rw [h.1]; rfl) (fun _ U U' hal hh h => ⟨h.1, h.2.1.mv hal hh, h.2.2.1, h.2.2.2.1.there hal hh, h.2.2.2.2.1, h.2.2.2.2.2.1.there hal hh, h.2.2.2.2.2.2⟩) (fun r U U' V V' h1 hal h2 h => XT.PureE.mv r U U' V V' h1 hal h2 h) ?_
  intro p e s m args below meth c s₁ X0 hexec hbytes hml hret hlk hnm hown hh0 W hP
  obtain ⟨rfl, hx, hi, s1, hz, s3, rf⟩ := hP
  have v31 := hx.2.2.2.1.2.2.2
  have hr := hx.2.2.2.2.2 i hi
  have hx0 := hx.mv X0.warmed.alike hh0
  have c1 : Steps p.tables e below (s₁.setTop (entryFrame m #[.ref x, .int (Int32.ofNat i)] 2)) (s₁.setTop (mkF m 1 #[.val (.ref x), .val (.int (Int32.ofNat i))] [.ref x])) := Steps.trans (entry rfl) (by
    show Steps p.tables e below (s₁.setTop (mkF m 0 #[.val (.ref x), .val (.int (Int32.ofNat i))] [])) _
    refine XS.aloadN X0.here hexec rfl (hb hbytes d0) rfl rfl ?_
    exact Steps.refl _)
  obtain ⟨v2, T2, X2, E2, g2⟩ := X0.callV hexec (IsL.law l x 0 z) hown (wks W (virtW "java/lang/String" 492 "java/lang/String" IsL.yN IsL.yN)) rfl (by decide) (wk W IsL.tab) (W := 0) (Nat.le_of_ble_eq_true rfl) (Nat.le_of_ble_eq_true rfl) (Nat.le_refl _) (Nat.le_refl _) (hx0.1.fc X0.warmed.alike) hx0.1.is (g := (mkF m 1 #[.val (.ref x), .val (.int (Int32.ofNat i))] [.ref x])) rfl (by rw [hml]; rfl) c1 (argsL := []) (rest := []) rfl rfl (by show 2 * 0 + 0 ≤ _; decide) (hb hbytes d1) (⟨rfl, hx0.2.2.1, hx.2.2.2.2.1.cd, s1.there X0.warmed.alike hh0, hz⟩)
  obtain ⟨rfl, q2⟩ := E2
  have hh2 := q2.trans hh0
  have hx2 := hx.mv X2.warmed.alike hh2
  obtain ⟨-, k1, k2⟩ | ⟨k0, -⟩ := hx.2.2.2.2.1
  · have c3 : Steps p.tables e below (s₁.setTop (entryFrame m #[.ref x, .int (Int32.ofNat i)] 2)) (T2.setTop (mkF m 8 #[.val (.ref x), .val (.int (Int32.ofNat i))] [.ref x])) := Steps.trans g2 (by
      refine XS.ifNo X2.here hexec rfl (hb hbytes d4) rfl (i0_eq_f (by decide)) ?_
      refine XS.aloadN X2.here hexec rfl (hb hbytes d7) rfl rfl ?_
      exact Steps.refl _)
    obtain ⟨T4, X4, q4, st4⟩ := X2.hget hexec hown (wk W (.fieldLink "java/lang/String" 9 "java/lang/String" "value" "[B")) hx2.2.1 (g := (mkF m 8 #[.val (.ref x), .val (.int (Int32.ofNat i))] [.ref x])) rfl (rest := []) rfl (hb hbytes d8)
    have hh4 := q4.trans hh2
    have c5 : Steps p.tables e below (s₁.setTop (entryFrame m #[.ref x, .int (Int32.ofNat i)] 2)) (T4.setTop (mkF m 12 #[.val (.ref x), .val (.int (Int32.ofNat i))] [.int (Int32.ofNat i), .ref t])) := (c3.trans (st4 _ (Steps.refl _))).trans (by
      refine XS.iloadN X4.here hexec rfl (hb hbytes d11) rfl ?_
      exact Steps.refl _)
    obtain ⟨v6, T6, X6, E6, g6⟩ := X4.callS hexec (LChA.law l t V i (lo8 (f i)) fm) hown (wks W (staticW "java/lang/String" 495 LChA.yN)) (wk W LChA.tab) (W := 0) (Nat.le_of_ble_eq_true rfl) (Nat.le_of_ble_eq_true rfl) (Nat.le_refl _) (Nat.le_refl _) (g := (mkF m 12 #[.val (.ref x), .val (.int (Int32.ofNat i))] [.int (Int32.ofNat i), .ref t])) rfl (by rw [hml]; rfl) c5 (argsL := [.ref t, .int (Int32.ofNat i)]) (rest := []) rfl rfl (by show 2 * 0 + 0 ≤ _; decide) (hb hbytes d12) (⟨rfl, hx.2.2.2.1.mv X4.warmed.alike hh4, (k2 i hi).1, s3.there X4.warmed.alike hh4, rf⟩)
    obtain ⟨rfl, q6⟩ := E6
    rw [chr8_lo8 hr.1 (k2 i hi).2] at g6
    exact ⟨T6, some (.int (f i)), _, _, _, X6, rfl, rfl, rfl, (fun h => by cases h), ⟨rfl, q6.trans hh4⟩, fun fs hl => Steps.trans g6 (X6.ireturnOut hexec hret (narrow_ch hr.1 hr.2) (Or.inr (Or.inr (Or.inr (Or.inl rfl)))) (hb hbytes d15) hl)⟩
  · exact absurd k0 (by decide)
theorem pays {l : Launch} {R : Room} {p : Program} {e : Env} {below : List Frame} {s : State} {sargs : Array Value} {len W : Nat} (x t : Addr) (V : Cell) (n : Nat) (f : Nat → Int32) (z : Int32) (fm : Value) (i : Nat) (htab : tab.before sargs s = true) (hfr : 4 ≤ R.frames) (hlo : W + 53 ≤ R.locals) :
    Back l R p e below s sargs yN len W (fun A₁ a₁ => A₁.cells + 0 ≤ R.cells ∧ A₁.slots + 0 ≤ R.slots ∧ P x t V n f z fm i a₁ A₁.U) (fun A₁ _ v₁ B₁ => E f i v₁ A₁.U B₁.U ∧ B₁.locs = A₁.locs ++ [] ∧ B₁.cells = A₁.cells + 0 ∧ B₁.slots = A₁.slots + 0) :=
  (law l x t V n f z fm i).pays htab hfr (by omega)
end ChN
end StrChars
namespace StrChars.Road
open Jvm Sem ClassFile Op Lib Jvm.Stand Jvm.Free Jvm.Free.XT
open Jvm.Lib.Cold (StaticIs)
/-- the words of String.charAt(int), the Latin-1 road alone -/
abbrev wordsChN : List Jvm.Cond := [.code ChN.yN ChN.yB 2 (some .char), .initialized ST, .fieldLink ST 9 ST "value" "[B", .fieldLink ST 38 ST "COMPACT_STRINGS" "Z", .fieldLink ST 15 ST "coder" "B", .code IsL.yN IsL.yB 1 (some .boolean), .methodLink ST 492 IsL.yN, .declares IsL.yN, .selects ST IsL.yN IsL.yN, .instanceMethod IsL.yN,
  .methodLink ST 495 LChA.yN, .static LChA.yN, .code LChA.yN LChA.yB 2 (some .char), .initialized "java/lang/StringLatin1", .methodLink "java/lang/StringLatin1" 9 JO.Str_checkIndex.yN, .static JO.Str_checkIndex.yN, .code JO.Str_checkIndex.yN JO.Str_checkIndex.yB 2 none,
  .fieldLink ST 1053 "jdk/internal/util/Preconditions" "SIOOBE_FORMATTER" "Ljava/util/function/BiFunction;", .methodLink ST 1059 JC.PreCheck.yN, .static JC.PreCheck.yN, .code JC.PreCheck.yN JC.PreCheck.yB 3 (some .int), .initialized "jdk/internal/util/Preconditions"]
theorem tabChN_of {a : Array Value} {s : State} (h : ∀ w ∈ wordsChN, w.before a s = true) : ChN.tab.before a s = true := by
  have hp : JC.PreCheck.tab.before a s = true := unparts (wk h (.code JC.PreCheck.yN JC.PreCheck.yB 3 (some .int))) (wks h (.initialized JC.PreCheck.yN.cls :: JC.PreCheck.site))
  have qk := consq hp h
  have hk : JO.Str_checkIndex.tab.before a s = true := unparts (wk qk (.code JO.Str_checkIndex.yN JO.Str_checkIndex.yB 2 none)) (wks qk (.initialized JO.Str_checkIndex.yN.cls :: JO.Str_checkIndex.site))
  have ql := consq hk h
  have hl : LChA.tab.before a s = true := unparts (wk ql (.code LChA.yN LChA.yB 2 (some .char))) (wks ql (.initialized LChA.yN.cls :: LChA.site))
  have hi : IsL.tab.before a s = true := unparts (wk h (.code IsL.yN IsL.yB 1 (some .boolean))) (wks h (.initialized IsL.yN.cls :: IsL.site))
  have q := consq hi (consq hl h)
  exact unparts (wk q (.code ChN.yN ChN.yB 2 (some .char))) (wks q (.initialized ChN.yN.cls :: ChN.site))
theorem movedChN {Z s : State} {a0 args : Array Value} (hZ : Z.Warmed39 s.vm) (hw : ∀ d ∈ wordsChN, d.before a0 Z = true) : ∀ d ∈ wordsChN, d.before args s = true := fun d hd => by
  have t : ∀ d ∈ wordsChN, (d.onTables && d.keepsFace) = true := by decide +kernel
  exact RoadKit.mv hZ (hw d hd) (t d hd)
/-- **charAt(i) OF A LATIN-1 STRING**, i < n: the char -/
theorem chN {p : Program} {l : Launch} {e : Env} {R : Room} {s : State} {args : Array Value} {below : List Frame} {len W : Nat} {Z : State} {a0 : Array Value} {h : Heap} (hZ : Z.Warmed39 s.vm) (hw : ∀ d ∈ wordsChN, d.before a0 Z = true) {kI : Nat} (wi : (Jvm.Cond.instantiable ST kI).before a0 Z = true)
    {x t : Addr} {kb : ClassId} {cs : List Int32} {N2 z : Int32} {vs : List Value} {fm : Value} {i : Nat} {j : Int32} (E : RoadKit.Exa Z h x ST) (V : RoadKit.Fld Z h x ST "value" "[B" (.ref t)) (C : RoadKit.Fld Z h x ST "coder" "B" (.int 0)) (K : RoadKit.Arv Z h t kb .byte N2 vs (.int 0)) (hc : CodA cs 0 N2 vs) (hb : ∀ c ∈ cs, ¬ c < 0 ∧ ¬ (65535 : Int32) < c)
    (S : RoadKit.Sta Z h ST "COMPACT_STRINGS" "Z" (.int z)) (hz : ¬ z = 0) (F : RoadKit.Sta Z h "jdk/internal/util/Preconditions" "SIOOBE_FORMATTER" "Ljava/util/function/BiFunction;" fm) (rf : fm.isRef = true) (l2 : cs.length ≤ 4000) (hi : i < cs.length) (hj : j = Int32.ofNat i) (hfr : 4 ≤ R.frames) (hlo : W + 53 ≤ R.locals) :
    Back l R p e below s args (⟨"java/lang/String", "charAt", "(I)C"⟩ : MethodName) len W (fun P a => a = #[.ref x, .int j] ∧ P.U.heap = h ∧ P.cells + 0 ≤ R.cells ∧ P.slots + 0 ≤ R.slots)
      (fun P _ v B => ∃ L, (v = some (.int (cs.getD i 0)) ∧ L = [] ∧ B.U.heap = h) ∧ B.locs = P.locs ++ L ∧ B.cells = P.cells + 0 ∧ B.slots = P.slots + 0) := by
  subst hj
  intro m meth c P g ig mk a X hg hsize hdg hW hn hp'
  obtain ⟨rfl, rfl, r1, r2⟩ := hp'
  have al : Z.vm.Alike P.U.vm := hZ.alike.trans X.warmed.alike
  obtain ⟨A, hx⟩ := txt_of wi al E V C K hc hb l2
  obtain ⟨v, B, X', ⟨⟨hv, hh⟩, hl, hk, hs⟩, st⟩ := ChN.pays x t A cs.length (fun j => cs.getD j 0) z fm i (tabChN_of (movedChN hZ hw)) hfr hlo m meth c P g ig mk _ X hg hsize hdg hW hn ⟨r1, r2, rfl, hx, hi, sta_is al S, hz, sta_is al F, rf⟩
  exact ⟨v, B, X', ⟨[], ⟨hv, rfl, hh⟩, hl, hk, hs⟩, st⟩
/-- what backV says of its String, as the contracts of this text ask it: cs's low bytes, coder 0 -/
theorem codOf {cs : List Int32} {n : Nat} (hn : cs.length = n) (hb : ∀ c ∈ cs, ¬ 255 < c) : CodA cs 0 (Int32.ofNat n) ((cs.map lo8).map Value.int) := Or.inl ⟨rfl, by rw [hn], by simp [List.map_map, Function.comp_def], hb⟩
end StrChars.Road
end Jvm.Pilot.@@N@@

namespace Jvm.Pilot.@@N@@
open Jvm Jvm.ClassFile Sem Op Lib Jvm.Free Jvm.Stand Jvm.LawKit Jvm.RoadKit Bundle Jvm.Pilot.@@N@@.Jvm.D
theorem mI {α : Type} {l : List α} {a : α} (i : Nat) (h : l[i]? = some a) : a ∈ l := List.mem_of_getElem? h
set_option maxRecDepth 65536
set_option maxHeartbeats 40000000
abbrev HW (a0 : Array Value) (Z : State) : Prop := ∀ d ∈ tables_1, d.before a0 Z = true
theorem lE {a b : Nat} (h : Nat.ble a b = true) : a ≤ b := Nat.le_of_ble_eq_true h
theorem own_hw {a b : Nat} (h : 2 * 0 + a = b) : 2 * 0 + a ≤ b := Nat.le_of_eq h
abbrev Sx (p : Program) (e : Env) (b : List Frame) (T : State) (m : MethodId) (pc : Nat) (L : Array Slot) (S : List Value) (t : State) : Prop := Steps p.tables e b (T.setTop (mkF m pc L S)) t
abbrev Pr (p : Program) (e : Env) (b : List Frame) (T : State) (m : MethodId) (pc : Nat) (L : Array Slot) (S : List Value) (s₁ : State) (f : JFrame) : Prop := ∀ t, Steps p.tables e b (T.setTop (mkF m pc L S)) t → Steps p.tables e b (s₁.setTop f) t
section
variable {a0 : Array Value} {Z : State} (hw : ∀ d ∈ tables_1, d.before a0 Z = true)
def w0_ := hw _ (List.mem_of_getElem? (i := 0) rfl)
def w1_ := hw _ (List.mem_of_getElem? (i := 1) rfl)
def w2_ := hw _ (List.mem_of_getElem? (i := 2) rfl)
def w3_ := hw _ (List.mem_of_getElem? (i := 3) rfl)
def w4_ := hw _ (List.mem_of_getElem? (i := 4) rfl)
def w5_ := hw _ (List.mem_of_getElem? (i := 5) rfl)
def w6_ := hw _ (List.mem_of_getElem? (i := 6) rfl)
def w7_ := hw _ (List.mem_of_getElem? (i := 7) rfl)
def w8_ := hw _ (List.mem_of_getElem? (i := 8) rfl)
def w9_ := hw _ (List.mem_of_getElem? (i := 9) rfl)
def w10_ := hw _ (List.mem_of_getElem? (i := 10) rfl)
def w11_ := hw _ (List.mem_of_getElem? (i := 11) rfl)
def w12_ := hw _ (List.mem_of_getElem? (i := 12) rfl)
def w13_ := hw _ (List.mem_of_getElem? (i := 13) rfl)
def w15_ := hw _ (List.mem_of_getElem? (i := 15) rfl)
def w16_ := hw _ (List.mem_of_getElem? (i := 16) rfl)
def w17_ := hw _ (List.mem_of_getElem? (i := 17) rfl)
def w18_ := hw _ (List.mem_of_getElem? (i := 18) rfl)
def w24_ := hw _ (List.mem_of_getElem? (i := 24) rfl)
def w31_ := hw _ (List.mem_of_getElem? (i := 31) rfl)
def w32_ := hw _ (List.mem_of_getElem? (i := 32) rfl)
def w33_ := hw _ (List.mem_of_getElem? (i := 33) rfl)
def w34_ := hw _ (List.mem_of_getElem? (i := 34) rfl)
def w35_ := hw _ (List.mem_of_getElem? (i := 35) rfl)
def w36_ := hw _ (List.mem_of_getElem? (i := 36) rfl)
def w37_ := hw _ (List.mem_of_getElem? (i := 37) rfl)
def w38_ := hw _ (List.mem_of_getElem? (i := 38) rfl)
def w39_ := hw _ (List.mem_of_getElem? (i := 39) rfl)
def w40_ := hw _ (List.mem_of_getElem? (i := 40) rfl)
def w41_ := hw _ (List.mem_of_getElem? (i := 41) rfl)
def w48_ := hw _ (List.mem_of_getElem? (i := 48) rfl)
def w49_ := hw _ (List.mem_of_getElem? (i := 49) rfl)
def w50_ := hw _ (List.mem_of_getElem? (i := 50) rfl)
def w51_ := hw _ (List.mem_of_getElem? (i := 51) rfl)
def w70_ := hw _ (List.mem_of_getElem? (i := 70) rfl)
def w71_ := hw _ (List.mem_of_getElem? (i := 71) rfl)
def w72_ := hw _ (List.mem_of_getElem? (i := 72) rfl)
def w73_ := hw _ (List.mem_of_getElem? (i := 73) rfl)
def w74_ := hw _ (List.mem_of_getElem? (i := 74) rfl)
def w75_ := hw _ (List.mem_of_getElem? (i := 75) rfl)
def w76_ := hw _ (List.mem_of_getElem? (i := 76) rfl)
def w77_ := hw _ (List.mem_of_getElem? (i := 77) rfl)
def w78_ := hw _ (List.mem_of_getElem? (i := 78) rfl)
def w79_ := hw _ (List.mem_of_getElem? (i := 79) rfl)
def w81_ := hw _ (List.mem_of_getElem? (i := 81) rfl)
def w82_ := hw _ (List.mem_of_getElem? (i := 82) rfl)
def w84_ := hw _ (List.mem_of_getElem? (i := 84) rfl)
def w85_ := hw _ (List.mem_of_getElem? (i := 85) rfl)
def w86_ := hw _ (List.mem_of_getElem? (i := 86) rfl)
def w87_ := hw _ (List.mem_of_getElem? (i := 87) rfl)
def w88_ := hw _ (List.mem_of_getElem? (i := 88) rfl)
def w89_ := hw _ (List.mem_of_getElem? (i := 89) rfl)
def w90_ := hw _ (List.mem_of_getElem? (i := 90) rfl)
def w91_ := hw _ (List.mem_of_getElem? (i := 91) rfl)
def w92_ := hw _ (List.mem_of_getElem? (i := 92) rfl)
def w93_ := hw _ (List.mem_of_getElem? (i := 93) rfl)
def w95_ := hw _ (List.mem_of_getElem? (i := 95) rfl)
def w97_ := hw _ (List.mem_of_getElem? (i := 97) rfl)
def w98_ := hw _ (List.mem_of_getElem? (i := 98) rfl)
def w99_ := hw _ (List.mem_of_getElem? (i := 99) rfl)
def w100_ := hw _ (List.mem_of_getElem? (i := 100) rfl)
def w106_ := hw _ (List.mem_of_getElem? (i := 106) rfl)
def w107_ := hw _ (List.mem_of_getElem? (i := 107) rfl)
def w108_ := hw _ (List.mem_of_getElem? (i := 108) rfl)
def w111_ := hw _ (List.mem_of_getElem? (i := 111) rfl)
def w112_ := hw _ (List.mem_of_getElem? (i := 112) rfl)
end
abbrev Y0_ : MethodName := ⟨"java/lang/String", "<init>", "([CIILjava/lang/Void;)V"⟩
abbrev Y1_ : MethodName := ⟨"java/lang/String", "<init>", "([C)V"⟩
abbrev Y2_ : MethodName := ⟨"com/example/hearthline/hearthline/session/SpecialValueOfPinLaw", "str", "([CI)Ljava/lang/String;"⟩
abbrev Y3_ : MethodName := ⟨"com/example/hearthline/hearthline/session/SpecialValueOfPinLaw", "ref", "(Ljava/lang/String;)Lcom/example/hearthline/hearthline/session/Session$Measurement$SpecialValue;"⟩
abbrev Y4_ : MethodName := ⟨"java/lang/String", "length", "()I"⟩
abbrev Y5_ : MethodName := ⟨"com/example/hearthline/hearthline/session/Session$Measurement$SpecialValue", "values", "()[Lcom/example/hearthline/hearthline/session/Session$Measurement$SpecialValue;"⟩
abbrev Y6_ : MethodName := ⟨"com/example/hearthline/hearthline/session/Session$Measurement$SpecialValue", "of", "(Ljava/lang/String;)Lcom/example/hearthline/hearthline/session/Session$Measurement$SpecialValue;"⟩
abbrev Y7_ : MethodName := ⟨"java/lang/String", "equals", "(Ljava/lang/Object;)Z"⟩
abbrev Y8_ : MethodName := ⟨"java/lang/String", "charAt", "(I)C"⟩
abbrev ab0_ (p1 : Int32) := ((((p1).toUInt32 >>> ((16 : Int32) &&& 31).toUInt32).toInt32) &&& (3 : Int32))
abbrev ab1_ (p1 : Int32) := ((p1 &&& (2147483647 : Int32)) % (6 : Int32))
abbrev ab2_ (p2 : Int32) := ((((((p2).toUInt32 >>> ((8 : Int32) &&& 31).toUInt32).toInt32) &&& (255 : Int32))).toUInt32.toUInt16.toUInt32.toInt32)
abbrev ab3_ (p4 : Int32) := ((((((p4).toUInt32 >>> ((16 : Int32) &&& 31).toUInt32).toInt32) &&& (255 : Int32))).toUInt32.toUInt16.toUInt32.toInt32)
abbrev ab4_ (p4 : Int32) := ((((((p4).toUInt32 >>> ((24 : Int32) &&& 31).toUInt32).toInt32) &&& (255 : Int32))).toUInt32.toUInt16.toUInt32.toInt32)
abbrev ab5_ (p4 : Int32) := ((((((p4).toUInt32 >>> ((8 : Int32) &&& 31).toUInt32).toInt32) &&& (255 : Int32))).toUInt32.toUInt16.toUInt32.toInt32)
abbrev ab6_ (p2 : Int32) := ((p2 &&& (2147483647 : Int32)) % (8 : Int32))
abbrev ab7_ (p3 : Int32) := ((((((p3).toUInt32 >>> ((24 : Int32) &&& 31).toUInt32).toInt32) &&& (255 : Int32))).toUInt32.toUInt16.toUInt32.toInt32)
abbrev ab8_ (p3 : Int32) := ((((((p3).toUInt32 >>> ((16 : Int32) &&& 31).toUInt32).toInt32) &&& (255 : Int32))).toUInt32.toUInt16.toUInt32.toInt32)
abbrev ab9_ (p3 : Int32) := ((((((p3).toUInt32 >>> ((8 : Int32) &&& 31).toUInt32).toInt32) &&& (255 : Int32))).toUInt32.toUInt16.toUInt32.toInt32)
abbrev ab10_ (p4 : Int32) := (((p4 &&& (255 : Int32))).toUInt32.toUInt16.toUInt32.toInt32)
abbrev ab11_ (p3 : Int32) := (((p3 &&& (255 : Int32))).toUInt32.toUInt16.toUInt32.toInt32)
theorem own_cat {v : Value} (h : v.isRef = true) : v.category = 1 := by cases v <;> first | rfl | cases h
theorem own_and255 (x : Int32) : ∃ k : Fin 256, x &&& 255 = Int32.ofNat k.val := by
  have h : (x &&& 255).toBitVec.toNat < 256 := by
    simp only [Int32.toBitVec_and, BitVec.toNat_and]
    exact Nat.lt_succ_of_le Nat.and_le_right
  refine ⟨⟨_, h⟩, ?_⟩
  apply Int32.toBitVec_inj.mp
  show _ = BitVec.ofNat 32 _
  rw [BitVec.ofNat_toNat]; simp
theorem own_lat (x : Int32) : ¬ (((x &&& (255 : Int32))).toUInt32.toUInt16.toUInt32.toInt32) < 0 ∧ ¬ (255 : Int32) < (((x &&& (255 : Int32))).toUInt32.toUInt16.toUInt32.toInt32) := by
  obtain ⟨k, e⟩ := own_and255 x
  have t : ∀ k : Fin 256, ¬ ((Int32.ofNat k.val).toUInt32.toUInt16.toUInt32.toInt32) < 0 ∧ ¬ (255 : Int32) < ((Int32.ofNat k.val).toUInt32.toUInt16.toUInt32.toInt32) := by decide +kernel
  rw [e]; exact t k
theorem own_lat7 (x : Int32) : ¬ (((x &&& (127 : Int32))).toUInt32.toUInt16.toUInt32.toInt32) < 0 ∧ ¬ (255 : Int32) < (((x &&& (127 : Int32))).toUInt32.toUInt16.toUInt32.toInt32) := by
  have e : x &&& (127 : Int32) = (x &&& (127 : Int32)) &&& 255 := by rw [Int32.and_assoc]; rfl
  rw [e]; exact own_lat _
theorem own_nar_i2c (x : Int32) : nar .char (x.toUInt32.toUInt16.toUInt32.toInt32) = x.toUInt32.toUInt16.toUInt32.toInt32 := by simp only [nar, UInt32.toUInt32_toInt32, UInt16.toUInt16_toUInt32]
theorem own_nar_i2b (x : Int32) : nar .byte (x.toInt8.toInt32) = x.toInt8.toInt32 := by simp [nar]
theorem own_nar_lat {x : Int32} (h : ¬ x < 0 ∧ ¬ (255 : Int32) < x) : nar .char x = x := by
  have e0 : (0 : Int32).toInt = 0 := rfl
  have e1 : (255 : Int32).toInt = 255 := rfl
  have h1 := h.1
  have h2 := h.2
  rw [Int32.lt_iff_toInt_lt, e0] at h1
  rw [Int32.lt_iff_toInt_lt, e1] at h2
  have e : x = Int32.ofNat x.toInt.toNat := by
    apply Int32.toInt_inj.mp
    rw [Int32.toInt_ofNat_small (by omega)]; omega
  have t : ∀ k : Fin 256, nar .char (Int32.ofNat k.val) = Int32.ofNat k.val := by decide +kernel
  rw [e]; exact t ⟨x.toInt.toNat, by omega⟩
theorem own_up (cs : List Int32) (h : ∀ c ∈ cs, ¬ c < 0 ∧ ¬ (255 : Int32) < c) : ∀ c ∈ cs, ¬ c < 0 ∧ ¬ (65535 : Int32) < c := fun c hc => ⟨(h c hc).1, fun q => (h c hc).2 (by rw [Int32.lt_iff_toInt_lt] at q ⊢; have e1 : (65535 : Int32).toInt = 65535 := rfl; have e2 : (255 : Int32).toInt = 255 := rfl; omega)⟩
theorem own_sub {a b : Int32} {p : Int32 → Prop} (h : a = b) (hp : p b) : p a := by rw [h]; exact hp
theorem own_cons {a b : Int32} {l m : List Int32} (h : a = b) (h2 : l = m) : a :: l = b :: m := by rw [h, h2]
theorem own_and3 (x : Int32) : x &&& (3 : Int32) = 0 ∨ x &&& (3 : Int32) = 1 ∨ x &&& (3 : Int32) = 2 ∨ x &&& (3 : Int32) = 3 := by
  have h : (x &&& 3).toBitVec.toNat < 4 := by
    simp only [Int32.toBitVec_and, BitVec.toNat_and]
    exact Nat.lt_succ_of_le Nat.and_le_right
  have e : x &&& 3 = Int32.ofNat (x &&& 3).toBitVec.toNat := by
    apply Int32.toBitVec_inj.mp
    show _ = BitVec.ofNat 32 _
    rw [BitVec.ofNat_toNat]; simp
  rw [e]
  generalize (x &&& 3).toBitVec.toNat = n at h
  have : n = 0 ∨ n = 1 ∨ n = 2 ∨ n = 3 := by omega
  rcases this with rfl | rfl | rfl | rfl <;> simp
theorem own_three3 {x : Int32} (h0 : ¬ (x &&& (3 : Int32)) = (0 : Int32)) (h1 : ¬ (x &&& (3 : Int32)) = (1 : Int32)) (h2 : ¬ (x &&& (3 : Int32)) = (2 : Int32)) : (x &&& (3 : Int32)) = (3 : Int32) := by
  rcases own_and3 x with h | h | h | h
  · exact absurd h h0
  · exact absurd h h1
  · exact absurd h h2
  · exact h
section Own
variable {p : Program} {l : Launch} {e : Env} {R : Room} {s : State} {m : MethodId} {args : Array Value} {below : List Frame} {meth : Method} {c : Code} {T : State} {locs : List Loc} (cells slots rc rs C S : Nat) {Z : State} {h : Heap}
theorem own_cb {Q : Option Value → Heap → List Loc → Prop} {P : Option Value → Pt → Prop} (H : ∃ (v : Option Value) (vm₁ : Vm) (B : Pt), s.WarmedH vm₁ ∧ Stand p l e R s m args below meth c B.U B.locs B.cells B.slots ∧ (∃ L, Q v B.U.heap L ∧ B.locs = locs ++ L ∧ B.cells = cells + rc ∧ B.slots = slots + rs) ∧ P v B)
    (hc : cells + rc = C) (hs : slots + rs = S) : ∃ (v : Option Value) (T' : State) (L : List Loc), Stand p l e R s m args below meth c T' (locs ++ L) C S ∧ Q v T'.heap L ∧ P v (T', locs ++ L, C, S) := by
  obtain ⟨v, vm₁, ⟨T', L', k', n'⟩, -, X, ⟨L, hQ, h1, h2, h3⟩, hP⟩ := H
  dsimp only [Pt.U, Pt.locs, Pt.cells, Pt.slots] at X hQ h1 h2 h3
  subst h1 h2 h3 hc hs
  exact ⟨v, T', L, X, hQ, hP⟩
theorem own_cb0 {Q : Option Value → Pt → List Loc → Prop} {P : Option Value → Pt → Prop} (H : ∃ (v : Option Value) (vm₁ : Vm) (B : Pt), s.WarmedH vm₁ ∧ Stand p l e R s m args below meth c B.U B.locs B.cells B.slots ∧ (∃ L, Q v B L ∧ B.locs = locs ++ L ∧ B.cells = cells + rc ∧ B.slots = slots + rs) ∧ P v B)
    (hc : cells + rc = C) (hs : slots + rs = S) : ∃ (v : Option Value) (T' : State) (L : List Loc), Stand p l e R s m args below meth c T' (locs ++ L) C S ∧ Q v (T', locs ++ L, C, S) L ∧ P v (T', locs ++ L, C, S) := by
  obtain ⟨v, vm₁, ⟨T', L', k', n'⟩, -, X, ⟨L, hQ, h1, h2, h3⟩, hP⟩ := H
  dsimp only [Pt.U, Pt.locs, Pt.cells, Pt.slots] at X h1 h2 h3
  subst h1 h2 h3 hc hs
  exact ⟨v, T', L, X, hQ, hP⟩
theorem own_cbS {EL : List (String × Nat)} {vm0 : Vm} {k0 : Nat} {own : String} {Q : Option Value → Heap → List Loc → Prop} {P : Option Value → Pt → Prop} (H : ∃ (v : Option Value) (vm₁ : Vm) (B : Pt), (s.setVm vm0).WarmedH vm₁ ∧ Stand p l e R ((s.setVm vm0).setVm B.U.vm) m args below meth c B.U B.locs B.cells B.slots ∧ (s.setVm vm0).Since B.U.vm B.U.heap.size ∧ T.heap.size ≤ B.U.heap.size ∧ (∃ L, Q v B.U.heap L ∧ B.locs = locs ++ L ∧ B.cells = cells + rc ∧ B.slots = slots + rs ∧ CHr Z EL vm0 h B.U.vm B.U.heap) ∧ P v B)
    (hc : cells + rc = C) (hs : slots + rs = S) (hS : s.Since vm0 k0) (hk : k0 ≤ T.heap.size) (hZ : Z.Warmed39 vm0) (ho : vm0.findClass own = some m.cls) : ∃ (v : Option Value) (T' : State) (L : List Loc), Stand p l e R (s.setVm T'.vm) m args below meth c T' (locs ++ L) C S ∧ Q v T'.heap L ∧ s.Since T'.vm T'.heap.size ∧ Z.Warmed39 T'.vm ∧ T'.vm.findClass own = some m.cls ∧ CHr Z EL vm0 h T'.vm T'.heap ∧ P v (T', locs ++ L, C, S) := by
  obtain ⟨v, vm₁, ⟨T', L', k', n'⟩, -, X, hS2, hg, ⟨L, hQ, h1, h2, h3, hC⟩, hP⟩ := H
  dsimp only [Pt.U, Pt.locs, Pt.cells, Pt.slots] at X hQ h1 h2 h3 hS2 hg hC
  subst h1 h2 h3 hc hs
  exact ⟨v, T', L, X, hQ, hS.trans hS2 (Nat.le_trans hk hg), State.Warmed39.trans (t := s.setVm vm0) hZ hS2.1, by rw [hS2.1.alike.findClass]; exact ho, hC, hP⟩
theorem own_lvG {cells slots : Nat} {h : Heap} {s₁ : State} {fr : JFrame} {Q : Option Value → Heap → List Loc → Prop} (X : Stand p l e R s m args below meth c T locs cells slots) (hlocks : meth.locks = false) {v : Option Value} (hv : meth.sig.returnType = none → v = none) (hE : T.heap = h) (hQ : Q v h locs) (hk : (Nat.ble cells R.cells && Nat.ble slots R.slots) = true)
    (H : ∀ fs, (∀ (f : JFrame) (acts : List Action), f.method = m → f.locked = none → f.entered = [] → (doReturn e (T.setTop f) acts v).1 = T.setFrames fs) → Steps p.tables e below (s₁.setTop fr) (T.setFrames fs)) :
    ∃ s₂ o, Steps p.tables e below (s₁.setTop fr) s₂ ∧ s₂.status = .running ∧ Ended s₂ below o ∧ ∃ v L, o = .returned v ∧ Q v s₂.heap L ∧ FrameEnd s o s₂ L R.cells R.slots := by
  obtain ⟨fs, hr, hrun, hended, hW, hsame⟩ := X.leave hv hlocks
  rw [Bool.and_eq_true] at hk
  subst hE
  exact ⟨_, _, H fs hr, hrun, hended, _, _, rfl, hQ, ⟨_, rfl⟩, hW, hsame.mono (Nat.le_of_ble_eq_true hk.1) (Nat.le_of_ble_eq_true hk.2)⟩
theorem own_lvF {cells slots : Nat} {h : Heap} {s₁ : State} {fr : JFrame} {Q : Option Value → Heap → List Loc → Prop} {y : MethodName} {S : Spec} {cd : ByteArray} {ml : Nat} {t : FieldType} {s' sa : State} {a' : Array Value} {b' : List Frame} (X : Stand p l e R s m args below meth c T locs cells slots) (B : BodyLoose p l y S cd ml (some t) e s' m a' b' meth c sa) (v : Value) (hE : T.heap = h) (hQ : Q (some v) h locs) (hk : (Nat.ble cells R.cells && Nat.ble slots R.slots) = true)
    (H : ∀ fs, (∀ (f : JFrame) (acts : List Action), f.method = m → f.locked = none → f.entered = [] → (doReturn e (T.setTop f) acts (some v)).1 = T.setFrames fs) → Steps p.tables e below (s₁.setTop fr) (T.setFrames fs)) :
    ∃ s₂ o, Steps p.tables e below (s₁.setTop fr) s₂ ∧ s₂.status = .running ∧ Ended s₂ below o ∧ ∃ v L, o = .returned v ∧ Q v s₂.heap L ∧ FrameEnd s o s₂ L R.cells R.slots :=
  own_lvG X B.notSynchronized (v := some v) (fun h => by rw [B.returns] at h; cases h) hE hQ hk H
theorem own_lvN {cells slots : Nat} {h : Heap} {s₁ : State} {fr : JFrame} {Q : Option Value → Heap → List Loc → Prop} {y : MethodName} {S : Spec} {cd : ByteArray} {ml : Nat} {rt : Option FieldType} {s' sa : State} {a' : Array Value} {b' : List Frame} (X : Stand p l e R s m args below meth c T locs cells slots) (B : BodyLoose p l y S cd ml rt e s' m a' b' meth c sa) (hE : T.heap = h) (hQ : Q none h locs) (hk : (Nat.ble cells R.cells && Nat.ble slots R.slots) = true)
    (H : ∀ fs, (∀ (f : JFrame) (acts : List Action), f.method = m → f.locked = none → f.entered = [] → (doReturn e (T.setTop f) acts none).1 = T.setFrames fs) → Steps p.tables e below (s₁.setTop fr) (T.setFrames fs)) :
    ∃ s₂ o, Steps p.tables e below (s₁.setTop fr) s₂ ∧ s₂.status = .running ∧ Ended s₂ below o ∧ ∃ v L, o = .returned v ∧ Q v s₂.heap L ∧ FrameEnd s o s₂ L R.cells R.slots :=
  own_lvG X B.notSynchronized (v := none) (fun _ => rfl) hE hQ hk H
theorem own_lvW {cells slots : Nat} {h h0 : Heap} {s₁ : State} {fr : JFrame} {Q : Option Value → Heap → List Loc → Prop} {EL : List (String × Nat)} {vm1 : Vm} {n : Nat} (X : Stand p l e R (s.setVm vm1) m args below meth c T locs cells slots) (hlocks : meth.locks = false) (hS : s.Since vm1 n) (hk0 : n ≤ h.size) {v : Option Value} (hv : meth.sig.returnType = none → v = none) (hE : T.heap = h) (hh : s.heap = h0) (hQ : Q v h locs) (hC : CHr Z EL s.vm h0 T.vm h) (hk : cells ≤ R.cells) (hn : slots ≤ R.slots)
    (H : ∀ fs, (∀ (f : JFrame) (acts : List Action), f.method = m → f.locked = none → f.entered = [] → (doReturn e (T.setTop f) acts v).1 = T.setFrames fs) → Steps p.tables e below (s₁.setTop fr) (T.setFrames fs)) :
    ∃ s₂ o, Steps p.tables e below (s₁.setTop fr) s₂ ∧ s₂.status = .running ∧ Ended s₂ below o ∧ ∃ v L, o = .returned v ∧ Q v s₂.heap L ∧ CHr Z EL s.vm s.heap s₂.vm s₂.heap ∧ ReturnedEndW s o s₂ L R.cells R.slots := by
  subst hE hh
  obtain ⟨fs, hr, hrun, hended, hEnd⟩ := X.leaveW (s := s) hS hk0 hv hlocks
  exact ⟨_, _, H fs hr, hrun, hended, _, _, rfl, hQ, hC, hEnd.1, hEnd.2.1, hEnd.2.2.1, hEnd.2.2.2.mono hk hn⟩
end Own
abbrev Rm (f c s l : Nat) : Room := { frames := f, cells := c, slots := s, locals := l }
abbrev MF (l : Launch) (Z : State) (y : MethodName) (cd : ByteArray) (ml : Nat) (rt : Option FieldType) (R : Room) (a : Array Value) (h0 : Heap) (Q : Option Value → Heap → List Loc → Prop) : Prop :=
  MetFree l y (head1 [Jvm.Cond.code y cd ml rt] R) (fun b U => b = a ∧ Z.Warmed39 U.vm ∧ U.heap = h0) (fun _ _ _ _ _ => True) (fun _ U o U' => ∃ v L, o = .returned v ∧ Q v U'.heap L ∧ FrameEnd U o U' L R.cells R.slots)
theorem own_sF {l : Launch} {Z : State} {y : MethodName} {cd : ByteArray} {ml : Nat} {rt : Option FieldType} {R : Room} {a : Array Value} {h0 : Heap} {Q : Option Value → Heap → List Loc → Prop} {K : String} {L0 : Array Slot} (hpn : plainName K = true) (hK : y.cls = K) (hE : ∀ m, entryFrame m a ml = mkF m 0 L0 [])
    (H : ∀ p e s m below meth c s₁, BodyLoose p l y (head1 [Jvm.Cond.code y cd ml rt] R) cd ml rt e s m a below meth c s₁ → Z.Warmed39 s.vm → s.heap = h0 → p.tables.exec = Jvm.exec → c.code = cd → c.maxLocals = ml → s.vm.findClass K = some m.cls → meth.name = y.name → Stand p l e R s m a below meth c s₁ [] 0 0 → s₁.heap = h0 → (∀ t, Steps p.tables e below (s₁.setTop (mkF m 0 L0 [])) t → Steps p.tables e below (s₁.setTop (entryFrame m a ml)) t) →
      ∃ s₂ o, Steps p.tables e below (s₁.setTop (entryFrame m a ml)) s₂ ∧ s₂.status = .running ∧ Ended s₂ below o ∧ ∃ v L, o = .returned v ∧ Q v s₂.heap L ∧ FrameEnd s o s₂ L R.cells R.slots) : MF l Z y cd ml rt R a h0 Q := by
  subst hK
  refine MetFree.of_bodySF (plainFor_of_name hpn) hisR ?_
  intro p e s m args below meth c s₁ Bd hml0 hP hK
  obtain ⟨rfl, hZ, hh⟩ := hP
  exact H p e s m below meth c s₁ Bd hZ hh Bd.exec Bd.bytes hml0 (findClass_of_methodNamed Bd.named) (name_of_methodNamed Bd.named Bd.method).1 (Stand.of_body Bd) (by rw [← hh, Bd.state]; rfl) (fun t k => castTop (hE m) k)
section Own3
variable {p : Program} {l : Launch} {e : Env} {R : Room} {s : State} {m : MethodId} {args : Array Value} {below : List Frame} {meth : Method} {c : Code} {T : State} {locs : List Loc} {cells slots : Nat} {Z : State} {h : Heap} {own C : String} {index : Nat} {y z : MethodName} {bytes : ByteArray} {maxL : Nat} {ret : Option FieldType} {rm : Room} {Q : Option Value → Heap → List Loc → Prop} {argsL : List Value} {ps : List FieldType} {r : Option FieldType} {a0 : Array Value}
abbrev own_num (rm R : Room) (rest : List Value) (maxL cells slots : Nat) : Bool := Nat.ble (rm.frames + 1) R.frames && (Nat.ble ((rest.map fun v => v.category).sum + (maxL + 11) + rm.locals) R.locals && (Nat.ble (cells + rm.cells) R.cells && Nat.ble (slots + rm.slots) R.slots))
theorem own_numE {rest : List Value} (h : own_num rm R rest maxL cells slots = true) : rm.frames + 1 ≤ R.frames ∧ (rest.map fun v => v.category).sum + (maxL + 11) + rm.locals ≤ R.locals ∧ cells + rm.cells ≤ R.cells ∧ slots + rm.slots ≤ R.slots := by
  simp only [own_num, Bool.and_eq_true] at h
  exact ⟨Nat.le_of_ble_eq_true h.1, Nat.le_of_ble_eq_true h.2.1, Nat.le_of_ble_eq_true h.2.2.1, Nat.le_of_ble_eq_true h.2.2.2⟩
theorem own_cS (C' S' : Nat) (rest : List Value) (pc : Nat) (Ls : Array Slot) (X : Stand p l e R s m args below meth c T locs cells slots) (hx : p.tables.exec = Jvm.exec) (hZ : Z.Warmed39 s.vm) (hown : s.vm.findClass own = some m.cls) (w1 : (Cond.methodLink own index y).before a0 Z = true) (w2 : (Cond.static y).before a0 Z = true) (w3 : (Cond.initialized y.cls).before a0 Z = true) (w4 : (Cond.code y bytes maxL ret).before a0 Z = true)
    (hM : MF l Z y bytes maxL ret rm argsL.toArray h Q) (pd : parseMethodDescriptor y.desc = some ⟨ps, r⟩) (hsz : Ls.size = c.maxLocals) (hd : decode c.code pc = .ok (.invokestatic index, 3)) (hE : T.heap = h) (hl : argsL.length = ps.length) (hc : cells + rm.cells = C') (hs : slots + rm.slots = S') (hn : own_num rm R rest maxL cells slots = true) (hy : y.cls ≠ "java/lang/invoke/MethodHandle" ∧ y.cls ≠ "java/lang/invoke/VarHandle") :
    ∃ (v : Option Value) (T' : State) (L : List Loc), Stand p l e R s m args below meth c T' (locs ++ L) C' S' ∧ Q v T'.heap L ∧ ∀ target, Steps p.tables e below (T'.setTop (mkF m (pc + 3) Ls (v.toList ++ rest))) target → Steps p.tables e below (T.setTop (mkF m pc Ls (argsL.reverse ++ rest))) target := by
  obtain ⟨n1, n2, n3, n4⟩ := own_numE hn
  exact own_cb cells slots rm.cells rm.slots C' S' (Jvm.LawKit.callS X hx hown (mvT hZ w1) (mvT hZ w2) (mvT hZ w3) (mvT hZ w4) hy (backOf (W := (rest.map fun v => v.category).sum) hM hZ w4 w3 n1 n2) (g := mkF m pc Ls (argsL.reverse ++ rest)) rfl hsz (argsL := argsL) (rest := rest) (lenOf pd hl) rfl (Nat.le_of_eq (Nat.zero_add _)) hd (fun _ _ => ⟨rfl, hE, n3, n4⟩)) hc hs
theorem own_cI (C' S' : Nat) (rest : List Value) (pc : Nat) (Ls : Array Slot) {a : Addr} (X : Stand p l e R s m args below meth c T locs cells slots) (hx : p.tables.exec = Jvm.exec) (hZ : Z.Warmed39 s.vm) (hown : s.vm.findClass own = some m.cls) (w1 : (Cond.methodLink own index y).before a0 Z = true) (w2 : (Cond.instanceMethod y).before a0 Z = true) (w3 : (Cond.initialized y.cls).before a0 Z = true) (w4 : (Cond.code y bytes maxL none).before a0 Z = true)
    (hM : MF l Z y bytes maxL none rm (.ref a :: argsL).toArray h Q) (pd : parseMethodDescriptor y.desc = some ⟨ps, r⟩) (hsz : Ls.size = c.maxLocals) (hd : decode c.code pc = .ok (.invokespecial index, 3)) (hE : T.heap = h) (hl : argsL.length = ps.length) (hc : cells + rm.cells = C') (hs : slots + rm.slots = S') (hn : own_num rm R rest maxL cells slots = true) (hy1 : y.name = "<init>") (hy : y.cls ≠ "java/lang/invoke/MethodHandle" ∧ y.cls ≠ "java/lang/invoke/VarHandle") :
    ∃ (v : Option Value) (T' : State) (L : List Loc), Stand p l e R s m args below meth c T' (locs ++ L) C' S' ∧ Q v T'.heap L ∧ ∀ target, Steps p.tables e below (T'.setTop (mkF m (pc + 3) Ls (v.toList ++ rest))) target → Steps p.tables e below (T.setTop (mkF m pc Ls (argsL.reverse ++ .ref a :: rest))) target := by
  obtain ⟨n1, n2, n3, n4⟩ := own_numE hn
  obtain ⟨v, T', L, h1, h2, h3⟩ := own_cb cells slots rm.cells rm.slots C' S' (X.specialBack hx hy1 hown (mvT hZ w1) (mvT hZ w2) (mvT hZ w4) hy (backOf (W := (rest.map fun v => v.category).sum) hM hZ w4 w3 n1 n2) (g := mkF m pc Ls (argsL.reverse ++ .ref a :: rest)) rfl hsz (Steps.refl _) (a := a) (argsL := argsL) (rest := rest) (lenOf pd hl) rfl (Nat.le_of_eq (Nat.zero_add _)) hd (fun _ _ => ⟨rfl, hE, n3, n4⟩)) hc hs
  exact ⟨v, T', L, h1, h2, fun t k => Steps.trans h3 k⟩
theorem own_cV (C' S' : Nat) (rest : List Value) (pc : Nat) (Ls : Array Slot) {b : Addr} (X : Stand p l e R s m args below meth c T locs cells slots) (hx : p.tables.exec = Jvm.exec) (hZ : Z.Warmed39 s.vm) (hown : s.vm.findClass own = some m.cls) (E : Exa Z h b C) (w1 : (Cond.methodLink own index y).before a0 Z = true) (w2 : (Cond.declares y).before a0 Z = true) (hnf : NotFace s y) (ws : (Cond.selects C y z).before a0 Z = true) (wi : (Cond.instanceMethod z).before a0 Z = true) (w3 : (Cond.initialized z.cls).before a0 Z = true) (w4 : (Cond.code z bytes maxL ret).before a0 Z = true)
    (hM : MF l Z z bytes maxL ret rm (.ref b :: argsL).toArray h Q) (pd : parseMethodDescriptor y.desc = some ⟨ps, r⟩) (hsz : Ls.size = c.maxLocals) (hd : decode c.code pc = .ok (.invokevirtual index, 3)) (hE : T.heap = h) (hl : argsL.length = ps.length) (hc : cells + rm.cells = C') (hs : slots + rm.slots = S') (hn : own_num rm R rest maxL cells slots = true) (hy : y.cls ≠ "java/lang/invoke/MethodHandle" ∧ y.cls ≠ "java/lang/invoke/VarHandle") :
    ∃ (v : Option Value) (T' : State) (L : List Loc), Stand p l e R s m args below meth c T' (locs ++ L) C' S' ∧ Q v T'.heap L ∧ ∀ target, Steps p.tables e below (T'.setTop (mkF m (pc + 3) Ls (v.toList ++ rest))) target → Steps p.tables e below (T.setTop (mkF m pc Ls (argsL.reverse ++ .ref b :: rest))) target := by
  obtain ⟨n1, n2, n3, n4⟩ := own_numE hn
  obtain ⟨cq, kq, qa, qb, qc⟩ := isOf hZ hE E
  obtain ⟨v, T', L, h1, h2, h3⟩ := own_cb cells slots rm.cells rm.slots C' S' (X.virtualBack hx hown (mvT hZ w1) (mvT hZ w2) hnf (mvT hZ ws) (mvT hZ wi) hy (backOf (W := (rest.map fun v => v.category).sum) hM hZ w4 w3 n1 n2) qa qc (g := mkF m pc Ls (argsL.reverse ++ .ref b :: rest)) rfl hsz (Steps.refl _) (argsL := argsL) (rest := rest) (lenOf pd hl) rfl (Nat.le_of_eq (Nat.zero_add _)) hd (fun _ _ => ⟨rfl, hE, n3, n4⟩)) hc hs
  exact ⟨v, T', L, h1, h2, fun t k => Steps.trans h3 k⟩
end Own3
section Own4
variable {p : Program} {l : Launch} {e : Env} {R : Room} {s : State} {m : MethodId} {args : Array Value} {below : List Frame} {meth : Method} {c : Code} {T target : State} {locs : List Loc} {cells slots : Nat} {bs : ByteArray} {pc pc' : Nat} {Ls : Array Slot} {st : List Value} {o i : Int} {y : MethodName} {S : Spec} {ml : Nat} {rt : Option FieldType} {s' sa : State} {a' : Array Value} {b' : List Frame}
theorem zi (X : Stand p l e R s m args below meth c T locs cells slots) (B : BodyLoose p l y S bs ml rt e s' m a' b' meth c sa) {k : Nat} {v : Int32} (hd : decode bs pc = .ok (.iload k, 2)) (hl : Ls[k]? = some (.val (.int v))) (hr : Steps p.tables e below (T.setTop (mkF m (pc + 2) Ls (.int v :: st))) target) : Steps p.tables e below (T.setTop (mkF m pc Ls st)) target := XS.iload X.here B.exec rfl (hb B.bytes hd) hl hr
theorem zj (X : Stand p l e R s m args below meth c T locs cells slots) (B : BodyLoose p l y S bs ml rt e s' m a' b' meth c sa) {k : Fin 4} {v : Int32} (hd : decode bs pc = .ok (.iload_n k, 1)) (hl : Ls[k.val]? = some (.val (.int v))) (hr : Steps p.tables e below (T.setTop (mkF m (pc + 1) Ls (.int v :: st))) target) : Steps p.tables e below (T.setTop (mkF m pc Ls st)) target := XS.iloadN X.here B.exec rfl (hb B.bytes hd) hl hr
theorem za (X : Stand p l e R s m args below meth c T locs cells slots) (B : BodyLoose p l y S bs ml rt e s' m a' b' meth c sa) {k : Nat} {v : Value} (hd : decode bs pc = .ok (.aload k, 2)) (hl : Ls[k]? = some (.val v)) (hv : v.isRef = true) (hr : Steps p.tables e below (T.setTop (mkF m (pc + 2) Ls (v :: st))) target) : Steps p.tables e below (T.setTop (mkF m pc Ls st)) target := XS.aload X.here B.exec rfl (hb B.bytes hd) hl hv hr
theorem zb (X : Stand p l e R s m args below meth c T locs cells slots) (B : BodyLoose p l y S bs ml rt e s' m a' b' meth c sa) {k : Fin 4} {v : Value} (hd : decode bs pc = .ok (.aload_n k, 1)) (hl : Ls[k.val]? = some (.val v)) (hv : v.isRef = true) (hr : Steps p.tables e below (T.setTop (mkF m (pc + 1) Ls (v :: st))) target) : Steps p.tables e below (T.setTop (mkF m pc Ls st)) target := XS.aloadN X.here B.exec rfl (hb B.bytes hd) hl hv hr
theorem zc (X : Stand p l e R s m args below meth c T locs cells slots) (B : BodyLoose p l y S bs ml rt e s' m a' b' meth c sa) (hd : decode bs pc = .ok (.iconst i, 1)) (hr : Steps p.tables e below (T.setTop (mkF m (pc + 1) Ls (.int (Int32.ofInt i) :: st))) target) : Steps p.tables e below (T.setTop (mkF m pc Ls st)) target := XS.iconst X.here B.exec rfl (hb B.bytes hd) hr
theorem zd (X : Stand p l e R s m args below meth c T locs cells slots) (B : BodyLoose p l y S bs ml rt e s' m a' b' meth c sa) (hd : decode bs pc = .ok (.bipush i, 2)) (hr : Steps p.tables e below (T.setTop (mkF m (pc + 2) Ls (.int (Int8.ofInt i).toInt32 :: st))) target) : Steps p.tables e below (T.setTop (mkF m pc Ls st)) target := XS.bipush X.here B.exec rfl (hb B.bytes hd) hr
theorem zs (X : Stand p l e R s m args below meth c T locs cells slots) (B : BodyLoose p l y S bs ml rt e s' m a' b' meth c sa) {k : Nat} {v : Int32} {l' : Array Slot} (hd : decode bs pc = .ok (.istore k, 2)) (hl : storeLocals Ls k (.int v) = some l') (hr : Steps p.tables e below (T.setTop (mkF m (pc + 2) l' st)) target) : Steps p.tables e below (T.setTop (mkF m pc Ls (.int v :: st))) target := XS.istore X.here B.exec rfl (hb B.bytes hd) rfl hl hr
theorem zt (X : Stand p l e R s m args below meth c T locs cells slots) (B : BodyLoose p l y S bs ml rt e s' m a' b' meth c sa) {k : Fin 4} {v : Int32} {l' : Array Slot} (hd : decode bs pc = .ok (.istore_n k, 1)) (hl : storeLocals Ls k.val (.int v) = some l') (hr : Steps p.tables e below (T.setTop (mkF m (pc + 1) l' st)) target) : Steps p.tables e below (T.setTop (mkF m pc Ls (.int v :: st))) target := XS.istoreN X.here B.exec rfl (hb B.bytes hd) rfl hl hr
theorem zn (X : Stand p l e R s m args below meth c T locs cells slots) (B : BodyLoose p l y S bs ml rt e s' m a' b' meth c sa) {cd : ClassFile.Cond} {u v : Int32} (hd : decode bs pc = .ok (.if_icmp cd o, 3)) (hc : if_icmp.holds cd u v = false) (hr : Steps p.tables e below (T.setTop (mkF m (pc + 3) Ls st)) target) : Steps p.tables e below (T.setTop (mkF m pc Ls (.int v :: .int u :: st))) target := XS.icmpNo X.here B.exec rfl (hb B.bytes hd) rfl hc hr
theorem zy (X : Stand p l e R s m args below meth c T locs cells slots) (B : BodyLoose p l y S bs ml rt e s' m a' b' meth c sa) {cd : ClassFile.Cond} {u v : Int32} (hd : decode bs pc = .ok (.if_icmp cd o, 3)) (hc : if_icmp.holds cd u v = true) (q : decide (0 ≤ (pc : Int) + o ∧ ((pc : Int) + o).toNat = pc') = true) (hr : Steps p.tables e below (T.setTop (mkF m pc' Ls st)) target) : Steps p.tables e below (T.setTop (mkF m pc Ls (.int v :: .int u :: st))) target := XS.icmpYes X.here B.exec rfl rfl (hb B.bytes hd) rfl hc (of_decide_eq_true q).1 (of_decide_eq_true q).2 hr
theorem zo (X : Stand p l e R s m args below meth c T locs cells slots) (B : BodyLoose p l y S bs ml rt e s' m a' b' meth c sa) {cd : ClassFile.Cond} {u : Int32} (hd : decode bs pc = .ok (.ifCond cd o, 3)) (hc : ifCond.holds cd u = false) (hr : Steps p.tables e below (T.setTop (mkF m (pc + 3) Ls st)) target) : Steps p.tables e below (T.setTop (mkF m pc Ls (.int u :: st))) target := XS.ifNo X.here B.exec rfl (hb B.bytes hd) rfl hc hr
theorem zp (X : Stand p l e R s m args below meth c T locs cells slots) (B : BodyLoose p l y S bs ml rt e s' m a' b' meth c sa) {cd : ClassFile.Cond} {u : Int32} (hd : decode bs pc = .ok (.ifCond cd o, 3)) (hc : ifCond.holds cd u = true) (q : decide (0 ≤ (pc : Int) + o ∧ ((pc : Int) + o).toNat = pc') = true) (hr : Steps p.tables e below (T.setTop (mkF m pc' Ls st)) target) : Steps p.tables e below (T.setTop (mkF m pc Ls (.int u :: st))) target := XS.ifYes X.here B.exec rfl rfl (hb B.bytes hd) rfl hc (of_decide_eq_true q).1 (of_decide_eq_true q).2 hr
theorem zg (X : Stand p l e R s m args below meth c T locs cells slots) (B : BodyLoose p l y S bs ml rt e s' m a' b' meth c sa) (hd : decode bs pc = .ok (.goto o, 3)) (q : decide (0 ≤ (pc : Int) + o ∧ ((pc : Int) + o).toNat = pc') = true) (hr : Steps p.tables e below (T.setTop (mkF m pc' Ls st)) target) : Steps p.tables e below (T.setTop (mkF m pc Ls st)) target := XS.goto X.here B.exec rfl rfl (hb B.bytes hd) (of_decide_eq_true q).1 (of_decide_eq_true q).2 hr
end Own4
abbrev MW (l : Launch) (Z : State) (EL : List (String × Nat)) (y : MethodName) (cd : ByteArray) (ml : Nat) (rt : Option FieldType) (R : Room) (a : Array Value) (h0 : Heap) (Q : Option Value → Heap → List Loc → Prop) : Prop :=
  MetFree l y (head1 [Jvm.Cond.code y cd ml rt] R) (fun b U => b = a ∧ Z.Warmed39 U.vm ∧ U.heap = h0 ∧ CHv Z EL U.vm h0) (fun _ _ _ _ _ => True) (fun _ U o U' => ∃ v L, o = .returned v ∧ Q v U'.heap L ∧ CHr Z EL U.vm U.heap U'.vm U'.heap ∧ ReturnedEndW U o U' L R.cells R.slots)
theorem own_sW {l : Launch} {Z : State} {EL : List (String × Nat)} {y : MethodName} {cd : ByteArray} {ml : Nat} {rt : Option FieldType} {R : Room} {a : Array Value} {h0 : Heap} {Q : Option Value → Heap → List Loc → Prop} {K : String} {L0 : Array Slot} (hpn : plainName K = true) (hK : y.cls = K) (hE : ∀ m, entryFrame m a ml = mkF m 0 L0 [])
    (H : ∀ p e s m below meth c s₁, BodyLoose p l y (head1 [Jvm.Cond.code y cd ml rt] R) cd ml rt e s m a below meth c s₁ → Z.Warmed39 s.vm → s.heap = h0 → p.tables.exec = Jvm.exec → c.code = cd → c.maxLocals = ml → s.vm.findClass K = some m.cls → meth.name = y.name → Stand p l e R (s.setVm s.vm) m a below meth c s₁ [] 0 0 → s₁.heap = h0 → (∀ t, Steps p.tables e below (s₁.setTop (mkF m 0 L0 [])) t → Steps p.tables e below (s₁.setTop (entryFrame m a ml)) t) →
      CHv Z EL s.vm h0 → s.Since s.vm h0.size → h0.size ≤ h0.size → CHr Z EL s.vm h0 s.vm h0 →
      ∃ s₂ o, Steps p.tables e below (s₁.setTop (entryFrame m a ml)) s₂ ∧ s₂.status = .running ∧ Ended s₂ below o ∧ ∃ v L, o = .returned v ∧ Q v s₂.heap L ∧ CHr Z EL s.vm s.heap s₂.vm s₂.heap ∧ ReturnedEndW s o s₂ L R.cells R.slots) : MW l Z EL y cd ml rt R a h0 Q := by
  subst hK
  refine MetFree.of_bodySF (plainFor_of_name hpn) hisR ?_
  intro p e s m args below meth c s₁ Bd hml0 hP hK
  obtain ⟨rfl, hZ, hh, hC0⟩ := hP
  exact H p e s m below meth c s₁ Bd hZ hh Bd.exec Bd.bytes hml0 (findClass_of_methodNamed Bd.named) (name_of_methodNamed Bd.named Bd.method).1 (Stand.of_body Bd) (by rw [← hh, Bd.state]; rfl) (fun t k => castTop (hE m) k) hC0 ((State.WarmedH.refl s).since _) (Nat.le_refl _) (CHr.refl hC0)
theorem own_nf {s : State} {args : Array Value} {y x z : MethodName} {C : String} (h : (Cond.selects C x z).before args s = true) (e : z.cls = y.cls) : NotFace s y := fun r0 h0 => by
  obtain ⟨c2, r2, m2, q1, q2, q3, q4, kP, hkP, hkPi⟩ := Cond.selects_spec h
  have h1 := findClass_of_methodNamed q3
  have h2 := findClass_of_methodNamed h0
  rw [e] at h1
  have e2 : m2.cls = r0.cls := Option.some.inj (h1.symm.trans h2)
  exact ⟨kP, e2 ▸ hkP, hkPi⟩
theorem own_same {s : State} {args : Array Value} {y x z : MethodName} {C : String} (hi : (Cond.instanceMethod y).before args s = true) (h : (Cond.selects C x z).before args s = true) (e : z.cls = y.cls) (hy : y.cls ≠ "java/lang/invoke/MethodHandle" ∧ y.cls ≠ "java/lang/invoke/VarHandle") : (Cond.sameMethod y.cls y.cls y.name y.desc).before args s = true := by
  obtain ⟨mk, methM, hnamed, hmethM, -, -⟩ := Cond.instanceMethod_spec hi
  have hfound : s.methodFound? y.cls y.name y.desc = some mk := State.methodFound?_of_named hnamed hy
  obtain ⟨kr, k1, k2⟩ := own_nf (y := y) h e mk hnamed
  have hc := findClass_of_methodNamed hnamed
  have hn : s.methodNamed? ⟨y.cls, y.name, y.desc⟩ = some mk := hnamed
  simp [Cond.before, Cond.holds, Cond.value, hc, hfound, hn, k1, k2]
theorem own_ws {a0 : Array Value} {Z : State} (hw : ∀ d ∈ tables_1, d.before a0 Z = true) : ∀ d ∈ StrChars.Road.words, d.before a0 Z = true := fun d hd => hw d ((by decide +kernel : ∀ d ∈ StrChars.Road.words, d ∈ tables_1) d hd)
theorem own_wl {a0 : Array Value} {Z : State} (hw : ∀ d ∈ tables_1, d.before a0 Z = true) : ∀ d ∈ StrChars.Road.wordsLen, d.before a0 Z = true := fun d hd => hw d ((by decide +kernel : ∀ d ∈ StrChars.Road.wordsLen, d ∈ tables_1) d hd)
theorem own_wq {a0 : Array Value} {Z : State} (hw : ∀ d ∈ tables_1, d.before a0 Z = true) : ∀ d ∈ StrChars.Road.wordsEq, d.before a0 Z = true := fun d hd => hw d ((by decide +kernel : ∀ d ∈ StrChars.Road.wordsEq, d ∈ tables_1) d hd)
theorem own_wc {a0 : Array Value} {Z : State} (hw : ∀ d ∈ tables_1, d.before a0 Z = true) : ∀ d ∈ StrChars.Road.wordsChN, d.before a0 Z = true := fun d hd => hw d ((by decide +kernel : ∀ d ∈ StrChars.Road.wordsChN, d ∈ tables_1) d hd)
theorem own_wS {a0 : Array Value} {Z : State} (hw : ∀ d ∈ tables_1, d.before a0 Z = true) : ∀ d ∈ Bundle.stringAtoms, d.before a0 Z = true := fun d hd => hw d ((by decide +kernel : ∀ d ∈ Bundle.stringAtoms, d ∈ tables_1) d hd)
theorem own_safe_null {Z : State} {EL : List (String × Nat)} {vm : Vm} {h : Heap} {x : Addr} (hal : Z.vm.Alike vm) (E : Exa Z h x "java/lang/String") (F : Fld Z h x "java/lang/String" "value" "[B" .null) : Safe Z EL vm h x := fun B => by
  obtain ⟨cell, k, e1, e2, e3, -, -⟩ := E
  obtain ⟨cell', cf, k', i, f, f1, f2, f3, -, -, -, f7⟩ := F
  cases e1.symm.trans f1
  obtain ⟨p, -, u, a, -, q, -, G, rfl | rfl⟩ := B
  · cases (show h[q.sa]? = some q.sC from G.ha).symm.trans e1
    obtain ⟨cS, ⟨⟨s1, s2, s3, ⟨cv, kv, iv, s4, s4'⟩, -, s6, s7, s8, -⟩, -, -⟩, -⟩ := G
    obtain ⟨kv', z4⟩ := ff_back (U := Wst Z vm h) hal s4
    cases z4.symm.trans f2
    rw [s8] at f7
    cases f7
  · cases (show h[q.sd]? = some q.SA from G.hd).symm.trans e1
    obtain ⟨cS, -, -, hB, -⟩ := G
    have hB : vm.findClass "[B" = some q.SA.cls := hB
    rw [hal.findClass] at hB
    obtain ⟨k1, q1, q2⟩ := Vm.findClass_spec hB
    obtain ⟨k2, q3, q4⟩ := Vm.findClass_spec e2
    cases q1.symm.trans q3
    exact absurd (q2.symm.trans q4) (by decide)
theorem own_EW {a0 : Array Value} {Z : State} (hw : ∀ d ∈ tables_1, d.before a0 Z = true) : EW Z a0 consts_1 := (EW.cons (own := "java/lang/String") (index := 7) (text := "") (w108_ hw) (by decide) EW.nil)
def own_HasE (args : Array Value) (s : State) (t : Term) : Nat → List Value → Prop
  | _, [] => True
  | i, v :: r => (Term.elem t (.int (Int32.ofNat i))).eval args s none [] s = some v ∧ own_HasE args s t (i + 1) r
theorem own_eqv_r {s : State} {args : Array Value} {X F : Term} {a : Addr} (hF : F.eval args s none [] s = some (.ref a)) (h : (Cond.eq X F).value args s none s [] = some true) : X.eval args s none [] s = some (.ref a) := by
  obtain ⟨x, y', e1, e2, k1, k2⟩ := cmp_v (Or.inl h)
  cases hF.symm.trans e2
  have hx : x.isRef = true := k2.2
  exact e1.trans (congrArg some (gotT (eq_R e1 e2 hx rfl) h))
theorem own_hasL {args : Array Value} {s : State} {t : Term} {a : Addr} {c : Cell} (ev : t.eval args s none [] s = some (.ref a)) (hc : s.heap[a]? = some c) : ∀ (vs : List Value) (i : Nat), i + vs.length < 2 ^ 31 → own_HasE args s t i vs → HasL c i vs
  | [], _, _, _ => trivial
  | v :: r, i, hi, ⟨h1, h2⟩ => by
    have hi' : i < 2 ^ 31 := by simp only [List.length_cons] at hi; omega
    have e1 : (Int32.ofNat i).toNatClampNeg = i := by
      have := Int32.toInt_ofNat_small (n := i) (by omega)
      simp only [Int32.toNatClampNeg]; omega
    have q := (elem_in h1 ev rfl hc).2
    rw [e1] at q
    exact ⟨q, own_hasL ev hc r (i + 1) (by simp only [List.length_cons] at hi; omega) h2⟩
theorem own_arr {s : State} {args : Array Value} (hf : Fit s) {t : Term} {a : Addr} {ty : FieldType} {n : Int32} {vs : List Value} {dv : Value} (ev : t.eval args s none [] s = some (.ref a)) (h1 : (Cond.arrayOf t ty).value args s none s [] = some true)
    (h2 : (Term.length t).eval args s none [] s = some (.int n)) (hn : ¬ n < 0) (hl : n.toNatClampNeg = vs.length) (he : own_HasE args s t 0 vs) : ∃ k, Arv s s.heap a k ty n vs dv := by
  obtain ⟨c, A⟩ := Arr.start ev h1
  have ha := A.fin (Vm.Alike.refl _)
  obtain ⟨a', c', e1, e2, e3⟩ := Term.length_spec h2
  cases ev.symm.trans e1
  cases ha.symm.trans e2
  have hsz : c.slots.size < 2 ^ 31 := by
    refine Nat.lt_of_not_le fun q => ?_
    simp [Term.eval, ev, ha, Nat.not_lt.mpr q] at h2
  have hb := (back32 hn).2
  exact ⟨_, Arv.start hf A hsz (Value.int.inj e3).symm hn hl (own_hasL ev A.1 vs 0 (by omega) he)⟩
def OwnEN (Z : State) (Gg0 : Addr) (Gg1 : Addr) (Gg2 : Addr) (Gg3 : Addr) (Gg4 : Addr) (Gg5 : Addr) (Gg6 : Addr) (Gg7 : Addr) (Gg8 : Addr) (Gg9 : Addr) (Gg10 : Addr) (Gg11 : Addr) (Gg12 : Addr) (Gg13 : Addr) (Gg14 : Addr) (Gg15 : Addr) (Kg16 : ClassId) (Kg17 : ClassId) (Kg18 : ClassId) (Kg19 : ClassId) (Kg20 : ClassId) (Kg21 : ClassId) : Prop := Sta Z Z.heap "com/example/hearthline/hearthline/session/Session$Measurement$SpecialValue" "NAN" "Lcom/example/hearthline/hearthline/session/Session$Measurement$SpecialValue;" (.ref Gg0) ∧ Exa Z Z.heap Gg0 "com/example/hearthline/hearthline/session/Session$Measurement$SpecialValue" ∧ Sta Z Z.heap "com/example/hearthline/hearthline/session/Session$Measurement$SpecialValue" "$VALUES" "[Lcom/example/hearthline/hearthline/session/Session$Measurement$SpecialValue;" (.ref Gg1) ∧ Exa Z Z.heap Gg1 "[Lcom/example/hearthline/hearthline/session/Session$Measurement$SpecialValue;" ∧ Sta Z Z.heap "com/example/hearthline/hearthline/session/Session$Measurement$SpecialValue" "NRES" "Lcom/example/hearthline/hearthline/session/Session$Measurement$SpecialValue;" (.ref Gg2) ∧ Exa Z Z.heap Gg2 "com/example/hearthline/hearthline/session/Session$Measurement$SpecialValue" ∧ Sta Z Z.heap "com/example/hearthline/hearthline/session/Session$Measurement$SpecialValue" "POSITIVE_INFINITY" "Lcom/example/hearthline/hearthline/session/Session$Measurement$SpecialValue;" (.ref Gg3) ∧ Exa Z Z.heap Gg3 "com/example/hearthline/hearthline/session/Session$Measurement$SpecialValue" ∧ Sta Z Z.heap "com/example/hearthline/hearthline/session/Session$Measurement$SpecialValue" "NEGATIVE_INFINITY" "Lcom/example/hearthline/hearthline/session/Session$Measurement$SpecialValue;" (.ref Gg4) ∧ Exa Z Z.heap Gg4 "com/example/hearthline/hearthline/session/Session$Measurement$SpecialValue" ∧ Sta Z Z.heap "com/example/hearthline/hearthline/session/Session$Measurement$SpecialValue" "RESERVED" "Lcom/example/hearthline/hearthline/session/Session$Measurement$SpecialValue;" (.ref Gg5) ∧ Exa Z Z.heap Gg5 "com/example/hearthline/hearthline/session/Session$Measurement$SpecialValue" ∧ Fld Z Z.heap Gg0 "com/example/hearthline/hearthline/session/Session$Measurement$SpecialValue" "text" "Ljava/lang/String;" (.ref Gg6) ∧ Exa Z Z.heap Gg6 "java/lang/String" ∧ Fld Z Z.heap Gg2 "com/example/hearthline/hearthline/session/Session$Measurement$SpecialValue" "text" "Ljava/lang/String;" (.ref Gg7) ∧ Exa Z Z.heap Gg7 "java/lang/String" ∧ Fld Z Z.heap Gg3 "com/example/hearthline/hearthline/session/Session$Measurement$SpecialValue" "text" "Ljava/lang/String;" (.ref Gg8) ∧ Exa Z Z.heap Gg8 "java/lang/String" ∧ Fld Z Z.heap Gg4 "com/example/hearthline/hearthline/session/Session$Measurement$SpecialValue" "text" "Ljava/lang/String;" (.ref Gg9) ∧ Exa Z Z.heap Gg9 "java/lang/String" ∧ Fld Z Z.heap Gg5 "com/example/hearthline/hearthline/session/Session$Measurement$SpecialValue" "text" "Ljava/lang/String;" (.ref Gg10) ∧ Exa Z Z.heap Gg10 "java/lang/String" ∧ Fld Z Z.heap Gg6 "java/lang/String" "value" "[B" (.ref Gg11) ∧ Fld Z Z.heap Gg7 "java/lang/String" "value" "[B" (.ref Gg12) ∧ Fld Z Z.heap Gg8 "java/lang/String" "value" "[B" (.ref Gg13) ∧ Fld Z Z.heap Gg9 "java/lang/String" "value" "[B" (.ref Gg14) ∧ Fld Z Z.heap Gg10 "java/lang/String" "value" "[B" (.ref Gg15) ∧ Fld Z Z.heap Gg6 "java/lang/String" "coder" "B" (.int 0) ∧ Fld Z Z.heap Gg7 "java/lang/String" "coder" "B" (.int 0) ∧ Fld Z Z.heap Gg8 "java/lang/String" "coder" "B" (.int 0) ∧ Fld Z Z.heap Gg9 "java/lang/String" "coder" "B" (.int 0) ∧ Fld Z Z.heap Gg10 "java/lang/String" "coder" "B" (.int 0) ∧ Arv Z Z.heap Gg1 Kg16 (.object "com/example/hearthline/hearthline/session/Session$Measurement$SpecialValue") (5 : Int32) [.ref Gg0, .ref Gg2, .ref Gg3, .ref Gg4, .ref Gg5] .null ∧ Arv Z Z.heap Gg11 Kg17 .byte (3 : Int32) [.int 78, .int 97, .int 78] (.int 0) ∧ Arv Z Z.heap Gg12 Kg18 .byte (4 : Int32) [.int 78, .int 82, .int 101, .int 115] (.int 0) ∧ Arv Z Z.heap Gg13 Kg19 .byte (4 : Int32) [.int 43, .int 73, .int 78, .int 70] (.int 0) ∧ Arv Z Z.heap Gg14 Kg20 .byte (4 : Int32) [.int 45, .int 73, .int 78, .int 70] (.int 0) ∧ Arv Z Z.heap Gg15 Kg21 .byte (8 : Int32) [.int 114, .int 101, .int 115, .int 101, .int 114, .int 118, .int 101, .int 100] (.int 0)
theorem own_rem8 (x : Int32) (h0 : ¬ ((x &&& (2147483647 : Int32)) % (8 : Int32)) = (0 : Int32)) (h1 : ¬ ((x &&& (2147483647 : Int32)) % (8 : Int32)) = (1 : Int32)) (h2 : ¬ ((x &&& (2147483647 : Int32)) % (8 : Int32)) = (2 : Int32)) (h3 : ¬ ((x &&& (2147483647 : Int32)) % (8 : Int32)) = (3 : Int32)) (h4 : ¬ ((x &&& (2147483647 : Int32)) % (8 : Int32)) = (4 : Int32)) (h5 : ¬ ((x &&& (2147483647 : Int32)) % (8 : Int32)) = (5 : Int32)) (h6 : ¬ ((x &&& (2147483647 : Int32)) % (8 : Int32)) = (6 : Int32)) : ((x &&& (2147483647 : Int32)) % (8 : Int32)) = (7 : Int32) := by
  have g0 : ¬ (x &&& (2147483647 : Int32)) < 0 := fun h => absurd ((XT.and_neg32 _ _).mp h).2 (by decide)
  have g1 : 0 ≤ (x &&& (2147483647 : Int32)).toInt := by rw [XT.negI32] at g0; omega
  have e8 : (8 : Int32).toInt = 8 := rfl
  have a1 := Int.tmod_nonneg 8 g1
  have a2 := Int.tmod_lt_of_pos (x &&& (2147483647 : Int32)).toInt (b := 8) (by decide)
  have e : ((x &&& (2147483647 : Int32)) % (8 : Int32)).toInt = (x &&& (2147483647 : Int32)).toInt.tmod 8 := by rw [Int32.toInt_mod, e8]
  have ne : ∀ k : Int32, ¬ ((x &&& (2147483647 : Int32)) % (8 : Int32)) = k → ¬ ((x &&& (2147483647 : Int32)) % (8 : Int32)).toInt = k.toInt := fun k h q => h (Int32.toInt_inj.mp q)
  have b0 := ne _ h0; have b1 := ne _ h1; have b2 := ne _ h2; have b3 := ne _ h3; have b4 := ne _ h4; have b5 := ne _ h5; have b6 := ne _ h6
  have c0 : (0 : Int32).toInt = 0 := rfl
  have c1 : (1 : Int32).toInt = 1 := rfl
  have c2 : (2 : Int32).toInt = 2 := rfl
  have c3 : (3 : Int32).toInt = 3 := rfl
  have c4 : (4 : Int32).toInt = 4 := rfl
  have c5 : (5 : Int32).toInt = 5 := rfl
  have c6 : (6 : Int32).toInt = 6 := rfl
  have c7 : (7 : Int32).toInt = 7 := rfl
  apply Int32.toInt_inj.mp
  rw [c0] at b0; rw [c1] at b1; rw [c2] at b2; rw [c3] at b3; rw [c4] at b4; rw [c5] at b5; rw [c6] at b6
  rw [c7]; omega
def own_sv (a b c d e : Addr) (cs : List Int32) : Value := if cs = ([78, 97, 78] : List Int32) then .ref a else if cs = ([78, 82, 101, 115] : List Int32) then .ref b else if cs = ([43, 73, 78, 70] : List Int32) then .ref c else if cs = ([45, 73, 78, 70] : List Int32) then .ref d else if cs = ([114, 101, 115, 101, 114, 118, 101, 100] : List Int32) then .ref e else .null
theorem own_svR (a b c d e : Addr) (cs : List Int32) : (own_sv a b c d e cs).isRef = true := by
  unfold own_sv
  repeat' split
  all_goals rfl
theorem ef0 (m : MethodId) (x0 : Int32) (x1 : Int32) (x2 : Int32) (x3 : Int32) (x4 : Int32) : entryFrame m #[.int x0, .int x1, .int x2, .int x3, .int x4] maxLocals = mkF m 0 #[.val (.int x0), .val (.int x1), .val (.int x2), .val (.int x3), .val (.int x4), .unset, .unset, .unset, .unset, .unset, .unset] [] := by first | (simp [entryFrame, mkF, argsToLocals, Value.category, maxLocals]; done) | rfl
theorem pn0 : plainName "com/example/hearthline/hearthline/session/SpecialValueOfPinLaw" = true := by first | (simp [plainName, overriddenIn]; done) | decide +kernel
theorem ef1 (m : MethodId) (x0 : Addr) (x1 : Int32) : entryFrame m #[.ref x0, .int x1] 2 = mkF m 0 #[.val (.ref x0), .val (.int x1)] [] := by first | (simp [entryFrame, mkF, argsToLocals, Value.category]; done) | rfl
theorem d0_0 : decode method_3_code 0 = .ok (.iload_n 1, 1) := by decide +kernel
theorem d0_1 : decode method_3_code 1 = .ok (.ifCond .ne 14, 3) := by decide +kernel
theorem d0_4 : decode method_3_code 4 = .ok (.new 23, 3) := by decide +kernel
theorem d0_7 : decode method_3_code 7 = .ok (.dup, 1) := by decide +kernel
theorem d0_8 : decode method_3_code 8 = .ok (.iconst 0, 1) := by decide +kernel
theorem d0_9 : decode method_3_code 9 = .ok (.newarray .char, 2) := by decide +kernel
theorem d0_11 : decode method_3_code 11 = .ok (.invokespecial 25, 3) := by decide +kernel
theorem ef2 (m : MethodId) (x0 : Addr) (x1 : Addr) : entryFrame m #[.ref x0, .ref x1] 2 = mkF m 0 #[.val (.ref x0), .val (.ref x1)] [] := by first | (simp [entryFrame, mkF, argsToLocals, Value.category]; done) | rfl
theorem pn1 : plainName "java/lang/String" = true := by first | (simp [plainName, overriddenIn]; done) | decide +kernel
theorem d1_0 : decode jdk_42_method_3_code 0 = .ok (.aload_n 0, 1) := by decide +kernel
theorem d1_1 : decode jdk_42_method_3_code 1 = .ok (.aload_n 1, 1) := by decide +kernel
theorem d1_2 : decode jdk_42_method_3_code 2 = .ok (.iconst 0, 1) := by decide +kernel
theorem d1_3 : decode jdk_42_method_3_code 3 = .ok (.aload_n 1, 1) := by decide +kernel
theorem d1_4 : decode jdk_42_method_3_code 4 = .ok (.arraylength, 1) := by decide +kernel
theorem d1_5 : decode jdk_42_method_3_code 5 = .ok (.aconst_null, 1) := by decide +kernel
theorem d1_6 : decode jdk_42_method_3_code 6 = .ok (.invokespecial 27, 3) := by decide +kernel
theorem ef3 (m : MethodId) (x0 : Addr) (x1 : Addr) (x2 : Int32) (x3 : Int32) : entryFrame m #[.ref x0, .ref x1, .int x2, .int x3, .null] 6 = mkF m 0 #[.val (.ref x0), .val (.ref x1), .val (.int x2), .val (.int x3), .val .null, .unset] [] := by first | (simp [entryFrame, mkF, argsToLocals, Value.category]; done) | rfl
theorem d2_0 : decode jdk_42_method_149_code 0 = .ok (.aload_n 0, 1) := by decide +kernel
theorem d2_1 : decode jdk_42_method_149_code 1 = .ok (.invokespecial 1, 3) := by decide +kernel
theorem d2_4 : decode jdk_42_method_149_code 4 = .ok (.iload_n 3, 1) := by decide +kernel
theorem d2_5 : decode jdk_42_method_149_code 5 = .ok (.ifCond .ne 22, 3) := by decide +kernel
theorem d2_8 : decode jdk_42_method_149_code 8 = .ok (.aload_n 0, 1) := by decide +kernel
theorem d2_9 : decode jdk_42_method_149_code 9 = .ok (.ldc 7, 2) := by decide +kernel
theorem d2_11 : decode jdk_42_method_149_code 11 = .ok (.getfield 9, 3) := by decide +kernel
theorem d2_14 : decode jdk_42_method_149_code 14 = .ok (.putfield 9, 3) := by decide +kernel
theorem d2_17 : decode jdk_42_method_149_code 17 = .ok (.aload_n 0, 1) := by decide +kernel
theorem d2_18 : decode jdk_42_method_149_code 18 = .ok (.ldc 7, 2) := by decide +kernel
theorem d2_20 : decode jdk_42_method_149_code 20 = .ok (.getfield 15, 3) := by decide +kernel
theorem d2_23 : decode jdk_42_method_149_code 23 = .ok (.putfield 15, 3) := by decide +kernel
theorem d2_26 : decode jdk_42_method_149_code 26 = .ok (.return_, 1) := by decide +kernel
-- java/lang/String.<init>([CIILjava/lang/Void;)V
def Q1 (Z : State) (qa1 : Addr) (h0 : Heap) (n0 : Nat) (v : Option Value) (h : Heap) (L : List Loc) : Prop := ∃ t2 : Addr, ∃ c2 : ClassId, v = none ∧ Fr n0 L ∧ Keep h0 h [qa1] ∧ Exa Z h qa1 "java/lang/String" ∧ Fld Z h qa1 "java/lang/String" "value" "[B" (.ref t2) ∧ Fld Z h qa1 "java/lang/String" "coder" "B" (.int 0) ∧ Arv Z h t2 c2 .byte (0 : Int32) [] (.int 0)
theorem rm1 (l : Launch) (Z : State) (a0 : Array Value) (hw : HW a0 Z) (qa1 : Addr) (qa2 : Addr) (h0 : Heap) (n0 : Nat) (X00 : Old Z n0 h0) (E_qa1 : Exa Z h0 qa1 "java/lang/String") (F_qa1_value : Fld Z h0 qa1 "java/lang/String" "value" "[B" .null) (g_qa1 : n0 ≤ qa1) (F_qa1_coder : Fld Z h0 qa1 "java/lang/String" "coder" "B" (.int 0)) :
    MW l Z consts_1 Y0_ jdk_42_method_149_code 6 none (Rm 1 4 8 12) #[.ref qa1, .ref qa2, .int 0, .int 0, .null] h0 (Q1 Z qa1 h0 n0) := by
 refine own_sW pn1 rfl (fun m => ef3 m qa1 qa2 (0 : Int32) (0 : Int32)) ?_
 intro p e s m below meth c s₁ Bd hZ hh hx hby hml hown hnm X0 e0 pre0 hC0 hS0 hk0 hR0
 have N0 := Fr.nil n0
 have hEL := own_EW hw
 have hwS := own_wS hw
 obtain ⟨T1, X1, e1, st1⟩ := initO X0 hx hZ hown (w16_ hw) (w17_ hw) (w18_ hw) e0 (g := (mkF m 1 #[rv qa1, rv qa2, iv 0, iv 0, .val .null, .unset] [.ref qa1])) rfl hml.symm rfl (hb hby d2_1) (by decide) (W := 0) (own_hw rfl) (lE rfl)
 obtain ⟨b2, T2, h2, k2, t2, c2, X2, e2, E2, hS2, hk2, hZ2, ho2, Ex2, Fc2, Fv2, Av2, lb2, lt2, CR2, -, sf2, st2⟩ := ldcCH (text := "") (EL := consts_1) X1 hx hZ hown (w108_ hw) hwS e1 hS0 hk0 hEL (by decide) hC0 (vs := []) (z := (0 : Int32)) ⟨by decide, by decide⟩ (by decide) (by decide) (g := (mkF m 9 #[rv qa1, rv qa2, iv 0, iv 0, .val .null, .unset] [.ref qa1])) rfl (hb hby d2_9) (n := 0) (by decide) (lE rfl) (lE rfl) (lE rfl)
 have K3 := (Keep.refl h0 [qa1]).ext E2
 have R5 := hR0.trans CR2
 replace X2 : Stand p l e (Rm 1 4 8 12) (s.setVm T2.vm) m #[.ref qa1, .ref qa2, .int 0, .int 0, .null] below meth c T2 _ 2 4 := X2
 obtain ⟨T6, X6, e6, st6⟩ := getF X2 hx hZ2 ho2 (host := "") (Or.inl (w33_ hw)) Via.refl e2 Fv2 (g := (mkF m 11 #[rv qa1, rv qa2, iv 0, iv 0, .val .null, .unset] [.ref b2, .ref qa1])) rfl rfl (hb hby d2_11)
 have F7_ := F_qa1_value.ext E2
 have E8_ := E_qa1.ext E2
 obtain ⟨T9, h9, X9, e9, W9, st9⟩ := putF X6 hx hZ2 ho2 (host := "") (Or.inl (w33_ hw)) Via.refl e6 F7_ E8_ (Or.inr ⟨(w34_ hw), rfl, hnm⟩) (w7_ hw) (ty := (.array .byte)) (by decide) rfl rfl (g := (mkF m 14 #[rv qa1, rv qa2, iv 0, iv 0, .val .null, .unset] [.ref t2, .ref qa1])) rfl rfl (hb hby d2_14)
 have N9 := Fr.snoc X9 N0 g_qa1
 have K10 := K3.wr W9 (Or.inl (mI 0 rfl))
 have f12 : Safe Z consts_1 T2.vm h2 qa1 := CR2.safe E_qa1.lt (own_safe_null hZ.alike E_qa1 F_qa1_value)
 have C11 : CHv Z consts_1 T2.vm h9 := CHv.wr W9 f12 CR2.1
 have R13 : CHr Z consts_1 s.vm h0 T2.vm h9 := R5.trans (CHr.wr W9 f12 CR2.1)
 have F14_ : Fld Z h9 qa1 "java/lang/String" "value" "[B" (.ref t2) := F7_.same W9
 have hk16' : _ ≤ h9.size := (Nat.le_trans hk2 (Nat.le_of_eq W9.size.symm))
 obtain ⟨b15, T15, h15, k15, t15, c15, X15, e15, E15, hS15, hk15, hZ15, ho15, Ex15, Fc15, Fv15, Av15, lb15, lt15, CR15, -, sf15, st15⟩ := ldcCH (text := "") (EL := consts_1) X9 hx hZ2 ho2 (w108_ hw) hwS e9 hS2 hk16' hEL (by decide) C11 (vs := []) (z := (0 : Int32)) ⟨by decide, by decide⟩ (by decide) (by decide) (g := (mkF m 18 #[rv qa1, rv qa2, iv 0, iv 0, .val .null, .unset] [.ref qa1])) rfl (hb hby d2_18) (n := 0) (by decide) (lE rfl) (lE rfl) (lE rfl)
 have K17 := K10.ext E15
 have R19 := R13.trans CR15
 replace X15 : Stand p l e (Rm 1 4 8 12) (s.setVm T15.vm) m #[.ref qa1, .ref qa2, .int 0, .int 0, .null] below meth c T15 _ 4 8 := X15
 obtain ⟨T20, X20, e20, st20⟩ := getF X15 hx hZ15 ho15 (host := "") (Or.inl (w31_ hw)) Via.refl e15 Fc15 (g := (mkF m 20 #[rv qa1, rv qa2, iv 0, iv 0, .val .null, .unset] [.ref b15, .ref qa1])) rfl rfl (hb hby d2_20)
 have F21_ := F_qa1_coder.ext E2
 have F22_ := F21_.other W9 (Or.inr (slot_ne (Or.inr (w32_ hw)) (Or.inr (w34_ hw)) (by decide) (t := .byte) (t' := (.array .byte)) (by decide) (by decide)))
 have F23_ := F22_.ext E15
 have E24_ := E8_.wr W9
 have E25_ := E24_.ext E15
 obtain ⟨T26, h26, X26, e26, W26, st26⟩ := putF X20 hx hZ15 ho15 (host := "") (Or.inl (w31_ hw)) Via.refl e20 F23_ E25_ (Or.inr ⟨(w32_ hw), rfl, hnm⟩) (w7_ hw) (ty := .byte) (by decide) rfl rfl (g := (mkF m 23 #[rv qa1, rv qa2, iv 0, iv 0, .val .null, .unset] [.int 0, .ref qa1])) rfl rfl (hb hby d2_23)
 have N26 := Fr.snoc X26 N9 g_qa1
 have K27 := K17.wr W26 (Or.inl (mI 0 rfl))
 have f29 : Safe Z consts_1 T2.vm h9 qa1 := Safe.wr W9 f12 CR2.1 f12
 have f30 : Safe Z consts_1 T15.vm h15 qa1 := CR15.safe (Nat.lt_of_lt_of_le E_qa1.lt (Nat.le_trans E2.1 (Nat.le_of_eq W9.size.symm))) f29
 have C28 : CHv Z consts_1 T15.vm h26 := CHv.wr W26 f30 CR15.1
 have R31 : CHr Z consts_1 s.vm h0 T15.vm h26 := R19.trans (CHr.wr W26 f30 CR15.1)
 have F32_ : Fld Z h26 qa1 "java/lang/String" "coder" "B" (.int 0) := F23_.same W26
 have E33_ := E25_.wr W26
 have F34_ := F14_.ext E15
 have F35_ := F34_.other W26 (Or.inr (slot_ne (Or.inr (w34_ hw)) (Or.inr (w32_ hw)) (by decide) (t := (.array .byte)) (t' := .byte) (by decide) (by decide)))
 have A36_ := Av2.other W9 (Ne.symm (sf2 qa1 f12).2)
 have A37_ := A36_.ext E15
 have A38_ := A37_.other W26 (Ne.symm (sf2 qa1 f12).2)
 have hk39' : _ ≤ h26.size := (Nat.le_trans hk15 (Nat.le_of_eq W26.size.symm))
 refine own_lvW X26 Bd.notSynchronized hS15 hk39' (v := none) (fun _ => rfl) e26 hh ⟨t2, c2, rfl, N26, K27, E33_, F35_, F32_, A38_⟩ (R31.trans (CHv.at X26 hZ15 hEL C28)) (lE rfl) (lE rfl) (fun fs hr => pre0 _ (by
  show Sx p e below s₁ m 0 #[rv qa1, rv qa2, iv 0, iv 0, .val .null, .unset] [] _
  refine zb X0 Bd d2_0 rfl rfl ?_
  refine st1 _ ?_
  refine zj X1 Bd d2_4 rfl ?_
  refine zo X1 Bd d2_5 (XT.i0_ne_f ((by decide) : (0 : Int32) = (0 : Int32))) ?_
  refine zb X1 Bd d2_8 rfl rfl ?_
  refine st2 _ ?_
  refine st6 _ ?_
  refine st9 _ ?_
  refine zb X9 Bd d2_17 rfl rfl ?_
  refine st15 _ ?_
  refine st20 _ ?_
  refine st26 _ ?_
  exact X26.returnOut hx Bd.returns (hb hby d2_26) hr))
theorem pd0 : parseMethodDescriptor "([CIILjava/lang/Void;)V" = some ⟨[(.array .char), .int, .int, (.object "java/lang/Void")], none⟩ := by decide +kernel
theorem d1_9 : decode jdk_42_method_3_code 9 = .ok (.return_, 1) := by decide +kernel
-- java/lang/String.<init>([C)V
def Q2 (Z : State) (qa1 : Addr) (h0 : Heap) (n0 : Nat) (v : Option Value) (h : Heap) (L : List Loc) : Prop := ∃ b3 : Addr, ∃ c4_ : ClassId, v = none ∧ Fr n0 L ∧ Keep h0 h [qa1] ∧ Exa Z h qa1 "java/lang/String" ∧ Fld Z h qa1 "java/lang/String" "value" "[B" (.ref b3) ∧ Fld Z h qa1 "java/lang/String" "coder" "B" (.int 0) ∧ Arv Z h b3 c4_ .byte (0 : Int32) [] (.int 0)
theorem rm2 (l : Launch) (Z : State) (a0 : Array Value) (hw : HW a0 Z) (qa1 : Addr) (qa2 : Addr) (qk3 : ClassId) (h0 : Heap) (n0 : Nat) (X00 : Old Z n0 h0) (A_qa2 : Arv Z h0 qa2 qk3 .char (0 : Int32) [] (.int 0)) (E_qa1 : Exa Z h0 qa1 "java/lang/String") (F_qa1_value : Fld Z h0 qa1 "java/lang/String" "value" "[B" .null) (g_qa1 : n0 ≤ qa1) (F_qa1_coder : Fld Z h0 qa1 "java/lang/String" "coder" "B" (.int 0)) :
    MW l Z consts_1 Y1_ jdk_42_method_3_code 2 none (Rm 2 4 8 29) #[.ref qa1, .ref qa2] h0 (Q2 Z qa1 h0 n0) := by
 refine own_sW pn1 rfl (fun m => ef2 m qa1 qa2) ?_
 intro p e s m below meth c s₁ Bd hZ hh hx hby hml hown hnm X0 e0 pre0 hC0 hS0 hk0 hR0
 have N0 := Fr.nil n0
 have hEL := own_EW hw
 have hwS := own_wS hw
 have av1 := A_qa2
 obtain ⟨cl1, Ar1, q1, S1, N1, H1, Gf1⟩ := av1
 obtain ⟨_, T2, L2, X2, hQ2, hS2, hZ2, ho2, CR2, st2⟩ := own_cbS 0 0 4 8 4 8 (X0.specialBackS hx (y := Y0_) rfl hown (mvT hZ (w12_ hw)) (mvT hZ (w13_ hw)) (mvT hZ (w15_ hw)) (by decide) (backOfSH (W := 0) (EL := consts_1) (s := s) (rm1 l Z a0 hw  qa1 qa2 h0 n0 X00 E_qa1 F_qa1_value g_qa1 F_qa1_coder) hZ (w15_ hw) (w8_ hw) (lE rfl) (lE rfl) hEL hC0) (g := (mkF m 6 #[rv qa1, rv qa2] [.null, .int 0, .int 0, .ref qa2, .ref qa1])) rfl hml.symm (Steps.refl _) (a := qa1) (argsL := [.ref qa2, .int 0, .int 0, .null]) (rest := []) (lenOf pd0 rfl) rfl (own_hw rfl) (hb hby d1_6) (fun _ _ => ⟨rfl, e0, (lE rfl : 0 + 4 ≤ _), (lE rfl : 0 + 8 ≤ _)⟩)) rfl rfl hS0 (by rw [e0]; exact hk0) hZ hown
 obtain ⟨b3, c4_, rfl, N2q, K2q, w5, w6, w7, w8⟩ := hQ2
 have N2 := Fr.app N0 N2q
 have hk2 : T2.heap.size ≤ T2.heap.size := Nat.le_refl _
 have K9 := (Keep.refl h0 [qa1]).trans K2q (allS (Or.inl (mI 0 rfl)) all0)
 have R11 := hR0.trans CR2
 have E12_ := E_qa1.keep K2q
 refine own_lvW X2 Bd.notSynchronized hS2 hk2 (v := none) (fun _ => rfl) rfl hh ⟨b3, c4_, rfl, N2, K9, E12_, w6, w7, w8⟩ (R11.trans (CHv.at X2 hZ2 hEL CR2.1)) (lE rfl) (lE rfl) (fun fs hr => pre0 _ (by
  show Sx p e below s₁ m 0 #[rv qa1, rv qa2] [] _
  refine zb X0 Bd d1_0 rfl rfl ?_
  refine zb X0 Bd d1_1 rfl rfl ?_
  refine zc X0 Bd d1_2 ?_
  refine zb X0 Bd d1_3 rfl rfl ?_
  refine X0.arraylength hx (by rw [e0]; exact Ar1.1) (State.isArrayOf_alike hZ.alike Ar1.2.1) (g := (mkF m 4 #[rv qa1, rv qa2] [.ref qa2, .int 0, .ref qa2, .ref qa1])) rfl rfl (hb hby d1_4) _ ?_
  rw [len_of S1 N1]
  refine XS.aconstNull X0.here hx rfl (hb hby d1_5) ?_
  refine st2.trans ?_
  exact X2.returnOut hx Bd.returns (hb hby d1_9) hr))
theorem pd1 : parseMethodDescriptor "([C)V" = some ⟨[(.array .char)], none⟩ := by decide +kernel
theorem d0_14 : decode method_3_code 14 = .ok (.areturn, 1) := by decide +kernel
-- com/example/hearthline/hearthline/session/SpecialValueOfPinLaw.str([CI)Ljava/lang/String;
def Q3 (Z : State)  (h0 : Heap) (n0 : Nat) (v : Option Value) (h : Heap) (L : List Loc) : Prop := ∃ b2 : Addr, ∃ b20 : Addr, ∃ c21_ : ClassId, v = some (.ref b2) ∧ Fr n0 L ∧ Keep h0 h [] ∧ h0.size ≤ b2 ∧ Exa Z h b2 "java/lang/String" ∧ Fld Z h b2 "java/lang/String" "value" "[B" (.ref b20) ∧ Fld Z h b2 "java/lang/String" "coder" "B" (.int 0) ∧ Arv Z h b20 c21_ .byte (0 : Int32) [] (.int 0)
theorem rm3 (l : Launch) (Z : State) (a0 : Array Value) (hw : HW a0 Z) (qa1 : Addr) (qi2 : Int32) (h0 : Heap) (n0 : Nat) (X00 : Old Z n0 h0) (hc1 : qi2 = (0 : Int32)) :
    MW l Z consts_1 Y2_ method_3_code 2 (some (.object "java/lang/String")) (Rm 3 6 12 43) #[.ref qa1, .int qi2] h0 (Q3 Z  h0 n0) := by
 refine own_sW pn0 rfl (fun m => ef1 m qa1 qi2) ?_
 intro p e s m below meth c s₁ Bd hZ hh hx hby hml hown hnm X0 e0 pre0 hC0 hS0 hk0 hR0
 have N0 := Fr.nil n0
 have hEL := own_EW hw
 have hwS := own_wS hw
 obtain ⟨T2, h2, X2, e2, E2, A2, D2, -, st2⟩ := newO X0 hx hZ hown (w6_ hw) (w7_ hw) (w8_ hw) e0 (g := (mkF m 4 #[rv qa1, iv qi2] [])) rfl (hb hby d0_4) (lE rfl) (lE rfl)
 obtain ⟨b2, g2⟩ : ∃ z, z = h0.size := ⟨_, rfl⟩
 rw [← g2] at A2 D2 st2
 replace X2 : Stand p l e (Rm 3 6 12 43) (s.setVm s.vm) m #[.ref qa1, .int qi2] below meth c T2 _ 1 4 := X2
 have K3 := (Keep.refl h0 []).ext E2
 have C4 : CHv Z consts_1 s.vm h2 := CHv.ext E2 hC0
 have R5 : CHr Z consts_1 s.vm h0 s.vm h2 := hR0.trans (CHr.ext E2 hC0)
 have F6_ : Fld Z h2 b2 "java/lang/String" "coder" "B" (.int 0) := D2 (Or.inr (w32_ hw)) (ty := .byte) (by decide)
 have F7_ : Fld Z h2 b2 "java/lang/String" "value" "[B" .null := D2 (Or.inr (w34_ hw)) (ty := (.array .byte)) (by decide)
 obtain ⟨T8, h8, c8, X8, e8, E8, A8, st8⟩ := newP (aty := .char) X2 hx hZ (w1_ hw) e2 (g := (mkF m 9 #[rv qa1, iv qi2] [.int 0, .ref b2, .ref b2])) rfl (hb hby d0_9) rfl (by decide) (cap := 0) (by decide) (lE rfl) (lE rfl) (lE rfl)
 obtain ⟨b8, g8⟩ : ∃ z, z = h2.size := ⟨_, rfl⟩
 rw [← g8] at A8 st8
 replace X8 : Stand p l e (Rm 3 6 12 43) (s.setVm s.vm) m #[.ref qa1, .int qi2] below meth c T8 _ 2 4 := X8
 have K9 := K3.ext E8
 have C10 : CHv Z consts_1 s.vm h8 := CHv.ext E8 C4
 have R11 : CHr Z consts_1 s.vm h0 s.vm h8 := R5.trans (CHr.ext E8 C4)
 have A12_ : Arv Z h8 b8 c8 .char (0 : Int32) [] (.int 0) := (Arv.new A8 (by decide)).pad (pad_rep [] (.int 0) 0)
 have E14_ := A2.ext E8
 have F15_ := F7_.ext E8
 have g_b2 : n0 ≤ b2 := Nat.le_trans (Nat.le_trans (Nat.le_of_eq X00.1.symm) X00.2.1) (Nat.le_of_eq g2.symm)
 have F16_ := F6_.ext E8
 have O17 := X00.ext E2
 have O18 := O17.ext E8
 have hk19' : _ ≤ h8.size := (Nat.le_trans (Nat.le_trans hk0 E2.1) E8.1)
 obtain ⟨_, T13, L13, X13, hQ13, hS13, hZ13, ho13, CR13, st13⟩ := own_cbS 2 4 4 8 6 12 (X8.specialBackS hx (y := Y1_) rfl hown (mvT hZ (w9_ hw)) (mvT hZ (w10_ hw)) (mvT hZ (w11_ hw)) (by decide) (backOfSH (W := 1) (EL := consts_1) (s := s) (rm2 l Z a0 hw  b2 b8 c8 h8 n0 O18 A12_ E14_ F15_ g_b2 F16_) hZ (w11_ hw) (w8_ hw) (lE rfl) (lE rfl) hEL C10) (g := (mkF m 11 #[rv qa1, iv qi2] [.ref b8, .ref b2, .ref b2])) rfl hml.symm (Steps.refl _) (a := b2) (argsL := [.ref b8]) (rest := [.ref b2]) (lenOf pd1 rfl) rfl (own_hw rfl) (hb hby d0_11) (fun _ _ => ⟨rfl, e8, (lE rfl : 2 + 4 ≤ _), (lE rfl : 4 + 8 ≤ _)⟩)) rfl rfl hS0 (by rw [e8]; exact hk19') hZ hown
 obtain ⟨b20, c21_, rfl, N13q, K13q, w22, w23, w24, w25⟩ := hQ13
 have N13 := Fr.app N0 N13q
 have hk13 : T13.heap.size ≤ T13.heap.size := Nat.le_refl _
 have sz_b2 : h0.size ≤ b2 := (Nat.le_of_eq g2.symm)
 have K26 := K9.trans K13q (allS (Or.inr sz_b2) all0)
 have R28 := R11.trans CR13
 have E29_ := E14_.keep K13q
 refine own_lvW X13 Bd.notSynchronized hS13 hk13 (v := (some (.ref b2))) (fun h => by rw [Bd.returns] at h; cases h) rfl hh ⟨b2, b20, c21_, rfl, N13, K26, sz_b2, E29_, w23, w24, w25⟩ (R28.trans (CHv.at X13 hZ13 hEL CR13.1)) (lE rfl) (lE rfl) (fun fs hr => pre0 _ (by
  show Sx p e below s₁ m 0 #[rv qa1, iv qi2] [] _
  refine zj X0 Bd d0_0 rfl ?_
  refine zo X0 Bd d0_1 (XT.i0_ne_f (hc1 : qi2 = (0 : Int32))) ?_
  refine st2 _ ?_
  refine XS.dup X2.here hx rfl (hb hby d0_7) rfl rfl ?_
  refine zc X2 Bd d0_8 ?_
  refine st8 _ ?_
  refine st13.trans ?_
  exact retOut X13 hx Bd.returns rfl (Or.inr (Or.inr (Or.inr (Or.inr ⟨rfl, rfl, rfl⟩)))) (hb hby d0_14) hr))
theorem pd2 : parseMethodDescriptor "([CI)Ljava/lang/String;" = some ⟨[(.array .char), .int], some (.object "java/lang/String")⟩ := by decide +kernel
theorem ef4 (m : MethodId) (x0 : Addr) : entryFrame m #[.ref x0] 3 = mkF m 0 #[.val (.ref x0), .unset, .unset] [] := by first | (simp [entryFrame, mkF, argsToLocals, Value.category]; done) | rfl
theorem d3_0 : decode method_4_code 0 = .ok (.aload_n 0, 1) := by decide +kernel
theorem d3_1 : decode method_4_code 1 = .ok (.invokevirtual 28, 3) := by decide +kernel
theorem pd3 : parseMethodDescriptor "()I" = some ⟨[], some .int⟩ := by decide +kernel
theorem d3_4 : decode method_4_code 4 = .ok (.istore_n 1, 1) := by decide +kernel
theorem d3_5 : decode method_4_code 5 = .ok (.iload_n 1, 1) := by decide +kernel
theorem d3_6 : decode method_4_code 6 = .ok (.iconst 3, 1) := by decide +kernel
theorem d3_7 : decode method_4_code 7 = .ok (.if_icmp .ne 39, 3) := by decide +kernel
theorem d3_46 : decode method_4_code 46 = .ok (.iload_n 1, 1) := by decide +kernel
theorem d3_47 : decode method_4_code 47 = .ok (.iconst 4, 1) := by decide +kernel
theorem d3_48 : decode method_4_code 48 = .ok (.if_icmp .ne 103, 3) := by decide +kernel
theorem d3_151 : decode method_4_code 151 = .ok (.iload_n 1, 1) := by decide +kernel
theorem d3_152 : decode method_4_code 152 = .ok (.bipush 8, 2) := by decide +kernel
theorem d3_154 : decode method_4_code 154 = .ok (.if_icmp .ne 91, 3) := by decide +kernel
theorem d3_245 : decode method_4_code 245 = .ok (.aconst_null, 1) := by decide +kernel
theorem d3_246 : decode method_4_code 246 = .ok (.areturn, 1) := by decide +kernel
-- com/example/hearthline/hearthline/session/SpecialValueOfPinLaw.ref(Ljava/lang/String;)Lcom/example/hearthline/hearthline/session/Session$Measurement$SpecialValue;
def Q4 (Z : State) (Gg0 : Addr) (Gg2 : Addr) (Gg3 : Addr) (Gg4 : Addr) (Gg5 : Addr) (h0 : Heap) (n0 : Nat) (v : Option Value) (h : Heap) (L : List Loc) : Prop := v = some (own_sv Gg0 Gg2 Gg3 Gg4 Gg5 ([] : List Int32)) ∧ Fr n0 L ∧ h = h0
theorem rm4 (l : Launch) (Z : State) (a0 : Array Value) (hw : HW a0 Z) (G1 : Int32) (Gg0 : Addr) (Gg1 : Addr) (Gg2 : Addr) (Gg3 : Addr) (Gg4 : Addr) (Gg5 : Addr) (Gg6 : Addr) (Gg7 : Addr) (Gg8 : Addr) (Gg9 : Addr) (Gg10 : Addr) (Gg11 : Addr) (Gg12 : Addr) (Gg13 : Addr) (Gg14 : Addr) (Gg15 : Addr) (Kg16 : ClassId) (Kg17 : ClassId) (Kg18 : ClassId) (Kg19 : ClassId) (Kg20 : ClassId) (Kg21 : ClassId) (qa1 : Addr) (qa2 : Addr) (qk3 : ClassId) (h0 : Heap) (n0 : Nat) (X00 : Old Z n0 h0) (O2 : Sta Z Z.heap "java/lang/String" "COMPACT_STRINGS" "Z" (.int G1)) (P5 : ¬ (G1 = (0 : Int32))) (hEN : OwnEN Z Gg0 Gg1 Gg2 Gg3 Gg4 Gg5 Gg6 Gg7 Gg8 Gg9 Gg10 Gg11 Gg12 Gg13 Gg14 Gg15 Kg16 Kg17 Kg18 Kg19 Kg20 Kg21) (E_qa1 : Exa Z h0 qa1 "java/lang/String") (F_qa1_coder : Fld Z h0 qa1 "java/lang/String" "coder" "B" (.int 0)) (F_qa1_value : Fld Z h0 qa1 "java/lang/String" "value" "[B" (.ref qa2)) (A_qa2 : Arv Z h0 qa2 qk3 .byte (0 : Int32) [] (.int 0)) :
    MF l Z Y3_ method_4_code 3 (some (.object "com/example/hearthline/hearthline/session/Session$Measurement$SpecialValue")) (Rm 2 0 0 25) #[.ref qa1] h0 (Q4 Z Gg0 Gg2 Gg3 Gg4 Gg5 h0 n0) := by
 refine own_sF pn0 rfl (fun m => ef4 m qa1) ?_
 intro p e s m below meth c s₁ Bd hZ hh hx hby hml hown hnm X0 e0 pre0
 have N0 := Fr.nil n0
 have hp2 : ∀ c ∈ ([] : List Int32), ¬ c < 0 ∧ ¬ (255 : Int32) < c := (fun _ q => nomatch q)
 have hcd3 : StrChars.Road.CodA ([] : List Int32) 0 (0 : Int32) [] := StrChars.Road.codOf (n := 0) rfl (fun x hx => (hp2 x hx).2)
 have hbd3 : ∀ x ∈ ([] : List Int32), ¬ x < 0 ∧ ¬ (65535 : Int32) < x := own_up _ hp2
 obtain ⟨cq1, kq1, q1a, q1b, q1c⟩ := isOf hZ e0 E_qa1
 obtain ⟨_, T1, L1, X1, hQ1, st1⟩ := own_cb0 0 0 0 0 0 0 (X0.virtualBack hx (y := Y4_) (z := Y4_) hown (mvT hZ (w38_ hw)) (mvT hZ (w39_ hw)) (notFace_of_selects (args := #[]) (mvT hZ (w41_ hw))) (mvT hZ (w41_ hw)) (mvT hZ (w40_ hw)) (by decide) (StrChars.Road.lenW (W := 0) hZ (own_wl hw) (kI := 4) (w7_ hw) E_qa1 F_qa1_value F_qa1_coder A_qa2 hcd3 hbd3 (O2.ext X00.2) P5 (lE rfl) (lE rfl) (lE rfl)) q1a q1c (g := (mkF m 1 #[rv qa1, .unset, .unset] [.ref qa1])) rfl hml.symm (Steps.refl _) (argsL := []) (rest := []) (lenOf pd3 rfl) rfl (own_hw rfl) (hb hby d3_1) (fun _ _ => ⟨rfl, e0, (lE rfl : 0 + 0 ≤ _), (lE rfl : 0 + 0 ≤ _)⟩)) rfl rfl
 dsimp only [Pt.U, Pt.locs, Pt.cells, Pt.slots] at hQ1
 obtain ⟨rfl, rfl, e1q⟩ := hQ1
 have N1 := Fr.app N0 (Fr.nil n0)
 refine own_lvF X1 Bd .null e1q ⟨(by simp [own_sv]), N1, rfl⟩ rfl (fun fs hr => pre0 _ (by
  show Sx p e below s₁ m 0 #[rv qa1, .unset, .unset] [] _
  refine zb X0 Bd d3_0 rfl rfl ?_
  refine st1.trans ?_
  refine zt X1 Bd d3_4 (l' := #[rv qa1, iv 0, .unset]) rfl ?_
  refine zj X1 Bd d3_5 rfl ?_
  refine zc X1 Bd d3_6 ?_
  refine zy (pc' := 46) X1 Bd d3_7 (XT.ii_ne_t ((by decide) : ¬ ((0 : Int32) = (3 : Int32)))) rfl ?_
  refine zj X1 Bd d3_46 rfl ?_
  refine zc X1 Bd d3_47 ?_
  refine zy (pc' := 151) X1 Bd d3_48 (XT.ii_ne_t ((by decide) : ¬ ((0 : Int32) = (4 : Int32)))) rfl ?_
  refine zj X1 Bd d3_151 rfl ?_
  refine zd X1 Bd d3_152 ?_
  refine zy (pc' := 245) X1 Bd d3_154 (XT.ii_ne_t ((by decide) : ¬ ((0 : Int32) = (8 : Int32)))) rfl ?_
  refine XS.aconstNull X1.here hx rfl (hb hby d3_245) ?_
  exact retOut X1 hx Bd.returns rfl (Or.inr (Or.inr (Or.inr (Or.inr ⟨rfl, rfl, rfl⟩)))) (hb hby d3_246) hr))
theorem pd4 : parseMethodDescriptor "(Ljava/lang/String;)Lcom/example/hearthline/hearthline/session/Session$Measurement$SpecialValue;" = some ⟨[(.object "java/lang/String")], some (.object "com/example/hearthline/hearthline/session/Session$Measurement$SpecialValue")⟩ := by decide +kernel
theorem ef5 (m : MethodId) (x0 : Addr) : entryFrame m #[.ref x0] 5 = mkF m 0 #[.val (.ref x0), .unset, .unset, .unset, .unset] [] := by first | (simp [entryFrame, mkF, argsToLocals, Value.category]; done) | rfl
theorem pn2 : plainName "com/example/hearthline/hearthline/session/Session$Measurement$SpecialValue" = true := by first | (simp [plainName, overriddenIn]; done) | decide +kernel
theorem d4_0 : decode prog_30_method_5_code 0 = .ok (.invokestatic 42, 3) := by decide +kernel
theorem ef6 (m : MethodId)  : entryFrame m #[] 0 = mkF m 0 #[] [] := by first | (simp [entryFrame, mkF, argsToLocals, Value.category]; done) | rfl
theorem d5_0 : decode prog_30_method_1_code 0 = .ok (.getstatic 19, 3) := by decide +kernel
theorem d5_3 : decode prog_30_method_1_code 3 = .ok (.invokevirtual 23, 3) := by decide +kernel
theorem d5_6 : decode prog_30_method_1_code 6 = .ok (.checkcast 24, 3) := by decide +kernel
theorem d5_9 : decode prog_30_method_1_code 9 = .ok (.areturn, 1) := by decide +kernel
-- com/example/hearthline/hearthline/session/Session$Measurement$SpecialValue.values()[Lcom/example/hearthline/hearthline/session/Session$Measurement$SpecialValue;
def Q5 (Z : State) (Gg0 : Addr) (Gg2 : Addr) (Gg3 : Addr) (Gg4 : Addr) (Gg5 : Addr) (Kg16 : ClassId) (h0 : Heap) (n0 : Nat) (v : Option Value) (h : Heap) (L : List Loc) : Prop := ∃ b2 : Addr, ∃ Kg16 : ClassId, v = some (.ref b2) ∧ Fr n0 L ∧ Keep h0 h [] ∧ h0.size ≤ b2 ∧ Exa Z h b2 "[Lcom/example/hearthline/hearthline/session/Session$Measurement$SpecialValue;" ∧ Arv Z h b2 Kg16 (.object "com/example/hearthline/hearthline/session/Session$Measurement$SpecialValue") (5 : Int32) [.ref Gg0, .ref Gg2, .ref Gg3, .ref Gg4, .ref Gg5] .null
theorem rm5 (l : Launch) (Z : State) (a0 : Array Value) (hw : HW a0 Z) (Gg0 : Addr) (Gg1 : Addr) (Gg2 : Addr) (Gg3 : Addr) (Gg4 : Addr) (Gg5 : Addr) (Gg6 : Addr) (Gg7 : Addr) (Gg8 : Addr) (Gg9 : Addr) (Gg10 : Addr) (Gg11 : Addr) (Gg12 : Addr) (Gg13 : Addr) (Gg14 : Addr) (Gg15 : Addr) (Kg16 : ClassId) (Kg17 : ClassId) (Kg18 : ClassId) (Kg19 : ClassId) (Kg20 : ClassId) (Kg21 : ClassId) (h0 : Heap) (n0 : Nat) (X00 : Old Z n0 h0) (hEN : OwnEN Z Gg0 Gg1 Gg2 Gg3 Gg4 Gg5 Gg6 Gg7 Gg8 Gg9 Gg10 Gg11 Gg12 Gg13 Gg14 Gg15 Kg16 Kg17 Kg18 Kg19 Kg20 Kg21) :
    MF l Z Y5_ prog_30_method_1_code 0 (some (.array (.object "com/example/hearthline/hearthline/session/Session$Measurement$SpecialValue"))) (Rm 1 1 5 14) #[] h0 (Q5 Z Gg0 Gg2 Gg3 Gg4 Gg5 Kg16 h0 n0) := by
 refine own_sF pn2 rfl (fun m => ef6 m ) ?_
 intro p e s m below meth c s₁ Bd hZ hh hx hby hml hown hnm X0 e0 pre0
 have N0 := Fr.nil n0
 obtain ⟨T1, X1, e1, st1⟩ := getS2 X0 hx hZ hown (host := "") (Or.inl (w79_ hw)) Via.refl e0 (hEN.2.2.1.ext X00.2) (g := (mkF m 0 #[] [])) rfl (hb hby d5_0)
 obtain ⟨T2, h2, X2, e2, E2, A2, Ex2, st2⟩ := cloneH X1 hx hZ hown (w81_ hw) (w82_ hw) (w86_ hw) (w84_ hw) (w85_ hw) (w87_ hw) e1 (Arv.arh (hEN.2.2.2.2.2.2.2.2.2.2.2.2.2.2.2.2.2.2.2.2.2.2.2.2.2.2.2.2.2.2.2.2.1.ext X00.2)) (hEN.2.2.2.1.ext X00.2) (g := (mkF m 3 #[] [.ref Gg1])) rfl hml.symm rfl (hb hby d5_3) (by decide) (W := 0) (cap := 5) (own_hw rfl) (by decide) (by decide) (by decide) (by decide)
 obtain ⟨b2, g2⟩ : ∃ z, z = h0.size := ⟨_, rfl⟩
 rw [← g2] at A2 Ex2 st2
 replace X2 : Stand p l e (Rm 1 1 5 14) s m #[] below meth c T2 _ 1 5 := X2
 have K3 := (Keep.refl h0 []).ext E2
 have A4_ : Arv Z h2 b2 Kg16 (.object "com/example/hearthline/hearthline/session/Session$Measurement$SpecialValue") (5 : Int32) [.ref Gg0, .ref Gg2, .ref Gg3, .ref Gg4, .ref Gg5] .null := A2
 obtain ⟨T5, X5, e5, st5⟩ := castY X2 hx hZ hown (w93_ hw) e2 (Ins.self Ex2) (g := (mkF m 6 #[] [.ref b2])) rfl rfl (hb hby d5_6)
 have sz_b2 : h0.size ≤ b2 := (Nat.le_of_eq g2.symm)
 refine own_lvF X5 Bd (.ref b2) e5 ⟨b2, Kg16, rfl, N0, K3, sz_b2, Ex2, A4_⟩ rfl (fun fs hr => pre0 _ (by
  show Sx p e below s₁ m 0 #[] [] _
  refine st1 _ ?_
  refine st2 _ ?_
  refine st5 _ ?_
  exact retOut X5 hx Bd.returns rfl (Or.inr (Or.inr (Or.inr (Or.inr ⟨rfl, rfl, rfl⟩)))) (hb hby d5_9) hr))
theorem pd5 : parseMethodDescriptor "()[Lcom/example/hearthline/hearthline/session/Session$Measurement$SpecialValue;" = some ⟨[], some (.array (.object "com/example/hearthline/hearthline/session/Session$Measurement$SpecialValue"))⟩ := by decide +kernel
theorem d4_3 : decode prog_30_method_5_code 3 = .ok (.astore_n 1, 1) := by decide +kernel
theorem d4_4 : decode prog_30_method_5_code 4 = .ok (.aload_n 1, 1) := by decide +kernel
theorem d4_5 : decode prog_30_method_5_code 5 = .ok (.arraylength, 1) := by decide +kernel
theorem d4_6 : decode prog_30_method_5_code 6 = .ok (.istore_n 2, 1) := by decide +kernel
theorem d4_7 : decode prog_30_method_5_code 7 = .ok (.iconst 0, 1) := by decide +kernel
theorem d4_8 : decode prog_30_method_5_code 8 = .ok (.istore_n 3, 1) := by decide +kernel
theorem d4_9 : decode prog_30_method_5_code 9 = .ok (.iload_n 3, 1) := by decide +kernel
theorem d4_10 : decode prog_30_method_5_code 10 = .ok (.iload_n 2, 1) := by decide +kernel
theorem d4_11 : decode prog_30_method_5_code 11 = .ok (.if_icmp .ge 29, 3) := by decide +kernel
theorem d4_14 : decode prog_30_method_5_code 14 = .ok (.aload_n 1, 1) := by decide +kernel
theorem d4_15 : decode prog_30_method_5_code 15 = .ok (.iload_n 3, 1) := by decide +kernel
theorem d4_16 : decode prog_30_method_5_code 16 = .ok (.aaload, 1) := by decide +kernel
theorem d4_17 : decode prog_30_method_5_code 17 = .ok (.astore 4, 2) := by decide +kernel
theorem d4_19 : decode prog_30_method_5_code 19 = .ok (.aload 4, 2) := by decide +kernel
theorem d4_21 : decode prog_30_method_5_code 21 = .ok (.getfield 38, 3) := by decide +kernel
theorem d4_24 : decode prog_30_method_5_code 24 = .ok (.aload_n 0, 1) := by decide +kernel
theorem d4_25 : decode prog_30_method_5_code 25 = .ok (.invokevirtual 46, 3) := by decide +kernel
theorem pd6 : parseMethodDescriptor "(Ljava/lang/Object;)Z" = some ⟨[(.object "java/lang/Object")], some .boolean⟩ := by decide +kernel
theorem d4_28 : decode prog_30_method_5_code 28 = .ok (.ifCond .eq 6, 3) := by decide +kernel
theorem d4_31 : decode prog_30_method_5_code 31 = .ok (.aload 4, 2) := by decide +kernel
theorem d4_33 : decode prog_30_method_5_code 33 = .ok (.areturn, 1) := by decide +kernel
theorem d4_34 : decode prog_30_method_5_code 34 = .ok (.iinc 3 1, 3) := by decide +kernel
theorem d4_37 : decode prog_30_method_5_code 37 = .ok (.goto (-28), 3) := by decide +kernel
theorem d4_40 : decode prog_30_method_5_code 40 = .ok (.aconst_null, 1) := by decide +kernel
theorem d4_41 : decode prog_30_method_5_code 41 = .ok (.areturn, 1) := by decide +kernel
-- com/example/hearthline/hearthline/session/Session$Measurement$SpecialValue.of(Ljava/lang/String;)Lcom/example/hearthline/hearthline/session/Session$Measurement$SpecialValue;
def Q6 (Z : State) (Gg0 : Addr) (Gg2 : Addr) (Gg3 : Addr) (Gg4 : Addr) (Gg5 : Addr) (qc3 : List Int32) (h0 : Heap) (n0 : Nat) (v : Option Value) (h : Heap) (L : List Loc) : Prop := v = some (own_sv Gg0 Gg2 Gg3 Gg4 Gg5 qc3) ∧ Fr n0 L ∧ Keep h0 h []
theorem rm6 (l : Launch) (Z : State) (a0 : Array Value) (hw : HW a0 Z) (Gg0 : Addr) (Gg1 : Addr) (Gg2 : Addr) (Gg3 : Addr) (Gg4 : Addr) (Gg5 : Addr) (Gg6 : Addr) (Gg7 : Addr) (Gg8 : Addr) (Gg9 : Addr) (Gg10 : Addr) (Gg11 : Addr) (Gg12 : Addr) (Gg13 : Addr) (Gg14 : Addr) (Gg15 : Addr) (Kg16 : ClassId) (Kg17 : ClassId) (Kg18 : ClassId) (Kg19 : ClassId) (Kg20 : ClassId) (Kg21 : ClassId) (G1 : Int32) (qa1 : Addr) (qa2 : Addr) (qc3 : List Int32) (qk4 : ClassId) (qi5 : Int32) (h0 : Heap) (n0 : Nat) (X00 : Old Z n0 h0) (hEN : OwnEN Z Gg0 Gg1 Gg2 Gg3 Gg4 Gg5 Gg6 Gg7 Gg8 Gg9 Gg10 Gg11 Gg12 Gg13 Gg14 Gg15 Kg16 Kg17 Kg18 Kg19 Kg20 Kg21) (O2 : Sta Z Z.heap "java/lang/String" "COMPACT_STRINGS" "Z" (.int G1)) (P5 : ¬ (G1 = (0 : Int32))) (F_qa1_value : Fld Z h0 qa1 "java/lang/String" "value" "[B" (.ref qa2)) (A_qa2 : Arv Z h0 qa2 qk4 .byte qi5 ((qc3.map (fun c => c.toInt8.toInt32)).map Value.int) (.int 0)) (cd_qa1 : StrChars.Road.CodA qc3 0 qi5 ((qc3.map (fun c => c.toInt8.toInt32)).map Value.int)) (bd_qa1 : ∀ x ∈ qc3, ¬ x < 0 ∧ ¬ (65535 : Int32) < x) (ln_qa1 : qc3.length ≤ 4000) (E_qa1 : Exa Z h0 qa1 "java/lang/String") (F_qa1_coder : Fld Z h0 qa1 "java/lang/String" "coder" "B" (.int 0)) :
    MF l Z Y6_ prog_30_method_5_code 5 (some (.object "com/example/hearthline/hearthline/session/Session$Measurement$SpecialValue")) (Rm 2 1 5 28) #[.ref qa1] h0 (Q6 Z Gg0 Gg2 Gg3 Gg4 Gg5 qc3 h0 n0) := by
 refine own_sF pn2 rfl (fun m => ef5 m qa1) ?_
 intro p e s m below meth c s₁ Bd hZ hh hx hby hml hown hnm X0 e0 pre0
 have N0 := Fr.nil n0
 obtain ⟨_, T1, L1, X1, hQ1, st1⟩ := own_cS 1 5 [] 0 #[rv qa1, .unset, .unset, .unset, .unset] X0 hx hZ hown (w76_ hw) (w77_ hw) (w71_ hw) (w78_ hw) (rm5 l Z a0 hw Gg0 Gg1 Gg2 Gg3 Gg4 Gg5 Gg6 Gg7 Gg8 Gg9 Gg10 Gg11 Gg12 Gg13 Gg14 Gg15 Kg16 Kg17 Kg18 Kg19 Kg20 Kg21  h0 n0 X00 hEN) pd5 hml.symm (hb hby d4_0) e0 rfl rfl rfl rfl (by decide)
 obtain ⟨b2, c3_, rfl, N1q, K1q, w4, w5, w6⟩ := hQ1
 have N1 := Fr.app N0 N1q
 have K7 := (Keep.refl h0 []).trans K1q (fun x q => nomatch q)
 have av8 := w6
 obtain ⟨cl8, Ar8, q8, S8, N8, H8, Gf8⟩ := av8
 have av9 := w6
 obtain ⟨cl9, Ar9, q9, S9, N9, H9, Gf9⟩ := av9
 have hin10 : ¬ ((0 : Int32) < 0 ∨ cl9.slots.size ≤ ((0 : Int32) : Int32).toNatClampNeg) := inb_of S9 (by decide)
 have hat10 : cl9.slots[((0 : Int32) : Int32).toNatClampNeg]? = some (.ref Gg0) := Has.at H9 hin10 rfl
 have O12 := X00.keep K1q all0
 obtain ⟨T11, X11, e11, st11⟩ := getF X1 hx hZ hown (host := "") (Or.inl (w95_ hw)) Via.refl rfl (hEN.2.2.2.2.2.2.2.2.2.2.2.2.1.ext O12.2) (g := (mkF m 21 #[rv qa1, rv b2, iv 5, iv 0, rv Gg0] [.ref Gg0])) rfl rfl (hb hby d4_21)
 have hp14 : ∀ c ∈ ([78, 97, 78] : List Int32), ¬ c < 0 ∧ ¬ (255 : Int32) < c := (List.forall_mem_cons.mpr ⟨(by decide), (List.forall_mem_cons.mpr ⟨(by decide), (List.forall_mem_cons.mpr ⟨(by decide), (fun _ q => nomatch q)⟩)⟩)⟩)
 have pr15 : Pr p e below T11 m 25 #[rv qa1, rv b2, iv 5, iv 0, rv Gg0] [.ref qa1, .ref Gg6] s₁ (entryFrame m #[.ref qa1] 5) := fun t k => pre0 t (by
  show Sx p e below s₁ m 0 #[rv qa1, .unset, .unset, .unset, .unset] [] _
  refine st1 _ ?_
  refine XS.astoreN X1.here hx rfl (hb hby d4_3) rfl rfl (l' := #[rv qa1, rv b2, .unset, .unset, .unset]) rfl ?_
  refine zb X1 Bd d4_4 rfl rfl ?_
  refine X1.arraylength hx Ar8.1 (State.isArrayOf_alike hZ.alike Ar8.2.1) (g := (mkF m 5 #[rv qa1, rv b2, .unset, .unset, .unset] [.ref b2])) rfl rfl (hb hby d4_5) _ ?_
  rw [len_of S8 N8]
  refine zt X1 Bd d4_6 (l' := #[rv qa1, rv b2, iv 5, .unset, .unset]) rfl ?_
  refine zc X1 Bd d4_7 ?_
  refine zt X1 Bd d4_8 (l' := #[rv qa1, rv b2, iv 5, iv 0, .unset]) rfl ?_
  refine zj X1 Bd d4_9 rfl ?_
  refine zj X1 Bd d4_10 rfl ?_
  refine zn X1 Bd d4_11 (XT.ii_ge_f ((by decide) : (0 : Int32) < (5 : Int32))) ?_
  refine zb X1 Bd d4_14 rfl rfl ?_
  refine zj X1 Bd d4_15 rfl ?_
  refine X1.aaload hx (j := (0 : Int32)) (v := (.ref Gg0)) Ar9.1 (State.isArrayOf_alike hZ.alike Ar9.2.1) rfl Ar9.2.2 hin10 hat10 (g := (mkF m 16 #[rv qa1, rv b2, iv 5, iv 0, .unset] [.int 0, .ref b2])) rfl rfl (hb hby d4_16) _ ?_
  refine XS.astore X1.here hx rfl (hb hby d4_17) rfl rfl (l' := #[rv qa1, rv b2, iv 5, iv 0, rv Gg0]) rfl ?_
  refine za X1 Bd d4_19 rfl rfl ?_
  refine st11 _ ?_
  refine zb X11 Bd d4_24 rfl rfl ?_
  exact k)
 by_cases hc16 : qc3 = ([78, 97, 78] : List Int32)
 ·
  skip
  have hp18 : ∀ c ∈ ([78, 97, 78] : List Int32), ¬ c < 0 ∧ ¬ (255 : Int32) < c := (List.forall_mem_cons.mpr ⟨(by decide), (List.forall_mem_cons.mpr ⟨(by decide), (List.forall_mem_cons.mpr ⟨(by decide), (fun _ q => nomatch q)⟩)⟩)⟩)
  have hcd19 : StrChars.Road.CodA ([78, 97, 78] : List Int32) 0 (3 : Int32) [.int 78, .int 97, .int 78] := StrChars.Road.codOf (n := 3) rfl (fun x hx => (hp18 x hx).2)
  have hbd19 : ∀ x ∈ ([78, 97, 78] : List Int32), ¬ x < 0 ∧ ¬ (65535 : Int32) < x := own_up _ hp18
  have E20_ := E_qa1.keep K1q
  have F21_ := F_qa1_value.keep K1q nin0
  have F22_ := F_qa1_coder.keep K1q nin0
  have A23_ := A_qa2.keep K1q nin0
  obtain ⟨cq17, kq17, q17a, q17b, q17c⟩ := isOf hZ e11 (hEN.2.2.2.2.2.2.2.2.2.2.2.2.2.1.ext O12.2)
  obtain ⟨_, T17, L17, X17, hQ17, st17⟩ := own_cb0 1 5 0 0 1 5 (X11.virtualBack hx (y := Y7_) (z := Y7_) hown (mvT hZ (w97_ hw)) (mvT hZ (w98_ hw)) (notFace_of_selects (args := #[]) (mvT hZ (w100_ hw))) (mvT hZ (w100_ hw)) (mvT hZ (w99_ hw)) (by decide) (StrChars.Road.eqW (W := 0) hZ (own_wq hw) (kI := 4) (w7_ hw) (hEN.2.2.2.2.2.2.2.2.2.2.2.2.2.1.ext O12.2) (hEN.2.2.2.2.2.2.2.2.2.2.2.2.2.2.2.2.2.2.2.2.2.2.1.ext O12.2) (hEN.2.2.2.2.2.2.2.2.2.2.2.2.2.2.2.2.2.2.2.2.2.2.2.2.2.2.2.1.ext O12.2) (hEN.2.2.2.2.2.2.2.2.2.2.2.2.2.2.2.2.2.2.2.2.2.2.2.2.2.2.2.2.2.2.2.2.2.1.ext O12.2) hcd19 hbd19 (lE rfl) E20_ F21_ F22_ A23_ cd_qa1 bd_qa1 ln_qa1 (O2.ext O12.2) P5 (lE rfl) (lE rfl)) q17a q17c (g := (mkF m 25 #[rv qa1, rv b2, iv 5, iv 0, rv Gg0] [.ref qa1, .ref Gg6])) rfl hml.symm (Steps.refl _) (argsL := [.ref qa1]) (rest := []) (lenOf pd6 rfl) rfl (own_hw rfl) (hb hby d4_25) (fun _ _ => ⟨rfl, e11, (lE rfl : 1 + 0 ≤ _), (lE rfl : 5 + 0 ≤ _)⟩)) rfl rfl
  dsimp only [Pt.U, Pt.locs, Pt.cells, Pt.slots] at hQ17
  obtain ⟨hv17, rfl, e17q⟩ := hQ17
  rcases hv17 with ⟨rfl, -⟩ | ⟨-, hq17⟩
  rotate_left
  exact absurd ((hc16).symm : ([78, 97, 78] : List Int32) = qc3) hq17
  have N17 := Fr.app N1 (Fr.nil n0)
  refine own_lvF X17 Bd (.ref Gg0) e17q ⟨(by rw [own_sv, if_pos hc16]), N17, K7⟩ rfl (fun fs hr => pr15 _ (by
   show Sx p e below T11 m 25 #[rv qa1, rv b2, iv 5, iv 0, rv Gg0] [.ref qa1, .ref Gg6] _
   refine st17.trans ?_
   refine zo X17 Bd d4_28 (XT.i0_eq_f ((by decide) : ¬ ((1 : Int32) = (0 : Int32)))) ?_
   refine za X17 Bd d4_31 rfl rfl ?_
   exact retOut X17 hx Bd.returns rfl (Or.inr (Or.inr (Or.inr (Or.inr ⟨rfl, rfl, rfl⟩)))) (hb hby d4_33) hr))
 ·
  skip
  have hp25 : ∀ c ∈ ([78, 97, 78] : List Int32), ¬ c < 0 ∧ ¬ (255 : Int32) < c := (List.forall_mem_cons.mpr ⟨(by decide), (List.forall_mem_cons.mpr ⟨(by decide), (List.forall_mem_cons.mpr ⟨(by decide), (fun _ q => nomatch q)⟩)⟩)⟩)
  have hcd26 : StrChars.Road.CodA ([78, 97, 78] : List Int32) 0 (3 : Int32) [.int 78, .int 97, .int 78] := StrChars.Road.codOf (n := 3) rfl (fun x hx => (hp25 x hx).2)
  have hbd26 : ∀ x ∈ ([78, 97, 78] : List Int32), ¬ x < 0 ∧ ¬ (65535 : Int32) < x := own_up _ hp25
  have E27_ := E_qa1.keep K1q
  have F28_ := F_qa1_value.keep K1q nin0
  have F29_ := F_qa1_coder.keep K1q nin0
  have A30_ := A_qa2.keep K1q nin0
  obtain ⟨cq24, kq24, q24a, q24b, q24c⟩ := isOf hZ e11 (hEN.2.2.2.2.2.2.2.2.2.2.2.2.2.1.ext O12.2)
  obtain ⟨_, T24, L24, X24, hQ24, st24⟩ := own_cb0 1 5 0 0 1 5 (X11.virtualBack hx (y := Y7_) (z := Y7_) hown (mvT hZ (w97_ hw)) (mvT hZ (w98_ hw)) (notFace_of_selects (args := #[]) (mvT hZ (w100_ hw))) (mvT hZ (w100_ hw)) (mvT hZ (w99_ hw)) (by decide) (StrChars.Road.eqW (W := 0) hZ (own_wq hw) (kI := 4) (w7_ hw) (hEN.2.2.2.2.2.2.2.2.2.2.2.2.2.1.ext O12.2) (hEN.2.2.2.2.2.2.2.2.2.2.2.2.2.2.2.2.2.2.2.2.2.2.1.ext O12.2) (hEN.2.2.2.2.2.2.2.2.2.2.2.2.2.2.2.2.2.2.2.2.2.2.2.2.2.2.2.1.ext O12.2) (hEN.2.2.2.2.2.2.2.2.2.2.2.2.2.2.2.2.2.2.2.2.2.2.2.2.2.2.2.2.2.2.2.2.2.1.ext O12.2) hcd26 hbd26 (lE rfl) E27_ F28_ F29_ A30_ cd_qa1 bd_qa1 ln_qa1 (O2.ext O12.2) P5 (lE rfl) (lE rfl)) q24a q24c (g := (mkF m 25 #[rv qa1, rv b2, iv 5, iv 0, rv Gg0] [.ref qa1, .ref Gg6])) rfl hml.symm (Steps.refl _) (argsL := [.ref qa1]) (rest := []) (lenOf pd6 rfl) rfl (own_hw rfl) (hb hby d4_25) (fun _ _ => ⟨rfl, e11, (lE rfl : 1 + 0 ≤ _), (lE rfl : 5 + 0 ≤ _)⟩)) rfl rfl
  dsimp only [Pt.U, Pt.locs, Pt.cells, Pt.slots] at hQ24
  obtain ⟨hv24, rfl, e24q⟩ := hQ24
  rcases hv24 with ⟨-, hq24⟩ | ⟨rfl, -⟩
  exact absurd hq24 ((Ne.symm hc16) : ¬ (([78, 97, 78] : List Int32) = qc3))
  have N24 := Fr.app N1 (Fr.nil n0)
  have av31 := w6
  obtain ⟨cl31, Ar31, q31, S31, N31, H31, Gf31⟩ := av31
  have hin32 : ¬ ((1 : Int32) < 0 ∨ cl31.slots.size ≤ ((1 : Int32) : Int32).toNatClampNeg) := inb_of S31 (by decide)
  have hat32 : cl31.slots[((1 : Int32) : Int32).toNatClampNeg]? = some (.ref Gg2) := Has.at H31 hin32 rfl
  obtain ⟨T33, X33, e33, st33⟩ := getF X24 hx hZ hown (host := "") (Or.inl (w95_ hw)) Via.refl e24q (hEN.2.2.2.2.2.2.2.2.2.2.2.2.2.2.1.ext O12.2) (g := (mkF m 21 #[rv qa1, rv b2, iv 5, iv 1, rv Gg2] [.ref Gg2])) rfl rfl (hb hby d4_21)
  have hp35 : ∀ c ∈ ([78, 82, 101, 115] : List Int32), ¬ c < 0 ∧ ¬ (255 : Int32) < c := (List.forall_mem_cons.mpr ⟨(by decide), (List.forall_mem_cons.mpr ⟨(by decide), (List.forall_mem_cons.mpr ⟨(by decide), (List.forall_mem_cons.mpr ⟨(by decide), (fun _ q => nomatch q)⟩)⟩)⟩)⟩)
  have pr36 : Pr p e below T33 m 25 #[rv qa1, rv b2, iv 5, iv 1, rv Gg2] [.ref qa1, .ref Gg7] s₁ (entryFrame m #[.ref qa1] 5) := fun t k => pr15 t (by
   show Sx p e below T11 m 25 #[rv qa1, rv b2, iv 5, iv 0, rv Gg0] [.ref qa1, .ref Gg6] _
   refine st24.trans ?_
   refine zp (pc' := 34) X24 Bd d4_28 (XT.i0_eq_t ((by decide) : (0 : Int32) = (0 : Int32))) rfl ?_
   refine XS.iinc X24.here hx rfl (hb hby d4_34) rfl (l' := #[rv qa1, rv b2, iv 5, iv 1, rv Gg0]) rfl ?_
   refine zg (pc' := 9) X24 Bd d4_37 rfl ?_
   refine zj X24 Bd d4_9 rfl ?_
   refine zj X24 Bd d4_10 rfl ?_
   refine zn X24 Bd d4_11 (XT.ii_ge_f ((by decide) : (1 : Int32) < (5 : Int32))) ?_
   refine zb X24 Bd d4_14 rfl rfl ?_
   refine zj X24 Bd d4_15 rfl ?_
   refine X24.aaload hx (j := (1 : Int32)) (v := (.ref Gg2)) (by rw [e24q]; exact Ar31.1) (State.isArrayOf_alike hZ.alike Ar31.2.1) rfl Ar31.2.2 hin32 hat32 (g := (mkF m 16 #[rv qa1, rv b2, iv 5, iv 1, rv Gg0] [.int 1, .ref b2])) rfl rfl (hb hby d4_16) _ ?_
   refine XS.astore X24.here hx rfl (hb hby d4_17) rfl rfl (l' := #[rv qa1, rv b2, iv 5, iv 1, rv Gg2]) rfl ?_
   refine za X24 Bd d4_19 rfl rfl ?_
   refine st33 _ ?_
   refine zb X33 Bd d4_24 rfl rfl ?_
   exact k)
  by_cases hc37 : qc3 = ([78, 82, 101, 115] : List Int32)
  ·
   skip
   have hp39 : ∀ c ∈ ([78, 82, 101, 115] : List Int32), ¬ c < 0 ∧ ¬ (255 : Int32) < c := (List.forall_mem_cons.mpr ⟨(by decide), (List.forall_mem_cons.mpr ⟨(by decide), (List.forall_mem_cons.mpr ⟨(by decide), (List.forall_mem_cons.mpr ⟨(by decide), (fun _ q => nomatch q)⟩)⟩)⟩)⟩)
   have hcd40 : StrChars.Road.CodA ([78, 82, 101, 115] : List Int32) 0 (4 : Int32) [.int 78, .int 82, .int 101, .int 115] := StrChars.Road.codOf (n := 4) rfl (fun x hx => (hp39 x hx).2)
   have hbd40 : ∀ x ∈ ([78, 82, 101, 115] : List Int32), ¬ x < 0 ∧ ¬ (65535 : Int32) < x := own_up _ hp39
   obtain ⟨cq38, kq38, q38a, q38b, q38c⟩ := isOf hZ e33 (hEN.2.2.2.2.2.2.2.2.2.2.2.2.2.2.2.1.ext O12.2)
   obtain ⟨_, T38, L38, X38, hQ38, st38⟩ := own_cb0 1 5 0 0 1 5 (X33.virtualBack hx (y := Y7_) (z := Y7_) hown (mvT hZ (w97_ hw)) (mvT hZ (w98_ hw)) (notFace_of_selects (args := #[]) (mvT hZ (w100_ hw))) (mvT hZ (w100_ hw)) (mvT hZ (w99_ hw)) (by decide) (StrChars.Road.eqW (W := 0) hZ (own_wq hw) (kI := 4) (w7_ hw) (hEN.2.2.2.2.2.2.2.2.2.2.2.2.2.2.2.1.ext O12.2) (hEN.2.2.2.2.2.2.2.2.2.2.2.2.2.2.2.2.2.2.2.2.2.2.2.1.ext O12.2) (hEN.2.2.2.2.2.2.2.2.2.2.2.2.2.2.2.2.2.2.2.2.2.2.2.2.2.2.2.2.1.ext O12.2) (hEN.2.2.2.2.2.2.2.2.2.2.2.2.2.2.2.2.2.2.2.2.2.2.2.2.2.2.2.2.2.2.2.2.2.2.1.ext O12.2) hcd40 hbd40 (lE rfl) E27_ F28_ F29_ A30_ cd_qa1 bd_qa1 ln_qa1 (O2.ext O12.2) P5 (lE rfl) (lE rfl)) q38a q38c (g := (mkF m 25 #[rv qa1, rv b2, iv 5, iv 1, rv Gg2] [.ref qa1, .ref Gg7])) rfl hml.symm (Steps.refl _) (argsL := [.ref qa1]) (rest := []) (lenOf pd6 rfl) rfl (own_hw rfl) (hb hby d4_25) (fun _ _ => ⟨rfl, e33, (lE rfl : 1 + 0 ≤ _), (lE rfl : 5 + 0 ≤ _)⟩)) rfl rfl
   dsimp only [Pt.U, Pt.locs, Pt.cells, Pt.slots] at hQ38
   obtain ⟨hv38, rfl, e38q⟩ := hQ38
   rcases hv38 with ⟨rfl, -⟩ | ⟨-, hq38⟩
   rotate_left
   exact absurd ((hc37).symm : ([78, 82, 101, 115] : List Int32) = qc3) hq38
   have N38 := Fr.app N24 (Fr.nil n0)
   refine own_lvF X38 Bd (.ref Gg2) e38q ⟨(by rw [own_sv, if_neg hc16, if_pos hc37]), N38, K7⟩ rfl (fun fs hr => pr36 _ (by
    show Sx p e below T33 m 25 #[rv qa1, rv b2, iv 5, iv 1, rv Gg2] [.ref qa1, .ref Gg7] _
    refine st38.trans ?_
    refine zo X38 Bd d4_28 (XT.i0_eq_f ((by decide) : ¬ ((1 : Int32) = (0 : Int32)))) ?_
    refine za X38 Bd d4_31 rfl rfl ?_
    exact retOut X38 hx Bd.returns rfl (Or.inr (Or.inr (Or.inr (Or.inr ⟨rfl, rfl, rfl⟩)))) (hb hby d4_33) hr))
  ·
   skip
   have hp42 : ∀ c ∈ ([78, 82, 101, 115] : List Int32), ¬ c < 0 ∧ ¬ (255 : Int32) < c := (List.forall_mem_cons.mpr ⟨(by decide), (List.forall_mem_cons.mpr ⟨(by decide), (List.forall_mem_cons.mpr ⟨(by decide), (List.forall_mem_cons.mpr ⟨(by decide), (fun _ q => nomatch q)⟩)⟩)⟩)⟩)
   have hcd43 : StrChars.Road.CodA ([78, 82, 101, 115] : List Int32) 0 (4 : Int32) [.int 78, .int 82, .int 101, .int 115] := StrChars.Road.codOf (n := 4) rfl (fun x hx => (hp42 x hx).2)
   have hbd43 : ∀ x ∈ ([78, 82, 101, 115] : List Int32), ¬ x < 0 ∧ ¬ (65535 : Int32) < x := own_up _ hp42
   obtain ⟨cq41, kq41, q41a, q41b, q41c⟩ := isOf hZ e33 (hEN.2.2.2.2.2.2.2.2.2.2.2.2.2.2.2.1.ext O12.2)
   obtain ⟨_, T41, L41, X41, hQ41, st41⟩ := own_cb0 1 5 0 0 1 5 (X33.virtualBack hx (y := Y7_) (z := Y7_) hown (mvT hZ (w97_ hw)) (mvT hZ (w98_ hw)) (notFace_of_selects (args := #[]) (mvT hZ (w100_ hw))) (mvT hZ (w100_ hw)) (mvT hZ (w99_ hw)) (by decide) (StrChars.Road.eqW (W := 0) hZ (own_wq hw) (kI := 4) (w7_ hw) (hEN.2.2.2.2.2.2.2.2.2.2.2.2.2.2.2.1.ext O12.2) (hEN.2.2.2.2.2.2.2.2.2.2.2.2.2.2.2.2.2.2.2.2.2.2.2.1.ext O12.2) (hEN.2.2.2.2.2.2.2.2.2.2.2.2.2.2.2.2.2.2.2.2.2.2.2.2.2.2.2.2.1.ext O12.2) (hEN.2.2.2.2.2.2.2.2.2.2.2.2.2.2.2.2.2.2.2.2.2.2.2.2.2.2.2.2.2.2.2.2.2.2.1.ext O12.2) hcd43 hbd43 (lE rfl) E27_ F28_ F29_ A30_ cd_qa1 bd_qa1 ln_qa1 (O2.ext O12.2) P5 (lE rfl) (lE rfl)) q41a q41c (g := (mkF m 25 #[rv qa1, rv b2, iv 5, iv 1, rv Gg2] [.ref qa1, .ref Gg7])) rfl hml.symm (Steps.refl _) (argsL := [.ref qa1]) (rest := []) (lenOf pd6 rfl) rfl (own_hw rfl) (hb hby d4_25) (fun _ _ => ⟨rfl, e33, (lE rfl : 1 + 0 ≤ _), (lE rfl : 5 + 0 ≤ _)⟩)) rfl rfl
   dsimp only [Pt.U, Pt.locs, Pt.cells, Pt.slots] at hQ41
   obtain ⟨hv41, rfl, e41q⟩ := hQ41
   rcases hv41 with ⟨-, hq41⟩ | ⟨rfl, -⟩
   exact absurd hq41 ((Ne.symm hc37) : ¬ (([78, 82, 101, 115] : List Int32) = qc3))
   have N41 := Fr.app N24 (Fr.nil n0)
   have av44 := w6
   obtain ⟨cl44, Ar44, q44, S44, N44, H44, Gf44⟩ := av44
   have hin45 : ¬ ((2 : Int32) < 0 ∨ cl44.slots.size ≤ ((2 : Int32) : Int32).toNatClampNeg) := inb_of S44 (by decide)
   have hat45 : cl44.slots[((2 : Int32) : Int32).toNatClampNeg]? = some (.ref Gg3) := Has.at H44 hin45 rfl
   obtain ⟨T46, X46, e46, st46⟩ := getF X41 hx hZ hown (host := "") (Or.inl (w95_ hw)) Via.refl e41q (hEN.2.2.2.2.2.2.2.2.2.2.2.2.2.2.2.2.1.ext O12.2) (g := (mkF m 21 #[rv qa1, rv b2, iv 5, iv 2, rv Gg3] [.ref Gg3])) rfl rfl (hb hby d4_21)
   have hp48 : ∀ c ∈ ([43, 73, 78, 70] : List Int32), ¬ c < 0 ∧ ¬ (255 : Int32) < c := (List.forall_mem_cons.mpr ⟨(by decide), (List.forall_mem_cons.mpr ⟨(by decide), (List.forall_mem_cons.mpr ⟨(by decide), (List.forall_mem_cons.mpr ⟨(by decide), (fun _ q => nomatch q)⟩)⟩)⟩)⟩)
   have pr49 : Pr p e below T46 m 25 #[rv qa1, rv b2, iv 5, iv 2, rv Gg3] [.ref qa1, .ref Gg8] s₁ (entryFrame m #[.ref qa1] 5) := fun t k => pr36 t (by
    show Sx p e below T33 m 25 #[rv qa1, rv b2, iv 5, iv 1, rv Gg2] [.ref qa1, .ref Gg7] _
    refine st41.trans ?_
    refine zp (pc' := 34) X41 Bd d4_28 (XT.i0_eq_t ((by decide) : (0 : Int32) = (0 : Int32))) rfl ?_
    refine XS.iinc X41.here hx rfl (hb hby d4_34) rfl (l' := #[rv qa1, rv b2, iv 5, iv 2, rv Gg2]) rfl ?_
    refine zg (pc' := 9) X41 Bd d4_37 rfl ?_
    refine zj X41 Bd d4_9 rfl ?_
    refine zj X41 Bd d4_10 rfl ?_
    refine zn X41 Bd d4_11 (XT.ii_ge_f ((by decide) : (2 : Int32) < (5 : Int32))) ?_
    refine zb X41 Bd d4_14 rfl rfl ?_
    refine zj X41 Bd d4_15 rfl ?_
    refine X41.aaload hx (j := (2 : Int32)) (v := (.ref Gg3)) (by rw [e41q]; exact Ar44.1) (State.isArrayOf_alike hZ.alike Ar44.2.1) rfl Ar44.2.2 hin45 hat45 (g := (mkF m 16 #[rv qa1, rv b2, iv 5, iv 2, rv Gg2] [.int 2, .ref b2])) rfl rfl (hb hby d4_16) _ ?_
    refine XS.astore X41.here hx rfl (hb hby d4_17) rfl rfl (l' := #[rv qa1, rv b2, iv 5, iv 2, rv Gg3]) rfl ?_
    refine za X41 Bd d4_19 rfl rfl ?_
    refine st46 _ ?_
    refine zb X46 Bd d4_24 rfl rfl ?_
    exact k)
   by_cases hc50 : qc3 = ([43, 73, 78, 70] : List Int32)
   ·
    skip
    have hp52 : ∀ c ∈ ([43, 73, 78, 70] : List Int32), ¬ c < 0 ∧ ¬ (255 : Int32) < c := (List.forall_mem_cons.mpr ⟨(by decide), (List.forall_mem_cons.mpr ⟨(by decide), (List.forall_mem_cons.mpr ⟨(by decide), (List.forall_mem_cons.mpr ⟨(by decide), (fun _ q => nomatch q)⟩)⟩)⟩)⟩)
    have hcd53 : StrChars.Road.CodA ([43, 73, 78, 70] : List Int32) 0 (4 : Int32) [.int 43, .int 73, .int 78, .int 70] := StrChars.Road.codOf (n := 4) rfl (fun x hx => (hp52 x hx).2)
    have hbd53 : ∀ x ∈ ([43, 73, 78, 70] : List Int32), ¬ x < 0 ∧ ¬ (65535 : Int32) < x := own_up _ hp52
    obtain ⟨cq51, kq51, q51a, q51b, q51c⟩ := isOf hZ e46 (hEN.2.2.2.2.2.2.2.2.2.2.2.2.2.2.2.2.2.1.ext O12.2)
    obtain ⟨_, T51, L51, X51, hQ51, st51⟩ := own_cb0 1 5 0 0 1 5 (X46.virtualBack hx (y := Y7_) (z := Y7_) hown (mvT hZ (w97_ hw)) (mvT hZ (w98_ hw)) (notFace_of_selects (args := #[]) (mvT hZ (w100_ hw))) (mvT hZ (w100_ hw)) (mvT hZ (w99_ hw)) (by decide) (StrChars.Road.eqW (W := 0) hZ (own_wq hw) (kI := 4) (w7_ hw) (hEN.2.2.2.2.2.2.2.2.2.2.2.2.2.2.2.2.2.1.ext O12.2) (hEN.2.2.2.2.2.2.2.2.2.2.2.2.2.2.2.2.2.2.2.2.2.2.2.2.1.ext O12.2) (hEN.2.2.2.2.2.2.2.2.2.2.2.2.2.2.2.2.2.2.2.2.2.2.2.2.2.2.2.2.2.1.ext O12.2) (hEN.2.2.2.2.2.2.2.2.2.2.2.2.2.2.2.2.2.2.2.2.2.2.2.2.2.2.2.2.2.2.2.2.2.2.2.1.ext O12.2) hcd53 hbd53 (lE rfl) E27_ F28_ F29_ A30_ cd_qa1 bd_qa1 ln_qa1 (O2.ext O12.2) P5 (lE rfl) (lE rfl)) q51a q51c (g := (mkF m 25 #[rv qa1, rv b2, iv 5, iv 2, rv Gg3] [.ref qa1, .ref Gg8])) rfl hml.symm (Steps.refl _) (argsL := [.ref qa1]) (rest := []) (lenOf pd6 rfl) rfl (own_hw rfl) (hb hby d4_25) (fun _ _ => ⟨rfl, e46, (lE rfl : 1 + 0 ≤ _), (lE rfl : 5 + 0 ≤ _)⟩)) rfl rfl
    dsimp only [Pt.U, Pt.locs, Pt.cells, Pt.slots] at hQ51
    obtain ⟨hv51, rfl, e51q⟩ := hQ51
    rcases hv51 with ⟨rfl, -⟩ | ⟨-, hq51⟩
    rotate_left
    exact absurd ((hc50).symm : ([43, 73, 78, 70] : List Int32) = qc3) hq51
    have N51 := Fr.app N41 (Fr.nil n0)
    refine own_lvF X51 Bd (.ref Gg3) e51q ⟨(by rw [own_sv, if_neg hc16, if_neg hc37, if_pos hc50]), N51, K7⟩ rfl (fun fs hr => pr49 _ (by
     show Sx p e below T46 m 25 #[rv qa1, rv b2, iv 5, iv 2, rv Gg3] [.ref qa1, .ref Gg8] _
     refine st51.trans ?_
     refine zo X51 Bd d4_28 (XT.i0_eq_f ((by decide) : ¬ ((1 : Int32) = (0 : Int32)))) ?_
     refine za X51 Bd d4_31 rfl rfl ?_
     exact retOut X51 hx Bd.returns rfl (Or.inr (Or.inr (Or.inr (Or.inr ⟨rfl, rfl, rfl⟩)))) (hb hby d4_33) hr))
   ·
    skip
    have hp55 : ∀ c ∈ ([43, 73, 78, 70] : List Int32), ¬ c < 0 ∧ ¬ (255 : Int32) < c := (List.forall_mem_cons.mpr ⟨(by decide), (List.forall_mem_cons.mpr ⟨(by decide), (List.forall_mem_cons.mpr ⟨(by decide), (List.forall_mem_cons.mpr ⟨(by decide), (fun _ q => nomatch q)⟩)⟩)⟩)⟩)
    have hcd56 : StrChars.Road.CodA ([43, 73, 78, 70] : List Int32) 0 (4 : Int32) [.int 43, .int 73, .int 78, .int 70] := StrChars.Road.codOf (n := 4) rfl (fun x hx => (hp55 x hx).2)
    have hbd56 : ∀ x ∈ ([43, 73, 78, 70] : List Int32), ¬ x < 0 ∧ ¬ (65535 : Int32) < x := own_up _ hp55
    obtain ⟨cq54, kq54, q54a, q54b, q54c⟩ := isOf hZ e46 (hEN.2.2.2.2.2.2.2.2.2.2.2.2.2.2.2.2.2.1.ext O12.2)
    obtain ⟨_, T54, L54, X54, hQ54, st54⟩ := own_cb0 1 5 0 0 1 5 (X46.virtualBack hx (y := Y7_) (z := Y7_) hown (mvT hZ (w97_ hw)) (mvT hZ (w98_ hw)) (notFace_of_selects (args := #[]) (mvT hZ (w100_ hw))) (mvT hZ (w100_ hw)) (mvT hZ (w99_ hw)) (by decide) (StrChars.Road.eqW (W := 0) hZ (own_wq hw) (kI := 4) (w7_ hw) (hEN.2.2.2.2.2.2.2.2.2.2.2.2.2.2.2.2.2.1.ext O12.2) (hEN.2.2.2.2.2.2.2.2.2.2.2.2.2.2.2.2.2.2.2.2.2.2.2.2.1.ext O12.2) (hEN.2.2.2.2.2.2.2.2.2.2.2.2.2.2.2.2.2.2.2.2.2.2.2.2.2.2.2.2.2.1.ext O12.2) (hEN.2.2.2.2.2.2.2.2.2.2.2.2.2.2.2.2.2.2.2.2.2.2.2.2.2.2.2.2.2.2.2.2.2.2.2.1.ext O12.2) hcd56 hbd56 (lE rfl) E27_ F28_ F29_ A30_ cd_qa1 bd_qa1 ln_qa1 (O2.ext O12.2) P5 (lE rfl) (lE rfl)) q54a q54c (g := (mkF m 25 #[rv qa1, rv b2, iv 5, iv 2, rv Gg3] [.ref qa1, .ref Gg8])) rfl hml.symm (Steps.refl _) (argsL := [.ref qa1]) (rest := []) (lenOf pd6 rfl) rfl (own_hw rfl) (hb hby d4_25) (fun _ _ => ⟨rfl, e46, (lE rfl : 1 + 0 ≤ _), (lE rfl : 5 + 0 ≤ _)⟩)) rfl rfl
    dsimp only [Pt.U, Pt.locs, Pt.cells, Pt.slots] at hQ54
    obtain ⟨hv54, rfl, e54q⟩ := hQ54
    rcases hv54 with ⟨-, hq54⟩ | ⟨rfl, -⟩
    exact absurd hq54 ((Ne.symm hc50) : ¬ (([43, 73, 78, 70] : List Int32) = qc3))
    have N54 := Fr.app N41 (Fr.nil n0)
    have av57 := w6
    obtain ⟨cl57, Ar57, q57, S57, N57, H57, Gf57⟩ := av57
    have hin58 : ¬ ((3 : Int32) < 0 ∨ cl57.slots.size ≤ ((3 : Int32) : Int32).toNatClampNeg) := inb_of S57 (by decide)
    have hat58 : cl57.slots[((3 : Int32) : Int32).toNatClampNeg]? = some (.ref Gg4) := Has.at H57 hin58 rfl
    obtain ⟨T59, X59, e59, st59⟩ := getF X54 hx hZ hown (host := "") (Or.inl (w95_ hw)) Via.refl e54q (hEN.2.2.2.2.2.2.2.2.2.2.2.2.2.2.2.2.2.2.1.ext O12.2) (g := (mkF m 21 #[rv qa1, rv b2, iv 5, iv 3, rv Gg4] [.ref Gg4])) rfl rfl (hb hby d4_21)
    have hp61 : ∀ c ∈ ([45, 73, 78, 70] : List Int32), ¬ c < 0 ∧ ¬ (255 : Int32) < c := (List.forall_mem_cons.mpr ⟨(by decide), (List.forall_mem_cons.mpr ⟨(by decide), (List.forall_mem_cons.mpr ⟨(by decide), (List.forall_mem_cons.mpr ⟨(by decide), (fun _ q => nomatch q)⟩)⟩)⟩)⟩)
    have pr62 : Pr p e below T59 m 25 #[rv qa1, rv b2, iv 5, iv 3, rv Gg4] [.ref qa1, .ref Gg9] s₁ (entryFrame m #[.ref qa1] 5) := fun t k => pr49 t (by
     show Sx p e below T46 m 25 #[rv qa1, rv b2, iv 5, iv 2, rv Gg3] [.ref qa1, .ref Gg8] _
     refine st54.trans ?_
     refine zp (pc' := 34) X54 Bd d4_28 (XT.i0_eq_t ((by decide) : (0 : Int32) = (0 : Int32))) rfl ?_
     refine XS.iinc X54.here hx rfl (hb hby d4_34) rfl (l' := #[rv qa1, rv b2, iv 5, iv 3, rv Gg3]) rfl ?_
     refine zg (pc' := 9) X54 Bd d4_37 rfl ?_
     refine zj X54 Bd d4_9 rfl ?_
     refine zj X54 Bd d4_10 rfl ?_
     refine zn X54 Bd d4_11 (XT.ii_ge_f ((by decide) : (3 : Int32) < (5 : Int32))) ?_
     refine zb X54 Bd d4_14 rfl rfl ?_
     refine zj X54 Bd d4_15 rfl ?_
     refine X54.aaload hx (j := (3 : Int32)) (v := (.ref Gg4)) (by rw [e54q]; exact Ar57.1) (State.isArrayOf_alike hZ.alike Ar57.2.1) rfl Ar57.2.2 hin58 hat58 (g := (mkF m 16 #[rv qa1, rv b2, iv 5, iv 3, rv Gg3] [.int 3, .ref b2])) rfl rfl (hb hby d4_16) _ ?_
     refine XS.astore X54.here hx rfl (hb hby d4_17) rfl rfl (l' := #[rv qa1, rv b2, iv 5, iv 3, rv Gg4]) rfl ?_
     refine za X54 Bd d4_19 rfl rfl ?_
     refine st59 _ ?_
     refine zb X59 Bd d4_24 rfl rfl ?_
     exact k)
    by_cases hc63 : qc3 = ([45, 73, 78, 70] : List Int32)
    ·
     skip
     have hp65 : ∀ c ∈ ([45, 73, 78, 70] : List Int32), ¬ c < 0 ∧ ¬ (255 : Int32) < c := (List.forall_mem_cons.mpr ⟨(by decide), (List.forall_mem_cons.mpr ⟨(by decide), (List.forall_mem_cons.mpr ⟨(by decide), (List.forall_mem_cons.mpr ⟨(by decide), (fun _ q => nomatch q)⟩)⟩)⟩)⟩)
     have hcd66 : StrChars.Road.CodA ([45, 73, 78, 70] : List Int32) 0 (4 : Int32) [.int 45, .int 73, .int 78, .int 70] := StrChars.Road.codOf (n := 4) rfl (fun x hx => (hp65 x hx).2)
     have hbd66 : ∀ x ∈ ([45, 73, 78, 70] : List Int32), ¬ x < 0 ∧ ¬ (65535 : Int32) < x := own_up _ hp65
     obtain ⟨cq64, kq64, q64a, q64b, q64c⟩ := isOf hZ e59 (hEN.2.2.2.2.2.2.2.2.2.2.2.2.2.2.2.2.2.2.2.1.ext O12.2)
     obtain ⟨_, T64, L64, X64, hQ64, st64⟩ := own_cb0 1 5 0 0 1 5 (X59.virtualBack hx (y := Y7_) (z := Y7_) hown (mvT hZ (w97_ hw)) (mvT hZ (w98_ hw)) (notFace_of_selects (args := #[]) (mvT hZ (w100_ hw))) (mvT hZ (w100_ hw)) (mvT hZ (w99_ hw)) (by decide) (StrChars.Road.eqW (W := 0) hZ (own_wq hw) (kI := 4) (w7_ hw) (hEN.2.2.2.2.2.2.2.2.2.2.2.2.2.2.2.2.2.2.2.1.ext O12.2) (hEN.2.2.2.2.2.2.2.2.2.2.2.2.2.2.2.2.2.2.2.2.2.2.2.2.2.1.ext O12.2) (hEN.2.2.2.2.2.2.2.2.2.2.2.2.2.2.2.2.2.2.2.2.2.2.2.2.2.2.2.2.2.2.1.ext O12.2) (hEN.2.2.2.2.2.2.2.2.2.2.2.2.2.2.2.2.2.2.2.2.2.2.2.2.2.2.2.2.2.2.2.2.2.2.2.2.1.ext O12.2) hcd66 hbd66 (lE rfl) E27_ F28_ F29_ A30_ cd_qa1 bd_qa1 ln_qa1 (O2.ext O12.2) P5 (lE rfl) (lE rfl)) q64a q64c (g := (mkF m 25 #[rv qa1, rv b2, iv 5, iv 3, rv Gg4] [.ref qa1, .ref Gg9])) rfl hml.symm (Steps.refl _) (argsL := [.ref qa1]) (rest := []) (lenOf pd6 rfl) rfl (own_hw rfl) (hb hby d4_25) (fun _ _ => ⟨rfl, e59, (lE rfl : 1 + 0 ≤ _), (lE rfl : 5 + 0 ≤ _)⟩)) rfl rfl
     dsimp only [Pt.U, Pt.locs, Pt.cells, Pt.slots] at hQ64
     obtain ⟨hv64, rfl, e64q⟩ := hQ64
     rcases hv64 with ⟨rfl, -⟩ | ⟨-, hq64⟩
     rotate_left
     exact absurd ((hc63).symm : ([45, 73, 78, 70] : List Int32) = qc3) hq64
     have N64 := Fr.app N54 (Fr.nil n0)
     refine own_lvF X64 Bd (.ref Gg4) e64q ⟨(by rw [own_sv, if_neg hc16, if_neg hc37, if_neg hc50, if_pos hc63]), N64, K7⟩ rfl (fun fs hr => pr62 _ (by
      show Sx p e below T59 m 25 #[rv qa1, rv b2, iv 5, iv 3, rv Gg4] [.ref qa1, .ref Gg9] _
      refine st64.trans ?_
      refine zo X64 Bd d4_28 (XT.i0_eq_f ((by decide) : ¬ ((1 : Int32) = (0 : Int32)))) ?_
      refine za X64 Bd d4_31 rfl rfl ?_
      exact retOut X64 hx Bd.returns rfl (Or.inr (Or.inr (Or.inr (Or.inr ⟨rfl, rfl, rfl⟩)))) (hb hby d4_33) hr))
    ·
     skip
     have hp68 : ∀ c ∈ ([45, 73, 78, 70] : List Int32), ¬ c < 0 ∧ ¬ (255 : Int32) < c := (List.forall_mem_cons.mpr ⟨(by decide), (List.forall_mem_cons.mpr ⟨(by decide), (List.forall_mem_cons.mpr ⟨(by decide), (List.forall_mem_cons.mpr ⟨(by decide), (fun _ q => nomatch q)⟩)⟩)⟩)⟩)
     have hcd69 : StrChars.Road.CodA ([45, 73, 78, 70] : List Int32) 0 (4 : Int32) [.int 45, .int 73, .int 78, .int 70] := StrChars.Road.codOf (n := 4) rfl (fun x hx => (hp68 x hx).2)
     have hbd69 : ∀ x ∈ ([45, 73, 78, 70] : List Int32), ¬ x < 0 ∧ ¬ (65535 : Int32) < x := own_up _ hp68
     obtain ⟨cq67, kq67, q67a, q67b, q67c⟩ := isOf hZ e59 (hEN.2.2.2.2.2.2.2.2.2.2.2.2.2.2.2.2.2.2.2.1.ext O12.2)
     obtain ⟨_, T67, L67, X67, hQ67, st67⟩ := own_cb0 1 5 0 0 1 5 (X59.virtualBack hx (y := Y7_) (z := Y7_) hown (mvT hZ (w97_ hw)) (mvT hZ (w98_ hw)) (notFace_of_selects (args := #[]) (mvT hZ (w100_ hw))) (mvT hZ (w100_ hw)) (mvT hZ (w99_ hw)) (by decide) (StrChars.Road.eqW (W := 0) hZ (own_wq hw) (kI := 4) (w7_ hw) (hEN.2.2.2.2.2.2.2.2.2.2.2.2.2.2.2.2.2.2.2.1.ext O12.2) (hEN.2.2.2.2.2.2.2.2.2.2.2.2.2.2.2.2.2.2.2.2.2.2.2.2.2.1.ext O12.2) (hEN.2.2.2.2.2.2.2.2.2.2.2.2.2.2.2.2.2.2.2.2.2.2.2.2.2.2.2.2.2.2.1.ext O12.2) (hEN.2.2.2.2.2.2.2.2.2.2.2.2.2.2.2.2.2.2.2.2.2.2.2.2.2.2.2.2.2.2.2.2.2.2.2.2.1.ext O12.2) hcd69 hbd69 (lE rfl) E27_ F28_ F29_ A30_ cd_qa1 bd_qa1 ln_qa1 (O2.ext O12.2) P5 (lE rfl) (lE rfl)) q67a q67c (g := (mkF m 25 #[rv qa1, rv b2, iv 5, iv 3, rv Gg4] [.ref qa1, .ref Gg9])) rfl hml.symm (Steps.refl _) (argsL := [.ref qa1]) (rest := []) (lenOf pd6 rfl) rfl (own_hw rfl) (hb hby d4_25) (fun _ _ => ⟨rfl, e59, (lE rfl : 1 + 0 ≤ _), (lE rfl : 5 + 0 ≤ _)⟩)) rfl rfl
     dsimp only [Pt.U, Pt.locs, Pt.cells, Pt.slots] at hQ67
     obtain ⟨hv67, rfl, e67q⟩ := hQ67
     rcases hv67 with ⟨-, hq67⟩ | ⟨rfl, -⟩
     exact absurd hq67 ((Ne.symm hc63) : ¬ (([45, 73, 78, 70] : List Int32) = qc3))
     have N67 := Fr.app N54 (Fr.nil n0)
     have av70 := w6
     obtain ⟨cl70, Ar70, q70, S70, N70, H70, Gf70⟩ := av70
     have hin71 : ¬ ((4 : Int32) < 0 ∨ cl70.slots.size ≤ ((4 : Int32) : Int32).toNatClampNeg) := inb_of S70 (by decide)
     have hat71 : cl70.slots[((4 : Int32) : Int32).toNatClampNeg]? = some (.ref Gg5) := Has.at H70 hin71 rfl
     obtain ⟨T72, X72, e72, st72⟩ := getF X67 hx hZ hown (host := "") (Or.inl (w95_ hw)) Via.refl e67q (hEN.2.2.2.2.2.2.2.2.2.2.2.2.2.2.2.2.2.2.2.2.1.ext O12.2) (g := (mkF m 21 #[rv qa1, rv b2, iv 5, iv 4, rv Gg5] [.ref Gg5])) rfl rfl (hb hby d4_21)
     have hp74 : ∀ c ∈ ([114, 101, 115, 101, 114, 118, 101, 100] : List Int32), ¬ c < 0 ∧ ¬ (255 : Int32) < c := (List.forall_mem_cons.mpr ⟨(by decide), (List.forall_mem_cons.mpr ⟨(by decide), (List.forall_mem_cons.mpr ⟨(by decide), (List.forall_mem_cons.mpr ⟨(by decide), (List.forall_mem_cons.mpr ⟨(by decide), (List.forall_mem_cons.mpr ⟨(by decide), (List.forall_mem_cons.mpr ⟨(by decide), (List.forall_mem_cons.mpr ⟨(by decide), (fun _ q => nomatch q)⟩)⟩)⟩)⟩)⟩)⟩)⟩)⟩)
     have pr75 : Pr p e below T72 m 25 #[rv qa1, rv b2, iv 5, iv 4, rv Gg5] [.ref qa1, .ref Gg10] s₁ (entryFrame m #[.ref qa1] 5) := fun t k => pr62 t (by
      show Sx p e below T59 m 25 #[rv qa1, rv b2, iv 5, iv 3, rv Gg4] [.ref qa1, .ref Gg9] _
      refine st67.trans ?_
      refine zp (pc' := 34) X67 Bd d4_28 (XT.i0_eq_t ((by decide) : (0 : Int32) = (0 : Int32))) rfl ?_
      refine XS.iinc X67.here hx rfl (hb hby d4_34) rfl (l' := #[rv qa1, rv b2, iv 5, iv 4, rv Gg4]) rfl ?_
      refine zg (pc' := 9) X67 Bd d4_37 rfl ?_
      refine zj X67 Bd d4_9 rfl ?_
      refine zj X67 Bd d4_10 rfl ?_
      refine zn X67 Bd d4_11 (XT.ii_ge_f ((by decide) : (4 : Int32) < (5 : Int32))) ?_
      refine zb X67 Bd d4_14 rfl rfl ?_
      refine zj X67 Bd d4_15 rfl ?_
      refine X67.aaload hx (j := (4 : Int32)) (v := (.ref Gg5)) (by rw [e67q]; exact Ar70.1) (State.isArrayOf_alike hZ.alike Ar70.2.1) rfl Ar70.2.2 hin71 hat71 (g := (mkF m 16 #[rv qa1, rv b2, iv 5, iv 4, rv Gg4] [.int 4, .ref b2])) rfl rfl (hb hby d4_16) _ ?_
      refine XS.astore X67.here hx rfl (hb hby d4_17) rfl rfl (l' := #[rv qa1, rv b2, iv 5, iv 4, rv Gg5]) rfl ?_
      refine za X67 Bd d4_19 rfl rfl ?_
      refine st72 _ ?_
      refine zb X72 Bd d4_24 rfl rfl ?_
      exact k)
     by_cases hc76 : qc3 = ([114, 101, 115, 101, 114, 118, 101, 100] : List Int32)
     ·
      skip
      have hp78 : ∀ c ∈ ([114, 101, 115, 101, 114, 118, 101, 100] : List Int32), ¬ c < 0 ∧ ¬ (255 : Int32) < c := (List.forall_mem_cons.mpr ⟨(by decide), (List.forall_mem_cons.mpr ⟨(by decide), (List.forall_mem_cons.mpr ⟨(by decide), (List.forall_mem_cons.mpr ⟨(by decide), (List.forall_mem_cons.mpr ⟨(by decide), (List.forall_mem_cons.mpr ⟨(by decide), (List.forall_mem_cons.mpr ⟨(by decide), (List.forall_mem_cons.mpr ⟨(by decide), (fun _ q => nomatch q)⟩)⟩)⟩)⟩)⟩)⟩)⟩)⟩)
      have hcd79 : StrChars.Road.CodA ([114, 101, 115, 101, 114, 118, 101, 100] : List Int32) 0 (8 : Int32) [.int 114, .int 101, .int 115, .int 101, .int 114, .int 118, .int 101, .int 100] := StrChars.Road.codOf (n := 8) rfl (fun x hx => (hp78 x hx).2)
      have hbd79 : ∀ x ∈ ([114, 101, 115, 101, 114, 118, 101, 100] : List Int32), ¬ x < 0 ∧ ¬ (65535 : Int32) < x := own_up _ hp78
      obtain ⟨cq77, kq77, q77a, q77b, q77c⟩ := isOf hZ e72 (hEN.2.2.2.2.2.2.2.2.2.2.2.2.2.2.2.2.2.2.2.2.2.1.ext O12.2)
      obtain ⟨_, T77, L77, X77, hQ77, st77⟩ := own_cb0 1 5 0 0 1 5 (X72.virtualBack hx (y := Y7_) (z := Y7_) hown (mvT hZ (w97_ hw)) (mvT hZ (w98_ hw)) (notFace_of_selects (args := #[]) (mvT hZ (w100_ hw))) (mvT hZ (w100_ hw)) (mvT hZ (w99_ hw)) (by decide) (StrChars.Road.eqW (W := 0) hZ (own_wq hw) (kI := 4) (w7_ hw) (hEN.2.2.2.2.2.2.2.2.2.2.2.2.2.2.2.2.2.2.2.2.2.1.ext O12.2) (hEN.2.2.2.2.2.2.2.2.2.2.2.2.2.2.2.2.2.2.2.2.2.2.2.2.2.2.1.ext O12.2) (hEN.2.2.2.2.2.2.2.2.2.2.2.2.2.2.2.2.2.2.2.2.2.2.2.2.2.2.2.2.2.2.2.1.ext O12.2) (hEN.2.2.2.2.2.2.2.2.2.2.2.2.2.2.2.2.2.2.2.2.2.2.2.2.2.2.2.2.2.2.2.2.2.2.2.2.2.ext O12.2) hcd79 hbd79 (lE rfl) E27_ F28_ F29_ A30_ cd_qa1 bd_qa1 ln_qa1 (O2.ext O12.2) P5 (lE rfl) (lE rfl)) q77a q77c (g := (mkF m 25 #[rv qa1, rv b2, iv 5, iv 4, rv Gg5] [.ref qa1, .ref Gg10])) rfl hml.symm (Steps.refl _) (argsL := [.ref qa1]) (rest := []) (lenOf pd6 rfl) rfl (own_hw rfl) (hb hby d4_25) (fun _ _ => ⟨rfl, e72, (lE rfl : 1 + 0 ≤ _), (lE rfl : 5 + 0 ≤ _)⟩)) rfl rfl
      dsimp only [Pt.U, Pt.locs, Pt.cells, Pt.slots] at hQ77
      obtain ⟨hv77, rfl, e77q⟩ := hQ77
      rcases hv77 with ⟨rfl, -⟩ | ⟨-, hq77⟩
      rotate_left
      exact absurd ((hc76).symm : ([114, 101, 115, 101, 114, 118, 101, 100] : List Int32) = qc3) hq77
      have N77 := Fr.app N67 (Fr.nil n0)
      refine own_lvF X77 Bd (.ref Gg5) e77q ⟨(by rw [own_sv, if_neg hc16, if_neg hc37, if_neg hc50, if_neg hc63, if_pos hc76]), N77, K7⟩ rfl (fun fs hr => pr75 _ (by
       show Sx p e below T72 m 25 #[rv qa1, rv b2, iv 5, iv 4, rv Gg5] [.ref qa1, .ref Gg10] _
       refine st77.trans ?_
       refine zo X77 Bd d4_28 (XT.i0_eq_f ((by decide) : ¬ ((1 : Int32) = (0 : Int32)))) ?_
       refine za X77 Bd d4_31 rfl rfl ?_
       exact retOut X77 hx Bd.returns rfl (Or.inr (Or.inr (Or.inr (Or.inr ⟨rfl, rfl, rfl⟩)))) (hb hby d4_33) hr))
     ·
      skip
      have hp81 : ∀ c ∈ ([114, 101, 115, 101, 114, 118, 101, 100] : List Int32), ¬ c < 0 ∧ ¬ (255 : Int32) < c := (List.forall_mem_cons.mpr ⟨(by decide), (List.forall_mem_cons.mpr ⟨(by decide), (List.forall_mem_cons.mpr ⟨(by decide), (List.forall_mem_cons.mpr ⟨(by decide), (List.forall_mem_cons.mpr ⟨(by decide), (List.forall_mem_cons.mpr ⟨(by decide), (List.forall_mem_cons.mpr ⟨(by decide), (List.forall_mem_cons.mpr ⟨(by decide), (fun _ q => nomatch q)⟩)⟩)⟩)⟩)⟩)⟩)⟩)⟩)
      have hcd82 : StrChars.Road.CodA ([114, 101, 115, 101, 114, 118, 101, 100] : List Int32) 0 (8 : Int32) [.int 114, .int 101, .int 115, .int 101, .int 114, .int 118, .int 101, .int 100] := StrChars.Road.codOf (n := 8) rfl (fun x hx => (hp81 x hx).2)
      have hbd82 : ∀ x ∈ ([114, 101, 115, 101, 114, 118, 101, 100] : List Int32), ¬ x < 0 ∧ ¬ (65535 : Int32) < x := own_up _ hp81
      obtain ⟨cq80, kq80, q80a, q80b, q80c⟩ := isOf hZ e72 (hEN.2.2.2.2.2.2.2.2.2.2.2.2.2.2.2.2.2.2.2.2.2.1.ext O12.2)
      obtain ⟨_, T80, L80, X80, hQ80, st80⟩ := own_cb0 1 5 0 0 1 5 (X72.virtualBack hx (y := Y7_) (z := Y7_) hown (mvT hZ (w97_ hw)) (mvT hZ (w98_ hw)) (notFace_of_selects (args := #[]) (mvT hZ (w100_ hw))) (mvT hZ (w100_ hw)) (mvT hZ (w99_ hw)) (by decide) (StrChars.Road.eqW (W := 0) hZ (own_wq hw) (kI := 4) (w7_ hw) (hEN.2.2.2.2.2.2.2.2.2.2.2.2.2.2.2.2.2.2.2.2.2.1.ext O12.2) (hEN.2.2.2.2.2.2.2.2.2.2.2.2.2.2.2.2.2.2.2.2.2.2.2.2.2.2.1.ext O12.2) (hEN.2.2.2.2.2.2.2.2.2.2.2.2.2.2.2.2.2.2.2.2.2.2.2.2.2.2.2.2.2.2.2.1.ext O12.2) (hEN.2.2.2.2.2.2.2.2.2.2.2.2.2.2.2.2.2.2.2.2.2.2.2.2.2.2.2.2.2.2.2.2.2.2.2.2.2.ext O12.2) hcd82 hbd82 (lE rfl) E27_ F28_ F29_ A30_ cd_qa1 bd_qa1 ln_qa1 (O2.ext O12.2) P5 (lE rfl) (lE rfl)) q80a q80c (g := (mkF m 25 #[rv qa1, rv b2, iv 5, iv 4, rv Gg5] [.ref qa1, .ref Gg10])) rfl hml.symm (Steps.refl _) (argsL := [.ref qa1]) (rest := []) (lenOf pd6 rfl) rfl (own_hw rfl) (hb hby d4_25) (fun _ _ => ⟨rfl, e72, (lE rfl : 1 + 0 ≤ _), (lE rfl : 5 + 0 ≤ _)⟩)) rfl rfl
      dsimp only [Pt.U, Pt.locs, Pt.cells, Pt.slots] at hQ80
      obtain ⟨hv80, rfl, e80q⟩ := hQ80
      rcases hv80 with ⟨-, hq80⟩ | ⟨rfl, -⟩
      exact absurd hq80 ((Ne.symm hc76) : ¬ (([114, 101, 115, 101, 114, 118, 101, 100] : List Int32) = qc3))
      have N80 := Fr.app N67 (Fr.nil n0)
      refine own_lvF X80 Bd .null e80q ⟨(by rw [own_sv, if_neg hc16, if_neg hc37, if_neg hc50, if_neg hc63, if_neg hc76]), N80, K7⟩ rfl (fun fs hr => pr75 _ (by
       show Sx p e below T72 m 25 #[rv qa1, rv b2, iv 5, iv 4, rv Gg5] [.ref qa1, .ref Gg10] _
       refine st80.trans ?_
       refine zp (pc' := 34) X80 Bd d4_28 (XT.i0_eq_t ((by decide) : (0 : Int32) = (0 : Int32))) rfl ?_
       refine XS.iinc X80.here hx rfl (hb hby d4_34) rfl (l' := #[rv qa1, rv b2, iv 5, iv 5, rv Gg5]) rfl ?_
       refine zg (pc' := 9) X80 Bd d4_37 rfl ?_
       refine zj X80 Bd d4_9 rfl ?_
       refine zj X80 Bd d4_10 rfl ?_
       refine zy (pc' := 40) X80 Bd d4_11 (XT.ii_ge_t ((by decide) : ¬ ((5 : Int32) < (5 : Int32)))) rfl ?_
       refine XS.aconstNull X80.here hx rfl (hb hby d4_40) ?_
       exact retOut X80 hx Bd.returns rfl (Or.inr (Or.inr (Or.inr (Or.inr ⟨rfl, rfl, rfl⟩)))) (hb hby d4_41) hr))
theorem d0_15 : decode method_3_code 15 = .ok (.iload_n 1, 1) := by decide +kernel
theorem d0_16 : decode method_3_code 16 = .ok (.iconst 1, 1) := by decide +kernel
theorem d0_17 : decode method_3_code 17 = .ok (.if_icmp .ne 20, 3) := by decide +kernel
theorem d0_20 : decode method_3_code 20 = .ok (.new 23, 3) := by decide +kernel
theorem d0_23 : decode method_3_code 23 = .ok (.dup, 1) := by decide +kernel
theorem d0_24 : decode method_3_code 24 = .ok (.iconst 1, 1) := by decide +kernel
theorem d0_25 : decode method_3_code 25 = .ok (.newarray .char, 2) := by decide +kernel
theorem d0_27 : decode method_3_code 27 = .ok (.dup, 1) := by decide +kernel
theorem d0_28 : decode method_3_code 28 = .ok (.iconst 0, 1) := by decide +kernel
theorem d0_29 : decode method_3_code 29 = .ok (.aload_n 0, 1) := by decide +kernel
theorem d0_30 : decode method_3_code 30 = .ok (.iconst 0, 1) := by decide +kernel
theorem d0_31 : decode method_3_code 31 = .ok (.caload, 1) := by decide +kernel
theorem d0_32 : decode method_3_code 32 = .ok (.castore, 1) := by decide +kernel
theorem d0_33 : decode method_3_code 33 = .ok (.invokespecial 25, 3) := by decide +kernel
theorem d0_36 : decode method_3_code 36 = .ok (.areturn, 1) := by decide +kernel
-- com/example/hearthline/hearthline/session/SpecialValueOfPinLaw.str([CI)Ljava/lang/String;
def Q7 (Z : State) (qi4 : Int32) (h0 : Heap) (n0 : Nat) (v : Option Value) (h : Heap) (L : List Loc) : Prop := ∃ b3 : Addr, ∃ b31 : Addr, ∃ c31_ : ClassId, v = some (.ref b3) ∧ Fr n0 L ∧ Keep h0 h [] ∧ h0.size ≤ b3 ∧ h0.size ≤ b31 ∧ b3 ≠ b31 ∧ Exa Z h b3 "java/lang/String" ∧ Fld Z h b3 "java/lang/String" "coder" "B" (.int 0) ∧ Fld Z h b3 "java/lang/String" "value" "[B" (.ref b31) ∧ Arv Z h b31 c31_ .byte (1 : Int32) ((([qi4] : List Int32).map (fun c => c.toInt8.toInt32)).map Value.int) (.int 0)
theorem rm7 (l : Launch) (Z : State) (a0 : Array Value) (hw : HW a0 Z) (G1 : Int32) (qa1 : Addr) (qi2 : Int32) (qk3 : ClassId) (qi4 : Int32) (qi5 : Int32) (qi6 : Int32) (qi7 : Int32) (qi8 : Int32) (qi9 : Int32) (qi10 : Int32) (qi11 : Int32) (h0 : Heap) (n0 : Nat) (X00 : Old Z n0 h0) (O2 : Sta Z Z.heap "java/lang/String" "COMPACT_STRINGS" "Z" (.int G1)) (P5 : ¬ (G1 = (0 : Int32))) (hc1 : ¬ (qi2 = (0 : Int32))) (hc2 : qi2 = (1 : Int32)) (A_qa1 : Arv Z h0 qa1 qk3 .char (8 : Int32) [.int qi4, .int qi5, .int qi6, .int qi7, .int qi8, .int qi9, .int qi10, .int qi11] (.int 0)) (hl18 : ¬ qi4 < 0 ∧ ¬ (255 : Int32) < qi4) :
    MF l Z Y2_ method_3_code 2 (some (.object "java/lang/String")) (Rm 4 3 6 66) #[.ref qa1, .int qi2] h0 (Q7 Z qi4 h0 n0) := by
 refine own_sF pn0 rfl (fun m => ef1 m qa1 qi2) ?_
 intro p e s m below meth c s₁ Bd hZ hh hx hby hml hown hnm X0 e0 pre0
 have N0 := Fr.nil n0
 obtain ⟨T3, h3, X3, e3, E3, A3, D3, -, st3⟩ := newO X0 hx hZ hown (w6_ hw) (w7_ hw) (w8_ hw) e0 (g := (mkF m 20 #[rv qa1, iv qi2] [])) rfl (hb hby d0_20) (lE rfl) (lE rfl)
 obtain ⟨b3, g3⟩ : ∃ z, z = h0.size := ⟨_, rfl⟩
 rw [← g3] at A3 D3 st3
 replace X3 : Stand p l e (Rm 4 3 6 66) s m #[.ref qa1, .int qi2] below meth c T3 _ 1 4 := X3
 have K4 := (Keep.refl h0 []).ext E3
 have F5_ : Fld Z h3 b3 "java/lang/String" "coder" "B" (.int 0) := D3 (Or.inr (w32_ hw)) (ty := .byte) (by decide)
 have F6_ : Fld Z h3 b3 "java/lang/String" "value" "[B" .null := D3 (Or.inr (w34_ hw)) (ty := (.array .byte)) (by decide)
 obtain ⟨T7, h7, c7, X7, e7, E7, A7, st7⟩ := newP (aty := .char) X3 hx hZ (w1_ hw) e3 (g := (mkF m 25 #[rv qa1, iv qi2] [.int 1, .ref b3, .ref b3])) rfl (hb hby d0_25) rfl (by decide) (cap := 1) (by decide) (lE rfl) (lE rfl) (lE rfl)
 obtain ⟨b7, g7⟩ : ∃ z, z = h3.size := ⟨_, rfl⟩
 rw [← g7] at A7 st7
 replace X7 : Stand p l e (Rm 4 3 6 66) s m #[.ref qa1, .int qi2] below meth c T7 _ 2 5 := X7
 have K8 := K4.ext E7
 have A9_ : Arv Z h7 b7 c7 .char (1 : Int32) [.int 0] (.int 0) := (Arv.new A7 (by decide)).pad (pad_rep [] (.int 0) 1)
 have A11_ := A_qa1.ext E3
 have A12_ := A11_.ext E7
 have av10 := A12_
 obtain ⟨cl10, Ar10, q10, S10, N10, H10, Gf10⟩ := av10
 have hin13 : ¬ ((0 : Int32) < 0 ∨ cl10.slots.size ≤ ((0 : Int32) : Int32).toNatClampNeg) := inb_of S10 (by decide)
 have hat13 : cl10.slots[((0 : Int32) : Int32).toNatClampNeg]? = some (.int qi4) := Has.at H10 hin13 rfl
 have av14 := A9_
 obtain ⟨cl14, Ar14, q14, S14, N14, H14, Gf14⟩ := av14
 have hin15 : ¬ ((0 : Int32) < 0 ∨ cl14.slots.size ≤ ((0 : Int32) : Int32).toNatClampNeg) := inb_of S14 (by decide)
 obtain ⟨T15, h15, X15, e15, W15, st15⟩ := stC X7 hx hZ e7 Ar14 (j := (0 : Int32)) hin15 (g := (mkF m 32 #[rv qa1, iv qi2] [.int qi4, .int 0, .ref b7, .ref b7, .ref b3, .ref b3])) rfl rfl (hb hby d0_32)
 have O16 := X00.ext E3
 have g_b7 : n0 ≤ b7 := Nat.le_trans (Nat.le_trans (Nat.le_of_eq O16.1.symm) O16.2.1) (Nat.le_of_eq g7.symm)
 have N15_ := Fr.snoc X15 N0 g_b7
 have sz_b7 : h0.size ≤ b7 := Nat.le_trans K4.1 (Nat.le_of_eq g7.symm)
 have K17 := K8.wr W15 (Or.inr sz_b7)
 have A19_ : Arv Z h15 b7 c7 .char (1 : Int32) [.int qi4] (.int 0) := by have q := Arv.set (v := .int (nar .char qi4)) Ar14 q14 S14 N14 H14 Gf14 (fits_nar_char _) W15 0 (by decide) (lE rfl); rw [((own_nar_lat hl18) : nar .char qi4 = qi4)] at q; exact q
 have hp21 : ∀ c ∈ ([qi4] : List Int32), ¬ c < 0 ∧ ¬ (255 : Int32) < c := (List.forall_mem_cons.mpr ⟨hl18, (fun _ q => nomatch q)⟩)
 have g_b3 : n0 ≤ b3 := Nat.le_trans (Nat.le_trans (Nat.le_of_eq X00.1.symm) X00.2.1) (Nat.le_of_eq g3.symm)
 have O23 := O16.ext E7
 have O24 := O23.wr W15 g_b7
 have E25_ := A3.ext E7
 have E26_ := E25_.wr W15
 have F27_ := F6_.ext E7
 have F28_ := F27_.other W15 (Or.inl (Nat.ne_of_lt (Nat.lt_of_lt_of_le A3.lt (Nat.le_of_eq g7.symm))))
 have F29_ := F5_.ext E7
 have F30_ := F29_.other W15 (Or.inl (Nat.ne_of_lt (Nat.lt_of_lt_of_le A3.lt (Nat.le_of_eq g7.symm))))
 obtain ⟨_, T20, L20, X20, hQ20, st20⟩ := own_cb 2 5 1 1 3 6 (X15.specialBack hx (y := Y1_) rfl hown (mvT hZ (w9_ hw)) (mvT hZ (w10_ hw)) (mvT hZ (w11_ hw)) (by decide) (StrChars.Road.backV (W := 1) hZ (own_ws hw) (kI := 4) (w7_ hw) (cs := ([qi4] : List Int32)) (bs := ([qi4] : List Int32).map (fun c => c.toInt8.toInt32)) (n := 1) g_b3 (Nat.le_trans (Nat.le_of_eq O24.1.symm) O24.2.1) E26_ F28_ F30_ A19_ (O2.ext O24.2) P5 rfl rfl (lE rfl) (lE rfl) hp21 rfl (lE rfl) (lE rfl)) (g := (mkF m 33 #[rv qa1, iv qi2] [.ref b7, .ref b3, .ref b3])) rfl hml.symm (Steps.refl _) (a := b3) (argsL := [.ref b7]) (rest := [.ref b3]) (lenOf pd1 rfl) rfl (own_hw rfl) (hb hby d0_33) (fun _ _ => ⟨rfl, e15, (lE rfl : 2 + 1 ≤ _), (lE rfl : 5 + 1 ≤ _)⟩)) rfl rfl
 obtain ⟨rfl, N20q, K20q, E20q, C20q, b31, c31_, u31, g31, ne31, V31_, A31_⟩ := hQ20
 have N20 := Fr.app N15_ N20q
 have sz_b3 : h0.size ≤ b3 := (Nat.le_of_eq g3.symm)
 have K32 := K17.trans K20q (allS (Or.inr sz_b3) all0)
 have sz_b31 : h0.size ≤ b31 := Nat.le_trans K17.1 g31
 have E33_ := E26_.keep K20q
 refine own_lvF X20 Bd (.ref b3) rfl ⟨b3, b31, c31_, rfl, N20, K32, sz_b3, sz_b31, (Ne.symm ne31), E33_, C20q, V31_, A31_⟩ rfl (fun fs hr => pre0 _ (by
  show Sx p e below s₁ m 0 #[rv qa1, iv qi2] [] _
  refine zj X0 Bd d0_0 rfl ?_
  refine zp (pc' := 15) X0 Bd d0_1 (XT.i0_ne_t (hc1 : ¬ (qi2 = (0 : Int32)))) rfl ?_
  refine zj X0 Bd d0_15 rfl ?_
  refine zc X0 Bd d0_16 ?_
  refine zn X0 Bd d0_17 (XT.ii_ne_f (hc2 : qi2 = (1 : Int32))) ?_
  refine st3 _ ?_
  refine XS.dup X3.here hx rfl (hb hby d0_23) rfl rfl ?_
  refine zc X3 Bd d0_24 ?_
  refine st7 _ ?_
  refine XS.dup X7.here hx rfl (hb hby d0_27) rfl rfl ?_
  refine zc X7 Bd d0_28 ?_
  refine zb X7 Bd d0_29 rfl rfl ?_
  refine zc X7 Bd d0_30 ?_
  refine X7.caload hx (j := (0 : Int32)) (v := (.int qi4)) (by rw [e7]; exact Ar10.1) (State.isArrayOf_alike hZ.alike Ar10.2.1) Ar10.2.2 hin13 hat13 (g := (mkF m 31 #[rv qa1, iv qi2] [.int 0, .ref qa1, .int 0, .ref b7, .ref b7, .ref b3, .ref b3])) rfl rfl (hb hby d0_31) _ ?_
  refine st15 _ ?_
  refine st20.trans ?_
  exact retOut X20 hx Bd.returns rfl (Or.inr (Or.inr (Or.inr (Or.inr ⟨rfl, rfl, rfl⟩)))) (hb hby d0_36) hr))
-- com/example/hearthline/hearthline/session/SpecialValueOfPinLaw.ref(Ljava/lang/String;)Lcom/example/hearthline/hearthline/session/Session$Measurement$SpecialValue;
def Q8 (Z : State) (Gg0 : Addr) (Gg2 : Addr) (Gg3 : Addr) (Gg4 : Addr) (Gg5 : Addr) (qi3 : Int32) (h0 : Heap) (n0 : Nat) (v : Option Value) (h : Heap) (L : List Loc) : Prop := v = some (own_sv Gg0 Gg2 Gg3 Gg4 Gg5 ([qi3] : List Int32)) ∧ Fr n0 L ∧ h = h0
theorem rm8 (l : Launch) (Z : State) (a0 : Array Value) (hw : HW a0 Z) (G1 : Int32) (Gg0 : Addr) (Gg1 : Addr) (Gg2 : Addr) (Gg3 : Addr) (Gg4 : Addr) (Gg5 : Addr) (Gg6 : Addr) (Gg7 : Addr) (Gg8 : Addr) (Gg9 : Addr) (Gg10 : Addr) (Gg11 : Addr) (Gg12 : Addr) (Gg13 : Addr) (Gg14 : Addr) (Gg15 : Addr) (Kg16 : ClassId) (Kg17 : ClassId) (Kg18 : ClassId) (Kg19 : ClassId) (Kg20 : ClassId) (Kg21 : ClassId) (qa1 : Addr) (qa2 : Addr) (qi3 : Int32) (qk4 : ClassId) (h0 : Heap) (n0 : Nat) (X00 : Old Z n0 h0) (O2 : Sta Z Z.heap "java/lang/String" "COMPACT_STRINGS" "Z" (.int G1)) (P5 : ¬ (G1 = (0 : Int32))) (hEN : OwnEN Z Gg0 Gg1 Gg2 Gg3 Gg4 Gg5 Gg6 Gg7 Gg8 Gg9 Gg10 Gg11 Gg12 Gg13 Gg14 Gg15 Kg16 Kg17 Kg18 Kg19 Kg20 Kg21) (E_qa1 : Exa Z h0 qa1 "java/lang/String") (F_qa1_coder : Fld Z h0 qa1 "java/lang/String" "coder" "B" (.int 0)) (F_qa1_value : Fld Z h0 qa1 "java/lang/String" "value" "[B" (.ref qa2)) (hp_qa1 : ∀ c ∈ ([qi3] : List Int32), ¬ c < 0 ∧ ¬ (255 : Int32) < c) (A_qa2 : Arv Z h0 qa2 qk4 .byte (1 : Int32) ((([qi3] : List Int32).map (fun c => c.toInt8.toInt32)).map Value.int) (.int 0)) :
    MF l Z Y3_ method_4_code 3 (some (.object "com/example/hearthline/hearthline/session/Session$Measurement$SpecialValue")) (Rm 2 0 0 25) #[.ref qa1] h0 (Q8 Z Gg0 Gg2 Gg3 Gg4 Gg5 qi3 h0 n0) := by
 refine own_sF pn0 rfl (fun m => ef4 m qa1) ?_
 intro p e s m below meth c s₁ Bd hZ hh hx hby hml hown hnm X0 e0 pre0
 have N0 := Fr.nil n0
 have hcd2 : StrChars.Road.CodA ([qi3] : List Int32) 0 (1 : Int32) ((([qi3] : List Int32).map (fun c => c.toInt8.toInt32)).map Value.int) := StrChars.Road.codOf (n := 1) rfl (fun x hx => (hp_qa1 x hx).2)
 have hbd2 : ∀ x ∈ ([qi3] : List Int32), ¬ x < 0 ∧ ¬ (65535 : Int32) < x := own_up _ hp_qa1
 obtain ⟨cq1, kq1, q1a, q1b, q1c⟩ := isOf hZ e0 E_qa1
 obtain ⟨_, T1, L1, X1, hQ1, st1⟩ := own_cb0 0 0 0 0 0 0 (X0.virtualBack hx (y := Y4_) (z := Y4_) hown (mvT hZ (w38_ hw)) (mvT hZ (w39_ hw)) (notFace_of_selects (args := #[]) (mvT hZ (w41_ hw))) (mvT hZ (w41_ hw)) (mvT hZ (w40_ hw)) (by decide) (StrChars.Road.lenW (W := 0) hZ (own_wl hw) (kI := 4) (w7_ hw) E_qa1 F_qa1_value F_qa1_coder A_qa2 hcd2 hbd2 (O2.ext X00.2) P5 (lE rfl) (lE rfl) (lE rfl)) q1a q1c (g := (mkF m 1 #[rv qa1, .unset, .unset] [.ref qa1])) rfl hml.symm (Steps.refl _) (argsL := []) (rest := []) (lenOf pd3 rfl) rfl (own_hw rfl) (hb hby d3_1) (fun _ _ => ⟨rfl, e0, (lE rfl : 0 + 0 ≤ _), (lE rfl : 0 + 0 ≤ _)⟩)) rfl rfl
 dsimp only [Pt.U, Pt.locs, Pt.cells, Pt.slots] at hQ1
 obtain ⟨rfl, rfl, e1q⟩ := hQ1
 have N1 := Fr.app N0 (Fr.nil n0)
 refine own_lvF X1 Bd .null e1q ⟨(by simp [own_sv]), N1, rfl⟩ rfl (fun fs hr => pre0 _ (by
  show Sx p e below s₁ m 0 #[rv qa1, .unset, .unset] [] _
  refine zb X0 Bd d3_0 rfl rfl ?_
  refine st1.trans ?_
  refine zt X1 Bd d3_4 (l' := #[rv qa1, iv 1, .unset]) rfl ?_
  refine zj X1 Bd d3_5 rfl ?_
  refine zc X1 Bd d3_6 ?_
  refine zy (pc' := 46) X1 Bd d3_7 (XT.ii_ne_t ((by decide) : ¬ ((1 : Int32) = (3 : Int32)))) rfl ?_
  refine zj X1 Bd d3_46 rfl ?_
  refine zc X1 Bd d3_47 ?_
  refine zy (pc' := 151) X1 Bd d3_48 (XT.ii_ne_t ((by decide) : ¬ ((1 : Int32) = (4 : Int32)))) rfl ?_
  refine zj X1 Bd d3_151 rfl ?_
  refine zd X1 Bd d3_152 ?_
  refine zy (pc' := 245) X1 Bd d3_154 (XT.ii_ne_t ((by decide) : ¬ ((1 : Int32) = (8 : Int32)))) rfl ?_
  refine XS.aconstNull X1.here hx rfl (hb hby d3_245) ?_
  exact retOut X1 hx Bd.returns rfl (Or.inr (Or.inr (Or.inr (Or.inr ⟨rfl, rfl, rfl⟩)))) (hb hby d3_246) hr))
theorem d0_37 : decode method_3_code 37 = .ok (.iload_n 1, 1) := by decide +kernel
theorem d0_38 : decode method_3_code 38 = .ok (.iconst 2, 1) := by decide +kernel
theorem d0_39 : decode method_3_code 39 = .ok (.if_icmp .ne 26, 3) := by decide +kernel
theorem d0_42 : decode method_3_code 42 = .ok (.new 23, 3) := by decide +kernel
theorem d0_45 : decode method_3_code 45 = .ok (.dup, 1) := by decide +kernel
theorem d0_46 : decode method_3_code 46 = .ok (.iconst 2, 1) := by decide +kernel
theorem d0_47 : decode method_3_code 47 = .ok (.newarray .char, 2) := by decide +kernel
theorem d0_49 : decode method_3_code 49 = .ok (.dup, 1) := by decide +kernel
theorem d0_50 : decode method_3_code 50 = .ok (.iconst 0, 1) := by decide +kernel
theorem d0_51 : decode method_3_code 51 = .ok (.aload_n 0, 1) := by decide +kernel
theorem d0_52 : decode method_3_code 52 = .ok (.iconst 0, 1) := by decide +kernel
theorem d0_53 : decode method_3_code 53 = .ok (.caload, 1) := by decide +kernel
theorem d0_54 : decode method_3_code 54 = .ok (.castore, 1) := by decide +kernel
theorem d0_55 : decode method_3_code 55 = .ok (.dup, 1) := by decide +kernel
theorem d0_56 : decode method_3_code 56 = .ok (.iconst 1, 1) := by decide +kernel
theorem d0_57 : decode method_3_code 57 = .ok (.aload_n 0, 1) := by decide +kernel
theorem d0_58 : decode method_3_code 58 = .ok (.iconst 1, 1) := by decide +kernel
theorem d0_59 : decode method_3_code 59 = .ok (.caload, 1) := by decide +kernel
theorem d0_60 : decode method_3_code 60 = .ok (.castore, 1) := by decide +kernel
theorem d0_61 : decode method_3_code 61 = .ok (.invokespecial 25, 3) := by decide +kernel
theorem d0_64 : decode method_3_code 64 = .ok (.areturn, 1) := by decide +kernel
-- com/example/hearthline/hearthline/session/SpecialValueOfPinLaw.str([CI)Ljava/lang/String;
def Q9 (Z : State) (qi4 : Int32) (qi5 : Int32) (h0 : Heap) (n0 : Nat) (v : Option Value) (h : Heap) (L : List Loc) : Prop := ∃ b4 : Addr, ∃ b45 : Addr, ∃ c45_ : ClassId, v = some (.ref b4) ∧ Fr n0 L ∧ Keep h0 h [] ∧ h0.size ≤ b4 ∧ h0.size ≤ b45 ∧ b4 ≠ b45 ∧ Exa Z h b4 "java/lang/String" ∧ Fld Z h b4 "java/lang/String" "coder" "B" (.int 0) ∧ Fld Z h b4 "java/lang/String" "value" "[B" (.ref b45) ∧ Arv Z h b45 c45_ .byte (2 : Int32) ((([qi4, qi5] : List Int32).map (fun c => c.toInt8.toInt32)).map Value.int) (.int 0)
theorem rm9 (l : Launch) (Z : State) (a0 : Array Value) (hw : HW a0 Z) (G1 : Int32) (qa1 : Addr) (qi2 : Int32) (qk3 : ClassId) (qi4 : Int32) (qi5 : Int32) (qi6 : Int32) (qi7 : Int32) (qi8 : Int32) (qi9 : Int32) (qi10 : Int32) (qi11 : Int32) (h0 : Heap) (n0 : Nat) (X00 : Old Z n0 h0) (O2 : Sta Z Z.heap "java/lang/String" "COMPACT_STRINGS" "Z" (.int G1)) (P5 : ¬ (G1 = (0 : Int32))) (hc1 : ¬ (qi2 = (0 : Int32))) (hc2 : ¬ (qi2 = (1 : Int32))) (hc3 : qi2 = (2 : Int32)) (A_qa1 : Arv Z h0 qa1 qk3 .char (8 : Int32) [.int qi4, .int qi5, .int qi6, .int qi7, .int qi8, .int qi9, .int qi10, .int qi11] (.int 0)) (hl19 : ¬ qi4 < 0 ∧ ¬ (255 : Int32) < qi4) (hl27 : ¬ qi5 < 0 ∧ ¬ (255 : Int32) < qi5) :
    MF l Z Y2_ method_3_code 2 (some (.object "java/lang/String")) (Rm 4 3 8 66) #[.ref qa1, .int qi2] h0 (Q9 Z qi4 qi5 h0 n0) := by
 refine own_sF pn0 rfl (fun m => ef1 m qa1 qi2) ?_
 intro p e s m below meth c s₁ Bd hZ hh hx hby hml hown hnm X0 e0 pre0
 have N0 := Fr.nil n0
 obtain ⟨T4, h4, X4, e4, E4, A4, D4, -, st4⟩ := newO X0 hx hZ hown (w6_ hw) (w7_ hw) (w8_ hw) e0 (g := (mkF m 42 #[rv qa1, iv qi2] [])) rfl (hb hby d0_42) (lE rfl) (lE rfl)
 obtain ⟨b4, g4⟩ : ∃ z, z = h0.size := ⟨_, rfl⟩
 rw [← g4] at A4 D4 st4
 replace X4 : Stand p l e (Rm 4 3 8 66) s m #[.ref qa1, .int qi2] below meth c T4 _ 1 4 := X4
 have K5 := (Keep.refl h0 []).ext E4
 have F6_ : Fld Z h4 b4 "java/lang/String" "coder" "B" (.int 0) := D4 (Or.inr (w32_ hw)) (ty := .byte) (by decide)
 have F7_ : Fld Z h4 b4 "java/lang/String" "value" "[B" .null := D4 (Or.inr (w34_ hw)) (ty := (.array .byte)) (by decide)
 obtain ⟨T8, h8, c8, X8, e8, E8, A8, st8⟩ := newP (aty := .char) X4 hx hZ (w1_ hw) e4 (g := (mkF m 47 #[rv qa1, iv qi2] [.int 2, .ref b4, .ref b4])) rfl (hb hby d0_47) rfl (by decide) (cap := 2) (by decide) (lE rfl) (lE rfl) (lE rfl)
 obtain ⟨b8, g8⟩ : ∃ z, z = h4.size := ⟨_, rfl⟩
 rw [← g8] at A8 st8
 replace X8 : Stand p l e (Rm 4 3 8 66) s m #[.ref qa1, .int qi2] below meth c T8 _ 2 6 := X8
 have K9 := K5.ext E8
 have A10_ : Arv Z h8 b8 c8 .char (2 : Int32) [.int 0, .int 0] (.int 0) := (Arv.new A8 (by decide)).pad (pad_rep [] (.int 0) 2)
 have A12_ := A_qa1.ext E4
 have A13_ := A12_.ext E8
 have av11 := A13_
 obtain ⟨cl11, Ar11, q11, S11, N11, H11, Gf11⟩ := av11
 have hin14 : ¬ ((0 : Int32) < 0 ∨ cl11.slots.size ≤ ((0 : Int32) : Int32).toNatClampNeg) := inb_of S11 (by decide)
 have hat14 : cl11.slots[((0 : Int32) : Int32).toNatClampNeg]? = some (.int qi4) := Has.at H11 hin14 rfl
 have av15 := A10_
 obtain ⟨cl15, Ar15, q15, S15, N15, H15, Gf15⟩ := av15
 have hin16 : ¬ ((0 : Int32) < 0 ∨ cl15.slots.size ≤ ((0 : Int32) : Int32).toNatClampNeg) := inb_of S15 (by decide)
 obtain ⟨T16, h16, X16, e16, W16, st16⟩ := stC X8 hx hZ e8 Ar15 (j := (0 : Int32)) hin16 (g := (mkF m 54 #[rv qa1, iv qi2] [.int qi4, .int 0, .ref b8, .ref b8, .ref b4, .ref b4])) rfl rfl (hb hby d0_54)
 have O17 := X00.ext E4
 have g_b8 : n0 ≤ b8 := Nat.le_trans (Nat.le_trans (Nat.le_of_eq O17.1.symm) O17.2.1) (Nat.le_of_eq g8.symm)
 have N16_ := Fr.snoc X16 N0 g_b8
 have sz_b8 : h0.size ≤ b8 := Nat.le_trans K5.1 (Nat.le_of_eq g8.symm)
 have K18 := K9.wr W16 (Or.inr sz_b8)
 have A20_ : Arv Z h16 b8 c8 .char (2 : Int32) [.int qi4, .int 0] (.int 0) := by have q := Arv.set (v := .int (nar .char qi4)) Ar15 q15 S15 N15 H15 Gf15 (fits_nar_char _) W16 0 (by decide) (lE rfl); rw [((own_nar_lat hl19) : nar .char qi4 = qi4)] at q; exact q
 have A22_ := A13_.other W16 (Nat.ne_of_lt (Nat.lt_of_lt_of_le (Nat.lt_of_lt_of_le A_qa1.lt E4.1) (Nat.le_of_eq g8.symm)))
 have av21 := A22_
 obtain ⟨cl21, Ar21, q21, S21, N21, H21, Gf21⟩ := av21
 have hin23 : ¬ ((1 : Int32) < 0 ∨ cl21.slots.size ≤ ((1 : Int32) : Int32).toNatClampNeg) := inb_of S21 (by decide)
 have hat23 : cl21.slots[((1 : Int32) : Int32).toNatClampNeg]? = some (.int qi5) := Has.at H21 hin23 rfl
 have av24 := A20_
 obtain ⟨cl24, Ar24, q24, S24, N24, H24, Gf24⟩ := av24
 have hin25 : ¬ ((1 : Int32) < 0 ∨ cl24.slots.size ≤ ((1 : Int32) : Int32).toNatClampNeg) := inb_of S24 (by decide)
 obtain ⟨T25, h25, X25, e25, W25, st25⟩ := stC X16 hx hZ e16 Ar24 (j := (1 : Int32)) hin25 (g := (mkF m 60 #[rv qa1, iv qi2] [.int qi5, .int 1, .ref b8, .ref b8, .ref b4, .ref b4])) rfl rfl (hb hby d0_60)
 have N25_ := Fr.snoc X25 N16_ g_b8
 have K26 := K18.wr W25 (Or.inr sz_b8)
 have A28_ : Arv Z h25 b8 c8 .char (2 : Int32) [.int qi4, .int qi5] (.int 0) := by have q := Arv.set (v := .int (nar .char qi5)) Ar24 q24 S24 N24 H24 Gf24 (fits_nar_char _) W25 1 (by decide) (lE rfl); rw [((own_nar_lat hl27) : nar .char qi5 = qi5)] at q; exact q
 have hp30 : ∀ c ∈ ([qi4, qi5] : List Int32), ¬ c < 0 ∧ ¬ (255 : Int32) < c := (List.forall_mem_cons.mpr ⟨hl19, (List.forall_mem_cons.mpr ⟨hl27, (fun _ q => nomatch q)⟩)⟩)
 have g_b4 : n0 ≤ b4 := Nat.le_trans (Nat.le_trans (Nat.le_of_eq X00.1.symm) X00.2.1) (Nat.le_of_eq g4.symm)
 have O33 := O17.ext E8
 have O34 := O33.wr W16 g_b8
 have O35 := O34.wr W25 g_b8
 have E36_ := A4.ext E8
 have E37_ := E36_.wr W16
 have E38_ := E37_.wr W25
 have F39_ := F7_.ext E8
 have F40_ := F39_.other W16 (Or.inl (Nat.ne_of_lt (Nat.lt_of_lt_of_le A4.lt (Nat.le_of_eq g8.symm))))
 have F41_ := F40_.other W25 (Or.inl (Nat.ne_of_lt (Nat.lt_of_lt_of_le A4.lt (Nat.le_of_eq g8.symm))))
 have F42_ := F6_.ext E8
 have F43_ := F42_.other W16 (Or.inl (Nat.ne_of_lt (Nat.lt_of_lt_of_le A4.lt (Nat.le_of_eq g8.symm))))
 have F44_ := F43_.other W25 (Or.inl (Nat.ne_of_lt (Nat.lt_of_lt_of_le A4.lt (Nat.le_of_eq g8.symm))))
 obtain ⟨_, T29, L29, X29, hQ29, st29⟩ := own_cb 2 6 1 2 3 8 (X25.specialBack hx (y := Y1_) rfl hown (mvT hZ (w9_ hw)) (mvT hZ (w10_ hw)) (mvT hZ (w11_ hw)) (by decide) (StrChars.Road.backV (W := 1) hZ (own_ws hw) (kI := 4) (w7_ hw) (cs := ([qi4, qi5] : List Int32)) (bs := ([qi4, qi5] : List Int32).map (fun c => c.toInt8.toInt32)) (n := 2) g_b4 (Nat.le_trans (Nat.le_of_eq O35.1.symm) O35.2.1) E38_ F41_ F44_ A28_ (O2.ext O35.2) P5 rfl rfl (lE rfl) (lE rfl) hp30 rfl (lE rfl) (lE rfl)) (g := (mkF m 61 #[rv qa1, iv qi2] [.ref b8, .ref b4, .ref b4])) rfl hml.symm (Steps.refl _) (a := b4) (argsL := [.ref b8]) (rest := [.ref b4]) (lenOf pd1 rfl) rfl (own_hw rfl) (hb hby d0_61) (fun _ _ => ⟨rfl, e25, (lE rfl : 2 + 1 ≤ _), (lE rfl : 6 + 2 ≤ _)⟩)) rfl rfl
 obtain ⟨rfl, N29q, K29q, E29q, C29q, b45, c45_, u45, g45, ne45, V45_, A45_⟩ := hQ29
 have N29 := Fr.app N25_ N29q
 have sz_b4 : h0.size ≤ b4 := (Nat.le_of_eq g4.symm)
 have K46 := K26.trans K29q (allS (Or.inr sz_b4) all0)
 have sz_b45 : h0.size ≤ b45 := Nat.le_trans K26.1 g45
 have E47_ := E38_.keep K29q
 refine own_lvF X29 Bd (.ref b4) rfl ⟨b4, b45, c45_, rfl, N29, K46, sz_b4, sz_b45, (Ne.symm ne45), E47_, C29q, V45_, A45_⟩ rfl (fun fs hr => pre0 _ (by
  show Sx p e below s₁ m 0 #[rv qa1, iv qi2] [] _
  refine zj X0 Bd d0_0 rfl ?_
  refine zp (pc' := 15) X0 Bd d0_1 (XT.i0_ne_t (hc1 : ¬ (qi2 = (0 : Int32)))) rfl ?_
  refine zj X0 Bd d0_15 rfl ?_
  refine zc X0 Bd d0_16 ?_
  refine zy (pc' := 37) X0 Bd d0_17 (XT.ii_ne_t (hc2 : ¬ (qi2 = (1 : Int32)))) rfl ?_
  refine zj X0 Bd d0_37 rfl ?_
  refine zc X0 Bd d0_38 ?_
  refine zn X0 Bd d0_39 (XT.ii_ne_f (hc3 : qi2 = (2 : Int32))) ?_
  refine st4 _ ?_
  refine XS.dup X4.here hx rfl (hb hby d0_45) rfl rfl ?_
  refine zc X4 Bd d0_46 ?_
  refine st8 _ ?_
  refine XS.dup X8.here hx rfl (hb hby d0_49) rfl rfl ?_
  refine zc X8 Bd d0_50 ?_
  refine zb X8 Bd d0_51 rfl rfl ?_
  refine zc X8 Bd d0_52 ?_
  refine X8.caload hx (j := (0 : Int32)) (v := (.int qi4)) (by rw [e8]; exact Ar11.1) (State.isArrayOf_alike hZ.alike Ar11.2.1) Ar11.2.2 hin14 hat14 (g := (mkF m 53 #[rv qa1, iv qi2] [.int 0, .ref qa1, .int 0, .ref b8, .ref b8, .ref b4, .ref b4])) rfl rfl (hb hby d0_53) _ ?_
  refine st16 _ ?_
  refine XS.dup X16.here hx rfl (hb hby d0_55) rfl rfl ?_
  refine zc X16 Bd d0_56 ?_
  refine zb X16 Bd d0_57 rfl rfl ?_
  refine zc X16 Bd d0_58 ?_
  refine X16.caload hx (j := (1 : Int32)) (v := (.int qi5)) (by rw [e16]; exact Ar21.1) (State.isArrayOf_alike hZ.alike Ar21.2.1) Ar21.2.2 hin23 hat23 (g := (mkF m 59 #[rv qa1, iv qi2] [.int 1, .ref qa1, .int 1, .ref b8, .ref b8, .ref b4, .ref b4])) rfl rfl (hb hby d0_59) _ ?_
  refine st25 _ ?_
  refine st29.trans ?_
  show Sx p e below T29 m 64 #[rv qa1, iv qi2] [.ref b4] _
  exact retOut X29 hx Bd.returns rfl (Or.inr (Or.inr (Or.inr (Or.inr ⟨rfl, rfl, rfl⟩)))) (hb hby d0_64) hr))
-- com/example/hearthline/hearthline/session/SpecialValueOfPinLaw.ref(Ljava/lang/String;)Lcom/example/hearthline/hearthline/session/Session$Measurement$SpecialValue;
def Q10 (Z : State) (Gg0 : Addr) (Gg2 : Addr) (Gg3 : Addr) (Gg4 : Addr) (Gg5 : Addr) (qi3 : Int32) (qi4 : Int32) (h0 : Heap) (n0 : Nat) (v : Option Value) (h : Heap) (L : List Loc) : Prop := v = some (own_sv Gg0 Gg2 Gg3 Gg4 Gg5 ([qi3, qi4] : List Int32)) ∧ Fr n0 L ∧ h = h0
theorem rm10 (l : Launch) (Z : State) (a0 : Array Value) (hw : HW a0 Z) (G1 : Int32) (Gg0 : Addr) (Gg1 : Addr) (Gg2 : Addr) (Gg3 : Addr) (Gg4 : Addr) (Gg5 : Addr) (Gg6 : Addr) (Gg7 : Addr) (Gg8 : Addr) (Gg9 : Addr) (Gg10 : Addr) (Gg11 : Addr) (Gg12 : Addr) (Gg13 : Addr) (Gg14 : Addr) (Gg15 : Addr) (Kg16 : ClassId) (Kg17 : ClassId) (Kg18 : ClassId) (Kg19 : ClassId) (Kg20 : ClassId) (Kg21 : ClassId) (qa1 : Addr) (qa2 : Addr) (qi3 : Int32) (qi4 : Int32) (qk5 : ClassId) (h0 : Heap) (n0 : Nat) (X00 : Old Z n0 h0) (O2 : Sta Z Z.heap "java/lang/String" "COMPACT_STRINGS" "Z" (.int G1)) (P5 : ¬ (G1 = (0 : Int32))) (hEN : OwnEN Z Gg0 Gg1 Gg2 Gg3 Gg4 Gg5 Gg6 Gg7 Gg8 Gg9 Gg10 Gg11 Gg12 Gg13 Gg14 Gg15 Kg16 Kg17 Kg18 Kg19 Kg20 Kg21) (E_qa1 : Exa Z h0 qa1 "java/lang/String") (F_qa1_coder : Fld Z h0 qa1 "java/lang/String" "coder" "B" (.int 0)) (F_qa1_value : Fld Z h0 qa1 "java/lang/String" "value" "[B" (.ref qa2)) (hp_qa1 : ∀ c ∈ ([qi3, qi4] : List Int32), ¬ c < 0 ∧ ¬ (255 : Int32) < c) (A_qa2 : Arv Z h0 qa2 qk5 .byte (2 : Int32) ((([qi3, qi4] : List Int32).map (fun c => c.toInt8.toInt32)).map Value.int) (.int 0)) :
    MF l Z Y3_ method_4_code 3 (some (.object "com/example/hearthline/hearthline/session/Session$Measurement$SpecialValue")) (Rm 2 0 0 25) #[.ref qa1] h0 (Q10 Z Gg0 Gg2 Gg3 Gg4 Gg5 qi3 qi4 h0 n0) := by
 refine own_sF pn0 rfl (fun m => ef4 m qa1) ?_
 intro p e s m below meth c s₁ Bd hZ hh hx hby hml hown hnm X0 e0 pre0
 have N0 := Fr.nil n0
 have hcd2 : StrChars.Road.CodA ([qi3, qi4] : List Int32) 0 (2 : Int32) ((([qi3, qi4] : List Int32).map (fun c => c.toInt8.toInt32)).map Value.int) := StrChars.Road.codOf (n := 2) rfl (fun x hx => (hp_qa1 x hx).2)
 have hbd2 : ∀ x ∈ ([qi3, qi4] : List Int32), ¬ x < 0 ∧ ¬ (65535 : Int32) < x := own_up _ hp_qa1
 obtain ⟨cq1, kq1, q1a, q1b, q1c⟩ := isOf hZ e0 E_qa1
 obtain ⟨_, T1, L1, X1, hQ1, st1⟩ := own_cb0 0 0 0 0 0 0 (X0.virtualBack hx (y := Y4_) (z := Y4_) hown (mvT hZ (w38_ hw)) (mvT hZ (w39_ hw)) (notFace_of_selects (args := #[]) (mvT hZ (w41_ hw))) (mvT hZ (w41_ hw)) (mvT hZ (w40_ hw)) (by decide) (StrChars.Road.lenW (W := 0) hZ (own_wl hw) (kI := 4) (w7_ hw) E_qa1 F_qa1_value F_qa1_coder A_qa2 hcd2 hbd2 (O2.ext X00.2) P5 (lE rfl) (lE rfl) (lE rfl)) q1a q1c (g := (mkF m 1 #[rv qa1, .unset, .unset] [.ref qa1])) rfl hml.symm (Steps.refl _) (argsL := []) (rest := []) (lenOf pd3 rfl) rfl (own_hw rfl) (hb hby d3_1) (fun _ _ => ⟨rfl, e0, (lE rfl : 0 + 0 ≤ _), (lE rfl : 0 + 0 ≤ _)⟩)) rfl rfl
 dsimp only [Pt.U, Pt.locs, Pt.cells, Pt.slots] at hQ1
 obtain ⟨rfl, rfl, e1q⟩ := hQ1
 have N1 := Fr.app N0 (Fr.nil n0)
 refine own_lvF X1 Bd .null e1q ⟨(by simp [own_sv]), N1, rfl⟩ rfl (fun fs hr => pre0 _ (by
  show Sx p e below s₁ m 0 #[rv qa1, .unset, .unset] [] _
  refine zb X0 Bd d3_0 rfl rfl ?_
  refine st1.trans ?_
  refine zt X1 Bd d3_4 (l' := #[rv qa1, iv 2, .unset]) rfl ?_
  refine zj X1 Bd d3_5 rfl ?_
  refine zc X1 Bd d3_6 ?_
  refine zy (pc' := 46) X1 Bd d3_7 (XT.ii_ne_t ((by decide) : ¬ ((2 : Int32) = (3 : Int32)))) rfl ?_
  refine zj X1 Bd d3_46 rfl ?_
  refine zc X1 Bd d3_47 ?_
  refine zy (pc' := 151) X1 Bd d3_48 (XT.ii_ne_t ((by decide) : ¬ ((2 : Int32) = (4 : Int32)))) rfl ?_
  refine zj X1 Bd d3_151 rfl ?_
  refine zd X1 Bd d3_152 ?_
  refine zy (pc' := 245) X1 Bd d3_154 (XT.ii_ne_t ((by decide) : ¬ ((2 : Int32) = (8 : Int32)))) rfl ?_
  refine XS.aconstNull X1.here hx rfl (hb hby d3_245) ?_
  exact retOut X1 hx Bd.returns rfl (Or.inr (Or.inr (Or.inr (Or.inr ⟨rfl, rfl, rfl⟩)))) (hb hby d3_246) hr))
theorem d0_65 : decode method_3_code 65 = .ok (.iload_n 1, 1) := by decide +kernel
theorem d0_66 : decode method_3_code 66 = .ok (.iconst 3, 1) := by decide +kernel
theorem d0_67 : decode method_3_code 67 = .ok (.if_icmp .ne 32, 3) := by decide +kernel
theorem d0_70 : decode method_3_code 70 = .ok (.new 23, 3) := by decide +kernel
theorem d0_73 : decode method_3_code 73 = .ok (.dup, 1) := by decide +kernel
theorem d0_74 : decode method_3_code 74 = .ok (.iconst 3, 1) := by decide +kernel
theorem d0_75 : decode method_3_code 75 = .ok (.newarray .char, 2) := by decide +kernel
theorem d0_77 : decode method_3_code 77 = .ok (.dup, 1) := by decide +kernel
theorem d0_78 : decode method_3_code 78 = .ok (.iconst 0, 1) := by decide +kernel
theorem d0_79 : decode method_3_code 79 = .ok (.aload_n 0, 1) := by decide +kernel
theorem d0_80 : decode method_3_code 80 = .ok (.iconst 0, 1) := by decide +kernel
theorem d0_81 : decode method_3_code 81 = .ok (.caload, 1) := by decide +kernel
theorem d0_82 : decode method_3_code 82 = .ok (.castore, 1) := by decide +kernel
theorem d0_83 : decode method_3_code 83 = .ok (.dup, 1) := by decide +kernel
theorem d0_84 : decode method_3_code 84 = .ok (.iconst 1, 1) := by decide +kernel
theorem d0_85 : decode method_3_code 85 = .ok (.aload_n 0, 1) := by decide +kernel
theorem d0_86 : decode method_3_code 86 = .ok (.iconst 1, 1) := by decide +kernel
theorem d0_87 : decode method_3_code 87 = .ok (.caload, 1) := by decide +kernel
theorem d0_88 : decode method_3_code 88 = .ok (.castore, 1) := by decide +kernel
theorem d0_89 : decode method_3_code 89 = .ok (.dup, 1) := by decide +kernel
theorem d0_90 : decode method_3_code 90 = .ok (.iconst 2, 1) := by decide +kernel
theorem d0_91 : decode method_3_code 91 = .ok (.aload_n 0, 1) := by decide +kernel
theorem d0_92 : decode method_3_code 92 = .ok (.iconst 2, 1) := by decide +kernel
theorem d0_93 : decode method_3_code 93 = .ok (.caload, 1) := by decide +kernel
theorem d0_94 : decode method_3_code 94 = .ok (.castore, 1) := by decide +kernel
theorem d0_95 : decode method_3_code 95 = .ok (.invokespecial 25, 3) := by decide +kernel
theorem d0_98 : decode method_3_code 98 = .ok (.areturn, 1) := by decide +kernel
-- com/example/hearthline/hearthline/session/SpecialValueOfPinLaw.str([CI)Ljava/lang/String;
def Q11 (Z : State) (qi4 : Int32) (qi5 : Int32) (qi6 : Int32) (h0 : Heap) (n0 : Nat) (v : Option Value) (h : Heap) (L : List Loc) : Prop := ∃ b5 : Addr, ∃ b59 : Addr, ∃ c59_ : ClassId, v = some (.ref b5) ∧ Fr n0 L ∧ Keep h0 h [] ∧ h0.size ≤ b5 ∧ h0.size ≤ b59 ∧ b5 ≠ b59 ∧ Exa Z h b5 "java/lang/String" ∧ Fld Z h b5 "java/lang/String" "coder" "B" (.int 0) ∧ Fld Z h b5 "java/lang/String" "value" "[B" (.ref b59) ∧ Arv Z h b59 c59_ .byte (3 : Int32) ((([qi4, qi5, qi6] : List Int32).map (fun c => c.toInt8.toInt32)).map Value.int) (.int 0)
theorem rm11 (l : Launch) (Z : State) (a0 : Array Value) (hw : HW a0 Z) (G1 : Int32) (qa1 : Addr) (qi2 : Int32) (qk3 : ClassId) (qi4 : Int32) (qi5 : Int32) (qi6 : Int32) (qi7 : Int32) (qi8 : Int32) (qi9 : Int32) (qi10 : Int32) (qi11 : Int32) (h0 : Heap) (n0 : Nat) (X00 : Old Z n0 h0) (O2 : Sta Z Z.heap "java/lang/String" "COMPACT_STRINGS" "Z" (.int G1)) (P5 : ¬ (G1 = (0 : Int32))) (hc1 : ¬ (qi2 = (0 : Int32))) (hc2 : ¬ (qi2 = (1 : Int32))) (hc3 : ¬ (qi2 = (2 : Int32))) (hc4 : qi2 = (3 : Int32)) (A_qa1 : Arv Z h0 qa1 qk3 .char (8 : Int32) [.int qi4, .int qi5, .int qi6, .int qi7, .int qi8, .int qi9, .int qi10, .int qi11] (.int 0)) (hl20 : ¬ qi4 < 0 ∧ ¬ (255 : Int32) < qi4) (hl28 : ¬ qi5 < 0 ∧ ¬ (255 : Int32) < qi5) (hl36 : ¬ qi6 < 0 ∧ ¬ (255 : Int32) < qi6) :
    MF l Z Y2_ method_3_code 2 (some (.object "java/lang/String")) (Rm 4 3 10 66) #[.ref qa1, .int qi2] h0 (Q11 Z qi4 qi5 qi6 h0 n0) := by
 refine own_sF pn0 rfl (fun m => ef1 m qa1 qi2) ?_
 intro p e s m below meth c s₁ Bd hZ hh hx hby hml hown hnm X0 e0 pre0
 have N0 := Fr.nil n0
 obtain ⟨T5, h5, X5, e5, E5, A5, D5, -, st5⟩ := newO X0 hx hZ hown (w6_ hw) (w7_ hw) (w8_ hw) e0 (g := (mkF m 70 #[rv qa1, iv qi2] [])) rfl (hb hby d0_70) (lE rfl) (lE rfl)
 obtain ⟨b5, g5⟩ : ∃ z, z = h0.size := ⟨_, rfl⟩
 rw [← g5] at A5 D5 st5
 replace X5 : Stand p l e (Rm 4 3 10 66) s m #[.ref qa1, .int qi2] below meth c T5 _ 1 4 := X5
 have K6 := (Keep.refl h0 []).ext E5
 have F7_ : Fld Z h5 b5 "java/lang/String" "coder" "B" (.int 0) := D5 (Or.inr (w32_ hw)) (ty := .byte) (by decide)
 have F8_ : Fld Z h5 b5 "java/lang/String" "value" "[B" .null := D5 (Or.inr (w34_ hw)) (ty := (.array .byte)) (by decide)
 obtain ⟨T9, h9, c9, X9, e9, E9, A9, st9⟩ := newP (aty := .char) X5 hx hZ (w1_ hw) e5 (g := (mkF m 75 #[rv qa1, iv qi2] [.int 3, .ref b5, .ref b5])) rfl (hb hby d0_75) rfl (by decide) (cap := 3) (by decide) (lE rfl) (lE rfl) (lE rfl)
 obtain ⟨b9, g9⟩ : ∃ z, z = h5.size := ⟨_, rfl⟩
 rw [← g9] at A9 st9
 replace X9 : Stand p l e (Rm 4 3 10 66) s m #[.ref qa1, .int qi2] below meth c T9 _ 2 7 := X9
 have K10 := K6.ext E9
 have A11_ : Arv Z h9 b9 c9 .char (3 : Int32) [.int 0, .int 0, .int 0] (.int 0) := (Arv.new A9 (by decide)).pad (pad_rep [] (.int 0) 3)
 have A13_ := A_qa1.ext E5
 have A14_ := A13_.ext E9
 have av12 := A14_
 obtain ⟨cl12, Ar12, q12, S12, N12, H12, Gf12⟩ := av12
 have hin15 : ¬ ((0 : Int32) < 0 ∨ cl12.slots.size ≤ ((0 : Int32) : Int32).toNatClampNeg) := inb_of S12 (by decide)
 have hat15 : cl12.slots[((0 : Int32) : Int32).toNatClampNeg]? = some (.int qi4) := Has.at H12 hin15 rfl
 have av16 := A11_
 obtain ⟨cl16, Ar16, q16, S16, N16, H16, Gf16⟩ := av16
 have hin17 : ¬ ((0 : Int32) < 0 ∨ cl16.slots.size ≤ ((0 : Int32) : Int32).toNatClampNeg) := inb_of S16 (by decide)
 obtain ⟨T17, h17, X17, e17, W17, st17⟩ := stC X9 hx hZ e9 Ar16 (j := (0 : Int32)) hin17 (g := (mkF m 82 #[rv qa1, iv qi2] [.int qi4, .int 0, .ref b9, .ref b9, .ref b5, .ref b5])) rfl rfl (hb hby d0_82)
 have O18 := X00.ext E5
 have g_b9 : n0 ≤ b9 := Nat.le_trans (Nat.le_trans (Nat.le_of_eq O18.1.symm) O18.2.1) (Nat.le_of_eq g9.symm)
 have N17_ := Fr.snoc X17 N0 g_b9
 have sz_b9 : h0.size ≤ b9 := Nat.le_trans K6.1 (Nat.le_of_eq g9.symm)
 have K19 := K10.wr W17 (Or.inr sz_b9)
 have A21_ : Arv Z h17 b9 c9 .char (3 : Int32) [.int qi4, .int 0, .int 0] (.int 0) := by have q := Arv.set (v := .int (nar .char qi4)) Ar16 q16 S16 N16 H16 Gf16 (fits_nar_char _) W17 0 (by decide) (lE rfl); rw [((own_nar_lat hl20) : nar .char qi4 = qi4)] at q; exact q
 have A23_ := A14_.other W17 (Nat.ne_of_lt (Nat.lt_of_lt_of_le (Nat.lt_of_lt_of_le A_qa1.lt E5.1) (Nat.le_of_eq g9.symm)))
 have av22 := A23_
 obtain ⟨cl22, Ar22, q22, S22, N22, H22, Gf22⟩ := av22
 have hin24 : ¬ ((1 : Int32) < 0 ∨ cl22.slots.size ≤ ((1 : Int32) : Int32).toNatClampNeg) := inb_of S22 (by decide)
 have hat24 : cl22.slots[((1 : Int32) : Int32).toNatClampNeg]? = some (.int qi5) := Has.at H22 hin24 rfl
 have av25 := A21_
 obtain ⟨cl25, Ar25, q25, S25, N25, H25, Gf25⟩ := av25
 have hin26 : ¬ ((1 : Int32) < 0 ∨ cl25.slots.size ≤ ((1 : Int32) : Int32).toNatClampNeg) := inb_of S25 (by decide)
 obtain ⟨T26, h26, X26, e26, W26, st26⟩ := stC X17 hx hZ e17 Ar25 (j := (1 : Int32)) hin26 (g := (mkF m 88 #[rv qa1, iv qi2] [.int qi5, .int 1, .ref b9, .ref b9, .ref b5, .ref b5])) rfl rfl (hb hby d0_88)
 have N26_ := Fr.snoc X26 N17_ g_b9
 have K27 := K19.wr W26 (Or.inr sz_b9)
 have A29_ : Arv Z h26 b9 c9 .char (3 : Int32) [.int qi4, .int qi5, .int 0] (.int 0) := by have q := Arv.set (v := .int (nar .char qi5)) Ar25 q25 S25 N25 H25 Gf25 (fits_nar_char _) W26 1 (by decide) (lE rfl); rw [((own_nar_lat hl28) : nar .char qi5 = qi5)] at q; exact q
 have A31_ := A23_.other W26 (Nat.ne_of_lt (Nat.lt_of_lt_of_le (Nat.lt_of_lt_of_le A_qa1.lt E5.1) (Nat.le_of_eq g9.symm)))
 have av30 := A31_
 obtain ⟨cl30, Ar30, q30, S30, N30, H30, Gf30⟩ := av30
 have hin32 : ¬ ((2 : Int32) < 0 ∨ cl30.slots.size ≤ ((2 : Int32) : Int32).toNatClampNeg) := inb_of S30 (by decide)
 have hat32 : cl30.slots[((2 : Int32) : Int32).toNatClampNeg]? = some (.int qi6) := Has.at H30 hin32 rfl
 have av33 := A29_
 obtain ⟨cl33, Ar33, q33, S33, N33, H33, Gf33⟩ := av33
 have hin34 : ¬ ((2 : Int32) < 0 ∨ cl33.slots.size ≤ ((2 : Int32) : Int32).toNatClampNeg) := inb_of S33 (by decide)
 obtain ⟨T34, h34, X34, e34, W34, st34⟩ := stC X26 hx hZ e26 Ar33 (j := (2 : Int32)) hin34 (g := (mkF m 94 #[rv qa1, iv qi2] [.int qi6, .int 2, .ref b9, .ref b9, .ref b5, .ref b5])) rfl rfl (hb hby d0_94)
 have N34_ := Fr.snoc X34 N26_ g_b9
 have K35 := K27.wr W34 (Or.inr sz_b9)
 have A37_ : Arv Z h34 b9 c9 .char (3 : Int32) [.int qi4, .int qi5, .int qi6] (.int 0) := by have q := Arv.set (v := .int (nar .char qi6)) Ar33 q33 S33 N33 H33 Gf33 (fits_nar_char _) W34 2 (by decide) (lE rfl); rw [((own_nar_lat hl36) : nar .char qi6 = qi6)] at q; exact q
 have hp39 : ∀ c ∈ ([qi4, qi5, qi6] : List Int32), ¬ c < 0 ∧ ¬ (255 : Int32) < c := (List.forall_mem_cons.mpr ⟨hl20, (List.forall_mem_cons.mpr ⟨hl28, (List.forall_mem_cons.mpr ⟨hl36, (fun _ q => nomatch q)⟩)⟩)⟩)
 have g_b5 : n0 ≤ b5 := Nat.le_trans (Nat.le_trans (Nat.le_of_eq X00.1.symm) X00.2.1) (Nat.le_of_eq g5.symm)
 have O43 := O18.ext E9
 have O44 := O43.wr W17 g_b9
 have O45 := O44.wr W26 g_b9
 have O46 := O45.wr W34 g_b9
 have E47_ := A5.ext E9
 have E48_ := E47_.wr W17
 have E49_ := E48_.wr W26
 have E50_ := E49_.wr W34
 have F51_ := F8_.ext E9
 have F52_ := F51_.other W17 (Or.inl (Nat.ne_of_lt (Nat.lt_of_lt_of_le A5.lt (Nat.le_of_eq g9.symm))))
 have F53_ := F52_.other W26 (Or.inl (Nat.ne_of_lt (Nat.lt_of_lt_of_le A5.lt (Nat.le_of_eq g9.symm))))
 have F54_ := F53_.other W34 (Or.inl (Nat.ne_of_lt (Nat.lt_of_lt_of_le A5.lt (Nat.le_of_eq g9.symm))))
 have F55_ := F7_.ext E9
 have F56_ := F55_.other W17 (Or.inl (Nat.ne_of_lt (Nat.lt_of_lt_of_le A5.lt (Nat.le_of_eq g9.symm))))
 have F57_ := F56_.other W26 (Or.inl (Nat.ne_of_lt (Nat.lt_of_lt_of_le A5.lt (Nat.le_of_eq g9.symm))))
 have F58_ := F57_.other W34 (Or.inl (Nat.ne_of_lt (Nat.lt_of_lt_of_le A5.lt (Nat.le_of_eq g9.symm))))
 obtain ⟨_, T38, L38, X38, hQ38, st38⟩ := own_cb 2 7 1 3 3 10 (X34.specialBack hx (y := Y1_) rfl hown (mvT hZ (w9_ hw)) (mvT hZ (w10_ hw)) (mvT hZ (w11_ hw)) (by decide) (StrChars.Road.backV (W := 1) hZ (own_ws hw) (kI := 4) (w7_ hw) (cs := ([qi4, qi5, qi6] : List Int32)) (bs := ([qi4, qi5, qi6] : List Int32).map (fun c => c.toInt8.toInt32)) (n := 3) g_b5 (Nat.le_trans (Nat.le_of_eq O46.1.symm) O46.2.1) E50_ F54_ F58_ A37_ (O2.ext O46.2) P5 rfl rfl (lE rfl) (lE rfl) hp39 rfl (lE rfl) (lE rfl)) (g := (mkF m 95 #[rv qa1, iv qi2] [.ref b9, .ref b5, .ref b5])) rfl hml.symm (Steps.refl _) (a := b5) (argsL := [.ref b9]) (rest := [.ref b5]) (lenOf pd1 rfl) rfl (own_hw rfl) (hb hby d0_95) (fun _ _ => ⟨rfl, e34, (lE rfl : 2 + 1 ≤ _), (lE rfl : 7 + 3 ≤ _)⟩)) rfl rfl
 obtain ⟨rfl, N38q, K38q, E38q, C38q, b59, c59_, u59, g59, ne59, V59_, A59_⟩ := hQ38
 have N38 := Fr.app N34_ N38q
 have sz_b5 : h0.size ≤ b5 := (Nat.le_of_eq g5.symm)
 have K60 := K35.trans K38q (allS (Or.inr sz_b5) all0)
 have sz_b59 : h0.size ≤ b59 := Nat.le_trans K35.1 g59
 have E61_ := E50_.keep K38q
 refine own_lvF X38 Bd (.ref b5) rfl ⟨b5, b59, c59_, rfl, N38, K60, sz_b5, sz_b59, (Ne.symm ne59), E61_, C38q, V59_, A59_⟩ rfl (fun fs hr => pre0 _ (by
  show Sx p e below s₁ m 0 #[rv qa1, iv qi2] [] _
  refine zj X0 Bd d0_0 rfl ?_
  refine zp (pc' := 15) X0 Bd d0_1 (XT.i0_ne_t (hc1 : ¬ (qi2 = (0 : Int32)))) rfl ?_
  refine zj X0 Bd d0_15 rfl ?_
  refine zc X0 Bd d0_16 ?_
  refine zy (pc' := 37) X0 Bd d0_17 (XT.ii_ne_t (hc2 : ¬ (qi2 = (1 : Int32)))) rfl ?_
  refine zj X0 Bd d0_37 rfl ?_
  refine zc X0 Bd d0_38 ?_
  refine zy (pc' := 65) X0 Bd d0_39 (XT.ii_ne_t (hc3 : ¬ (qi2 = (2 : Int32)))) rfl ?_
  refine zj X0 Bd d0_65 rfl ?_
  refine zc X0 Bd d0_66 ?_
  refine zn X0 Bd d0_67 (XT.ii_ne_f (hc4 : qi2 = (3 : Int32))) ?_
  refine st5 _ ?_
  refine XS.dup X5.here hx rfl (hb hby d0_73) rfl rfl ?_
  refine zc X5 Bd d0_74 ?_
  refine st9 _ ?_
  refine XS.dup X9.here hx rfl (hb hby d0_77) rfl rfl ?_
  refine zc X9 Bd d0_78 ?_
  refine zb X9 Bd d0_79 rfl rfl ?_
  refine zc X9 Bd d0_80 ?_
  refine X9.caload hx (j := (0 : Int32)) (v := (.int qi4)) (by rw [e9]; exact Ar12.1) (State.isArrayOf_alike hZ.alike Ar12.2.1) Ar12.2.2 hin15 hat15 (g := (mkF m 81 #[rv qa1, iv qi2] [.int 0, .ref qa1, .int 0, .ref b9, .ref b9, .ref b5, .ref b5])) rfl rfl (hb hby d0_81) _ ?_
  refine st17 _ ?_
  refine XS.dup X17.here hx rfl (hb hby d0_83) rfl rfl ?_
  refine zc X17 Bd d0_84 ?_
  refine zb X17 Bd d0_85 rfl rfl ?_
  refine zc X17 Bd d0_86 ?_
  show Sx p e below T17 m 87 #[rv qa1, iv qi2] [.int 1, .ref qa1, .int 1, .ref b9, .ref b9, .ref b5, .ref b5] _
  refine X17.caload hx (j := (1 : Int32)) (v := (.int qi5)) (by rw [e17]; exact Ar22.1) (State.isArrayOf_alike hZ.alike Ar22.2.1) Ar22.2.2 hin24 hat24 (g := (mkF m 87 #[rv qa1, iv qi2] [.int 1, .ref qa1, .int 1, .ref b9, .ref b9, .ref b5, .ref b5])) rfl rfl (hb hby d0_87) _ ?_
  refine st26 _ ?_
  refine XS.dup X26.here hx rfl (hb hby d0_89) rfl rfl ?_
  refine zc X26 Bd d0_90 ?_
  refine zb X26 Bd d0_91 rfl rfl ?_
  refine zc X26 Bd d0_92 ?_
  refine X26.caload hx (j := (2 : Int32)) (v := (.int qi6)) (by rw [e26]; exact Ar30.1) (State.isArrayOf_alike hZ.alike Ar30.2.1) Ar30.2.2 hin32 hat32 (g := (mkF m 93 #[rv qa1, iv qi2] [.int 2, .ref qa1, .int 2, .ref b9, .ref b9, .ref b5, .ref b5])) rfl rfl (hb hby d0_93) _ ?_
  refine st34 _ ?_
  refine st38.trans ?_
  exact retOut X38 hx Bd.returns rfl (Or.inr (Or.inr (Or.inr (Or.inr ⟨rfl, rfl, rfl⟩)))) (hb hby d0_98) hr))
theorem d3_10 : decode method_4_code 10 = .ok (.aload_n 0, 1) := by decide +kernel
theorem d3_11 : decode method_4_code 11 = .ok (.iconst 0, 1) := by decide +kernel
theorem d3_12 : decode method_4_code 12 = .ok (.invokevirtual 32, 3) := by decide +kernel
theorem pd7 : parseMethodDescriptor "(I)C" = some ⟨[.int], some .char⟩ := by decide +kernel
theorem d3_15 : decode method_4_code 15 = .ok (.bipush 78, 2) := by decide +kernel
theorem d3_17 : decode method_4_code 17 = .ok (.if_icmp .ne 27, 3) := by decide +kernel
theorem d3_20 : decode method_4_code 20 = .ok (.aload_n 0, 1) := by decide +kernel
theorem d3_21 : decode method_4_code 21 = .ok (.iconst 1, 1) := by decide +kernel
theorem d3_22 : decode method_4_code 22 = .ok (.invokevirtual 32, 3) := by decide +kernel
theorem d3_25 : decode method_4_code 25 = .ok (.bipush 97, 2) := by decide +kernel
theorem d3_27 : decode method_4_code 27 = .ok (.if_icmp .ne 17, 3) := by decide +kernel
theorem d3_30 : decode method_4_code 30 = .ok (.aload_n 0, 1) := by decide +kernel
theorem d3_31 : decode method_4_code 31 = .ok (.iconst 2, 1) := by decide +kernel
theorem d3_32 : decode method_4_code 32 = .ok (.invokevirtual 32, 3) := by decide +kernel
theorem d3_35 : decode method_4_code 35 = .ok (.bipush 78, 2) := by decide +kernel
theorem d3_37 : decode method_4_code 37 = .ok (.if_icmp .ne 7, 3) := by decide +kernel
theorem d3_40 : decode method_4_code 40 = .ok (.getstatic 36, 3) := by decide +kernel
theorem d3_43 : decode method_4_code 43 = .ok (.areturn, 1) := by decide +kernel
theorem d3_44 : decode method_4_code 44 = .ok (.aconst_null, 1) := by decide +kernel
theorem d3_45 : decode method_4_code 45 = .ok (.areturn, 1) := by decide +kernel
-- com/example/hearthline/hearthline/session/SpecialValueOfPinLaw.ref(Ljava/lang/String;)Lcom/example/hearthline/hearthline/session/Session$Measurement$SpecialValue;
def Q12 (Z : State) (Gg0 : Addr) (Gg2 : Addr) (Gg3 : Addr) (Gg4 : Addr) (Gg5 : Addr) (qi3 : Int32) (qi4 : Int32) (qi5 : Int32) (h0 : Heap) (n0 : Nat) (v : Option Value) (h : Heap) (L : List Loc) : Prop := v = some (own_sv Gg0 Gg2 Gg3 Gg4 Gg5 ([qi3, qi4, qi5] : List Int32)) ∧ Fr n0 L ∧ h = h0
theorem rm12 (l : Launch) (Z : State) (a0 : Array Value) (hw : HW a0 Z) (G1 : Int32) (G3 : Value) (Gg0 : Addr) (Gg1 : Addr) (Gg2 : Addr) (Gg3 : Addr) (Gg4 : Addr) (Gg5 : Addr) (Gg6 : Addr) (Gg7 : Addr) (Gg8 : Addr) (Gg9 : Addr) (Gg10 : Addr) (Gg11 : Addr) (Gg12 : Addr) (Gg13 : Addr) (Gg14 : Addr) (Gg15 : Addr) (Kg16 : ClassId) (Kg17 : ClassId) (Kg18 : ClassId) (Kg19 : ClassId) (Kg20 : ClassId) (Kg21 : ClassId) (qa1 : Addr) (qa2 : Addr) (qi3 : Int32) (qi4 : Int32) (qi5 : Int32) (qk6 : ClassId) (h0 : Heap) (n0 : Nat) (X00 : Old Z n0 h0) (O2 : Sta Z Z.heap "java/lang/String" "COMPACT_STRINGS" "Z" (.int G1)) (P5 : ¬ (G1 = (0 : Int32))) (O4 : Sta Z Z.heap "jdk/internal/util/Preconditions" "SIOOBE_FORMATTER" "Ljava/util/function/BiFunction;" G3) (rG3 : G3.isRef = true) (hEN : OwnEN Z Gg0 Gg1 Gg2 Gg3 Gg4 Gg5 Gg6 Gg7 Gg8 Gg9 Gg10 Gg11 Gg12 Gg13 Gg14 Gg15 Kg16 Kg17 Kg18 Kg19 Kg20 Kg21) (E_qa1 : Exa Z h0 qa1 "java/lang/String") (F_qa1_coder : Fld Z h0 qa1 "java/lang/String" "coder" "B" (.int 0)) (F_qa1_value : Fld Z h0 qa1 "java/lang/String" "value" "[B" (.ref qa2)) (hp_qa1 : ∀ c ∈ ([qi3, qi4, qi5] : List Int32), ¬ c < 0 ∧ ¬ (255 : Int32) < c) (A_qa2 : Arv Z h0 qa2 qk6 .byte (3 : Int32) ((([qi3, qi4, qi5] : List Int32).map (fun c => c.toInt8.toInt32)).map Value.int) (.int 0)) :
    MF l Z Y3_ method_4_code 3 (some (.object "com/example/hearthline/hearthline/session/Session$Measurement$SpecialValue")) (Rm 4 0 0 53) #[.ref qa1] h0 (Q12 Z Gg0 Gg2 Gg3 Gg4 Gg5 qi3 qi4 qi5 h0 n0) := by
 refine own_sF pn0 rfl (fun m => ef4 m qa1) ?_
 intro p e s m below meth c s₁ Bd hZ hh hx hby hml hown hnm X0 e0 pre0
 have N0 := Fr.nil n0
 have hcd2 : StrChars.Road.CodA ([qi3, qi4, qi5] : List Int32) 0 (3 : Int32) ((([qi3, qi4, qi5] : List Int32).map (fun c => c.toInt8.toInt32)).map Value.int) := StrChars.Road.codOf (n := 3) rfl (fun x hx => (hp_qa1 x hx).2)
 have hbd2 : ∀ x ∈ ([qi3, qi4, qi5] : List Int32), ¬ x < 0 ∧ ¬ (65535 : Int32) < x := own_up _ hp_qa1
 obtain ⟨cq1, kq1, q1a, q1b, q1c⟩ := isOf hZ e0 E_qa1
 obtain ⟨_, T1, L1, X1, hQ1, st1⟩ := own_cb0 0 0 0 0 0 0 (X0.virtualBack hx (y := Y4_) (z := Y4_) hown (mvT hZ (w38_ hw)) (mvT hZ (w39_ hw)) (notFace_of_selects (args := #[]) (mvT hZ (w41_ hw))) (mvT hZ (w41_ hw)) (mvT hZ (w40_ hw)) (by decide) (StrChars.Road.lenW (W := 0) hZ (own_wl hw) (kI := 4) (w7_ hw) E_qa1 F_qa1_value F_qa1_coder A_qa2 hcd2 hbd2 (O2.ext X00.2) P5 (lE rfl) (lE rfl) (lE rfl)) q1a q1c (g := (mkF m 1 #[rv qa1, .unset, .unset] [.ref qa1])) rfl hml.symm (Steps.refl _) (argsL := []) (rest := []) (lenOf pd3 rfl) rfl (own_hw rfl) (hb hby d3_1) (fun _ _ => ⟨rfl, e0, (lE rfl : 0 + 0 ≤ _), (lE rfl : 0 + 0 ≤ _)⟩)) rfl rfl
 dsimp only [Pt.U, Pt.locs, Pt.cells, Pt.slots] at hQ1
 obtain ⟨rfl, rfl, e1q⟩ := hQ1
 have N1 := Fr.app N0 (Fr.nil n0)
 obtain ⟨cq3, kq3, q3a, q3b, q3c⟩ := isOf hZ e1q E_qa1
 obtain ⟨_, T3, L3, X3, hQ3, st3⟩ := own_cb0 0 0 0 0 0 0 (X1.virtualBack hx (y := Y8_) (z := Y8_) hown (mvT hZ (w48_ hw)) (mvT hZ (w49_ hw)) (notFace_of_selects (args := #[]) (mvT hZ (w51_ hw))) (mvT hZ (w51_ hw)) (mvT hZ (w50_ hw)) (by decide) (StrChars.Road.chN (W := 0) hZ (own_wc hw) (kI := 4) (w7_ hw) E_qa1 F_qa1_value F_qa1_coder A_qa2 hcd2 hbd2 (O2.ext X00.2) P5 (O4.ext X00.2) rG3 (lE rfl) (i := 0) (lE rfl) (j := (0 : Int32)) rfl (lE rfl) (lE rfl)) q3a q3c (g := (mkF m 12 #[rv qa1, iv 3, .unset] [.int 0, .ref qa1])) rfl hml.symm (Steps.refl _) (argsL := [.int 0]) (rest := []) (lenOf pd7 rfl) rfl (own_hw rfl) (hb hby d3_12) (fun _ _ => ⟨rfl, e1q, (lE rfl : 0 + 0 ≤ _), (lE rfl : 0 + 0 ≤ _)⟩)) rfl rfl
 dsimp only [Pt.U, Pt.locs, Pt.cells, Pt.slots] at hQ3
 obtain ⟨rfl, rfl, e3q⟩ := hQ3
 have N3 := Fr.app N1 (Fr.nil n0)
 have pr4 : Pr p e below T3 m 17 #[rv qa1, iv 3, .unset] [.int 78, .int qi3] s₁ (entryFrame m #[.ref qa1] 3) := fun t k => pre0 t (by
  show Sx p e below s₁ m 0 #[rv qa1, .unset, .unset] [] _
  refine zb X0 Bd d3_0 rfl rfl ?_
  refine st1.trans ?_
  refine zt X1 Bd d3_4 (l' := #[rv qa1, iv 3, .unset]) rfl ?_
  refine zj X1 Bd d3_5 rfl ?_
  refine zc X1 Bd d3_6 ?_
  refine zn X1 Bd d3_7 (XT.ii_ne_f ((by decide) : (3 : Int32) = (3 : Int32))) ?_
  refine zb X1 Bd d3_10 rfl rfl ?_
  refine zc X1 Bd d3_11 ?_
  refine st3.trans ?_
  refine zd X3 Bd d3_15 ?_
  exact k)
 by_cases hc5 : qi3 = (78 : Int32)
 ·
  skip
  obtain ⟨cq6, kq6, q6a, q6b, q6c⟩ := isOf hZ e3q E_qa1
  obtain ⟨_, T6, L6, X6, hQ6, st6⟩ := own_cb0 0 0 0 0 0 0 (X3.virtualBack hx (y := Y8_) (z := Y8_) hown (mvT hZ (w48_ hw)) (mvT hZ (w49_ hw)) (notFace_of_selects (args := #[]) (mvT hZ (w51_ hw))) (mvT hZ (w51_ hw)) (mvT hZ (w50_ hw)) (by decide) (StrChars.Road.chN (W := 0) hZ (own_wc hw) (kI := 4) (w7_ hw) E_qa1 F_qa1_value F_qa1_coder A_qa2 hcd2 hbd2 (O2.ext X00.2) P5 (O4.ext X00.2) rG3 (lE rfl) (i := 1) (lE rfl) (j := (1 : Int32)) rfl (lE rfl) (lE rfl)) q6a q6c (g := (mkF m 22 #[rv qa1, iv 3, .unset] [.int 1, .ref qa1])) rfl hml.symm (Steps.refl _) (argsL := [.int 1]) (rest := []) (lenOf pd7 rfl) rfl (own_hw rfl) (hb hby d3_22) (fun _ _ => ⟨rfl, e3q, (lE rfl : 0 + 0 ≤ _), (lE rfl : 0 + 0 ≤ _)⟩)) rfl rfl
  dsimp only [Pt.U, Pt.locs, Pt.cells, Pt.slots] at hQ6
  obtain ⟨rfl, rfl, e6q⟩ := hQ6
  have N6 := Fr.app N3 (Fr.nil n0)
  have pr7 : Pr p e below T6 m 27 #[rv qa1, iv 3, .unset] [.int 97, .int qi4] s₁ (entryFrame m #[.ref qa1] 3) := fun t k => pr4 t (by
   show Sx p e below T3 m 17 #[rv qa1, iv 3, .unset] [.int 78, .int qi3] _
   refine zn X3 Bd d3_17 (XT.ii_ne_f (hc5 : qi3 = (78 : Int32))) ?_
   refine zb X3 Bd d3_20 rfl rfl ?_
   refine zc X3 Bd d3_21 ?_
   refine st6.trans ?_
   refine zd X6 Bd d3_25 ?_
   exact k)
  by_cases hc8 : qi4 = (97 : Int32)
  ·
   skip
   obtain ⟨cq9, kq9, q9a, q9b, q9c⟩ := isOf hZ e6q E_qa1
   obtain ⟨_, T9, L9, X9, hQ9, st9⟩ := own_cb0 0 0 0 0 0 0 (X6.virtualBack hx (y := Y8_) (z := Y8_) hown (mvT hZ (w48_ hw)) (mvT hZ (w49_ hw)) (notFace_of_selects (args := #[]) (mvT hZ (w51_ hw))) (mvT hZ (w51_ hw)) (mvT hZ (w50_ hw)) (by decide) (StrChars.Road.chN (W := 0) hZ (own_wc hw) (kI := 4) (w7_ hw) E_qa1 F_qa1_value F_qa1_coder A_qa2 hcd2 hbd2 (O2.ext X00.2) P5 (O4.ext X00.2) rG3 (lE rfl) (i := 2) (lE rfl) (j := (2 : Int32)) rfl (lE rfl) (lE rfl)) q9a q9c (g := (mkF m 32 #[rv qa1, iv 3, .unset] [.int 2, .ref qa1])) rfl hml.symm (Steps.refl _) (argsL := [.int 2]) (rest := []) (lenOf pd7 rfl) rfl (own_hw rfl) (hb hby d3_32) (fun _ _ => ⟨rfl, e6q, (lE rfl : 0 + 0 ≤ _), (lE rfl : 0 + 0 ≤ _)⟩)) rfl rfl
   dsimp only [Pt.U, Pt.locs, Pt.cells, Pt.slots] at hQ9
   obtain ⟨rfl, rfl, e9q⟩ := hQ9
   have N9 := Fr.app N6 (Fr.nil n0)
   have pr10 : Pr p e below T9 m 37 #[rv qa1, iv 3, .unset] [.int 78, .int qi5] s₁ (entryFrame m #[.ref qa1] 3) := fun t k => pr7 t (by
    show Sx p e below T6 m 27 #[rv qa1, iv 3, .unset] [.int 97, .int qi4] _
    refine zn X6 Bd d3_27 (XT.ii_ne_f (hc8 : qi4 = (97 : Int32))) ?_
    refine zb X6 Bd d3_30 rfl rfl ?_
    refine zc X6 Bd d3_31 ?_
    refine st9.trans ?_
    refine zd X9 Bd d3_35 ?_
    exact k)
   by_cases hc11 : qi5 = (78 : Int32)
   ·
    skip
    obtain ⟨T12, X12, e12, st12⟩ := getS2 X9 hx hZ hown (host := "") (Or.inl (w70_ hw)) Via.refl e9q (hEN.1.ext X00.2) (g := (mkF m 40 #[rv qa1, iv 3, .unset] [])) rfl (hb hby d3_40)
    refine own_lvF X12 Bd (.ref Gg0) e12 ⟨(by simp [own_sv, hc5, hc8, hc11]), N9, rfl⟩ rfl (fun fs hr => pr10 _ (by
     show Sx p e below T9 m 37 #[rv qa1, iv 3, .unset] [.int 78, .int qi5] _
     refine zn X9 Bd d3_37 (XT.ii_ne_f (hc11 : qi5 = (78 : Int32))) ?_
     refine st12 _ ?_
     exact retOut X12 hx Bd.returns rfl (Or.inr (Or.inr (Or.inr (Or.inr ⟨rfl, rfl, rfl⟩)))) (hb hby d3_43) hr))
   ·
    skip
    refine own_lvF X9 Bd .null e9q ⟨(by simp [own_sv, hc5, hc8, hc11]), N9, rfl⟩ rfl (fun fs hr => pr10 _ (by
     show Sx p e below T9 m 37 #[rv qa1, iv 3, .unset] [.int 78, .int qi5] _
     refine zy (pc' := 44) X9 Bd d3_37 (XT.ii_ne_t (hc11 : ¬ (qi5 = (78 : Int32)))) rfl ?_
     refine XS.aconstNull X9.here hx rfl (hb hby d3_44) ?_
     exact retOut X9 hx Bd.returns rfl (Or.inr (Or.inr (Or.inr (Or.inr ⟨rfl, rfl, rfl⟩)))) (hb hby d3_45) hr))
  ·
   skip
   refine own_lvF X6 Bd .null e6q ⟨(by simp [own_sv, hc5, hc8]), N6, rfl⟩ rfl (fun fs hr => pr7 _ (by
    show Sx p e below T6 m 27 #[rv qa1, iv 3, .unset] [.int 97, .int qi4] _
    refine zy (pc' := 44) X6 Bd d3_27 (XT.ii_ne_t (hc8 : ¬ (qi4 = (97 : Int32)))) rfl ?_
    refine XS.aconstNull X6.here hx rfl (hb hby d3_44) ?_
    exact retOut X6 hx Bd.returns rfl (Or.inr (Or.inr (Or.inr (Or.inr ⟨rfl, rfl, rfl⟩)))) (hb hby d3_45) hr))
 ·
  skip
  refine own_lvF X3 Bd .null e3q ⟨(by simp [own_sv, hc5]), N3, rfl⟩ rfl (fun fs hr => pr4 _ (by
   show Sx p e below T3 m 17 #[rv qa1, iv 3, .unset] [.int 78, .int qi3] _
   refine zy (pc' := 44) X3 Bd d3_17 (XT.ii_ne_t (hc5 : ¬ (qi3 = (78 : Int32)))) rfl ?_
   refine XS.aconstNull X3.here hx rfl (hb hby d3_44) ?_
   exact retOut X3 hx Bd.returns rfl (Or.inr (Or.inr (Or.inr (Or.inr ⟨rfl, rfl, rfl⟩)))) (hb hby d3_45) hr))
theorem d0_99 : decode method_3_code 99 = .ok (.iload_n 1, 1) := by decide +kernel
theorem d0_100 : decode method_3_code 100 = .ok (.iconst 4, 1) := by decide +kernel
theorem d0_101 : decode method_3_code 101 = .ok (.if_icmp .ne 38, 3) := by decide +kernel
theorem d0_104 : decode method_3_code 104 = .ok (.new 23, 3) := by decide +kernel
theorem d0_107 : decode method_3_code 107 = .ok (.dup, 1) := by decide +kernel
theorem d0_108 : decode method_3_code 108 = .ok (.iconst 4, 1) := by decide +kernel
theorem d0_109 : decode method_3_code 109 = .ok (.newarray .char, 2) := by decide +kernel
theorem d0_111 : decode method_3_code 111 = .ok (.dup, 1) := by decide +kernel
theorem d0_112 : decode method_3_code 112 = .ok (.iconst 0, 1) := by decide +kernel
theorem d0_113 : decode method_3_code 113 = .ok (.aload_n 0, 1) := by decide +kernel
theorem d0_114 : decode method_3_code 114 = .ok (.iconst 0, 1) := by decide +kernel
theorem d0_115 : decode method_3_code 115 = .ok (.caload, 1) := by decide +kernel
theorem d0_116 : decode method_3_code 116 = .ok (.castore, 1) := by decide +kernel
theorem d0_117 : decode method_3_code 117 = .ok (.dup, 1) := by decide +kernel
theorem d0_118 : decode method_3_code 118 = .ok (.iconst 1, 1) := by decide +kernel
theorem d0_119 : decode method_3_code 119 = .ok (.aload_n 0, 1) := by decide +kernel
theorem d0_120 : decode method_3_code 120 = .ok (.iconst 1, 1) := by decide +kernel
theorem d0_121 : decode method_3_code 121 = .ok (.caload, 1) := by decide +kernel
theorem d0_122 : decode method_3_code 122 = .ok (.castore, 1) := by decide +kernel
theorem d0_123 : decode method_3_code 123 = .ok (.dup, 1) := by decide +kernel
theorem d0_124 : decode method_3_code 124 = .ok (.iconst 2, 1) := by decide +kernel
theorem d0_125 : decode method_3_code 125 = .ok (.aload_n 0, 1) := by decide +kernel
theorem d0_126 : decode method_3_code 126 = .ok (.iconst 2, 1) := by decide +kernel
theorem d0_127 : decode method_3_code 127 = .ok (.caload, 1) := by decide +kernel
theorem d0_128 : decode method_3_code 128 = .ok (.castore, 1) := by decide +kernel
theorem d0_129 : decode method_3_code 129 = .ok (.dup, 1) := by decide +kernel
theorem d0_130 : decode method_3_code 130 = .ok (.iconst 3, 1) := by decide +kernel
theorem d0_131 : decode method_3_code 131 = .ok (.aload_n 0, 1) := by decide +kernel
theorem d0_132 : decode method_3_code 132 = .ok (.iconst 3, 1) := by decide +kernel
theorem d0_133 : decode method_3_code 133 = .ok (.caload, 1) := by decide +kernel
theorem d0_134 : decode method_3_code 134 = .ok (.castore, 1) := by decide +kernel
theorem d0_135 : decode method_3_code 135 = .ok (.invokespecial 25, 3) := by decide +kernel
theorem d0_138 : decode method_3_code 138 = .ok (.areturn, 1) := by decide +kernel
-- com/example/hearthline/hearthline/session/SpecialValueOfPinLaw.str([CI)Ljava/lang/String;
def Q13 (Z : State) (qi4 : Int32) (qi5 : Int32) (qi6 : Int32) (qi7 : Int32) (h0 : Heap) (n0 : Nat) (v : Option Value) (h : Heap) (L : List Loc) : Prop := ∃ b6 : Addr, ∃ b73 : Addr, ∃ c73_ : ClassId, v = some (.ref b6) ∧ Fr n0 L ∧ Keep h0 h [] ∧ h0.size ≤ b6 ∧ h0.size ≤ b73 ∧ b6 ≠ b73 ∧ Exa Z h b6 "java/lang/String" ∧ Fld Z h b6 "java/lang/String" "coder" "B" (.int 0) ∧ Fld Z h b6 "java/lang/String" "value" "[B" (.ref b73) ∧ Arv Z h b73 c73_ .byte (4 : Int32) ((([qi4, qi5, qi6, qi7] : List Int32).map (fun c => c.toInt8.toInt32)).map Value.int) (.int 0)
theorem rm13 (l : Launch) (Z : State) (a0 : Array Value) (hw : HW a0 Z) (G1 : Int32) (qa1 : Addr) (qi2 : Int32) (qk3 : ClassId) (qi4 : Int32) (qi5 : Int32) (qi6 : Int32) (qi7 : Int32) (qi8 : Int32) (qi9 : Int32) (qi10 : Int32) (qi11 : Int32) (h0 : Heap) (n0 : Nat) (X00 : Old Z n0 h0) (O2 : Sta Z Z.heap "java/lang/String" "COMPACT_STRINGS" "Z" (.int G1)) (P5 : ¬ (G1 = (0 : Int32))) (hc1 : ¬ (qi2 = (0 : Int32))) (hc2 : ¬ (qi2 = (1 : Int32))) (hc3 : ¬ (qi2 = (2 : Int32))) (hc4 : ¬ (qi2 = (3 : Int32))) (hc5 : qi2 = (4 : Int32)) (A_qa1 : Arv Z h0 qa1 qk3 .char (8 : Int32) [.int qi4, .int qi5, .int qi6, .int qi7, .int qi8, .int qi9, .int qi10, .int qi11] (.int 0)) (hl21 : ¬ qi4 < 0 ∧ ¬ (255 : Int32) < qi4) (hl29 : ¬ qi5 < 0 ∧ ¬ (255 : Int32) < qi5) (hl37 : ¬ qi6 < 0 ∧ ¬ (255 : Int32) < qi6) (hl45 : ¬ qi7 < 0 ∧ ¬ (255 : Int32) < qi7) :
    MF l Z Y2_ method_3_code 2 (some (.object "java/lang/String")) (Rm 4 3 12 66) #[.ref qa1, .int qi2] h0 (Q13 Z qi4 qi5 qi6 qi7 h0 n0) := by
 refine own_sF pn0 rfl (fun m => ef1 m qa1 qi2) ?_
 intro p e s m below meth c s₁ Bd hZ hh hx hby hml hown hnm X0 e0 pre0
 have N0 := Fr.nil n0
 obtain ⟨T6, h6, X6, e6, E6, A6, D6, -, st6⟩ := newO X0 hx hZ hown (w6_ hw) (w7_ hw) (w8_ hw) e0 (g := (mkF m 104 #[rv qa1, iv qi2] [])) rfl (hb hby d0_104) (lE rfl) (lE rfl)
 obtain ⟨b6, g6⟩ : ∃ z, z = h0.size := ⟨_, rfl⟩
 rw [← g6] at A6 D6 st6
 replace X6 : Stand p l e (Rm 4 3 12 66) s m #[.ref qa1, .int qi2] below meth c T6 _ 1 4 := X6
 have K7 := (Keep.refl h0 []).ext E6
 have F8_ : Fld Z h6 b6 "java/lang/String" "coder" "B" (.int 0) := D6 (Or.inr (w32_ hw)) (ty := .byte) (by decide)
 have F9_ : Fld Z h6 b6 "java/lang/String" "value" "[B" .null := D6 (Or.inr (w34_ hw)) (ty := (.array .byte)) (by decide)
 obtain ⟨T10, h10, c10, X10, e10, E10, A10, st10⟩ := newP (aty := .char) X6 hx hZ (w1_ hw) e6 (g := (mkF m 109 #[rv qa1, iv qi2] [.int 4, .ref b6, .ref b6])) rfl (hb hby d0_109) rfl (by decide) (cap := 4) (by decide) (lE rfl) (lE rfl) (lE rfl)
 obtain ⟨b10, g10⟩ : ∃ z, z = h6.size := ⟨_, rfl⟩
 rw [← g10] at A10 st10
 replace X10 : Stand p l e (Rm 4 3 12 66) s m #[.ref qa1, .int qi2] below meth c T10 _ 2 8 := X10
 have K11 := K7.ext E10
 have A12_ : Arv Z h10 b10 c10 .char (4 : Int32) [.int 0, .int 0, .int 0, .int 0] (.int 0) := (Arv.new A10 (by decide)).pad (pad_rep [] (.int 0) 4)
 have A14_ := A_qa1.ext E6
 have A15_ := A14_.ext E10
 have av13 := A15_
 obtain ⟨cl13, Ar13, q13, S13, N13, H13, Gf13⟩ := av13
 have hin16 : ¬ ((0 : Int32) < 0 ∨ cl13.slots.size ≤ ((0 : Int32) : Int32).toNatClampNeg) := inb_of S13 (by decide)
 have hat16 : cl13.slots[((0 : Int32) : Int32).toNatClampNeg]? = some (.int qi4) := Has.at H13 hin16 rfl
 have av17 := A12_
 obtain ⟨cl17, Ar17, q17, S17, N17, H17, Gf17⟩ := av17
 have hin18 : ¬ ((0 : Int32) < 0 ∨ cl17.slots.size ≤ ((0 : Int32) : Int32).toNatClampNeg) := inb_of S17 (by decide)
 obtain ⟨T18, h18, X18, e18, W18, st18⟩ := stC X10 hx hZ e10 Ar17 (j := (0 : Int32)) hin18 (g := (mkF m 116 #[rv qa1, iv qi2] [.int qi4, .int 0, .ref b10, .ref b10, .ref b6, .ref b6])) rfl rfl (hb hby d0_116)
 have O19 := X00.ext E6
 have g_b10 : n0 ≤ b10 := Nat.le_trans (Nat.le_trans (Nat.le_of_eq O19.1.symm) O19.2.1) (Nat.le_of_eq g10.symm)
 have N18_ := Fr.snoc X18 N0 g_b10
 have sz_b10 : h0.size ≤ b10 := Nat.le_trans K7.1 (Nat.le_of_eq g10.symm)
 have K20 := K11.wr W18 (Or.inr sz_b10)
 have A22_ : Arv Z h18 b10 c10 .char (4 : Int32) [.int qi4, .int 0, .int 0, .int 0] (.int 0) := by have q := Arv.set (v := .int (nar .char qi4)) Ar17 q17 S17 N17 H17 Gf17 (fits_nar_char _) W18 0 (by decide) (lE rfl); rw [((own_nar_lat hl21) : nar .char qi4 = qi4)] at q; exact q
 have A24_ := A15_.other W18 (Nat.ne_of_lt (Nat.lt_of_lt_of_le (Nat.lt_of_lt_of_le A_qa1.lt E6.1) (Nat.le_of_eq g10.symm)))
 have av23 := A24_
 obtain ⟨cl23, Ar23, q23, S23, N23, H23, Gf23⟩ := av23
 have hin25 : ¬ ((1 : Int32) < 0 ∨ cl23.slots.size ≤ ((1 : Int32) : Int32).toNatClampNeg) := inb_of S23 (by decide)
 have hat25 : cl23.slots[((1 : Int32) : Int32).toNatClampNeg]? = some (.int qi5) := Has.at H23 hin25 rfl
 have av26 := A22_
 obtain ⟨cl26, Ar26, q26, S26, N26, H26, Gf26⟩ := av26
 have hin27 : ¬ ((1 : Int32) < 0 ∨ cl26.slots.size ≤ ((1 : Int32) : Int32).toNatClampNeg) := inb_of S26 (by decide)
 obtain ⟨T27, h27, X27, e27, W27, st27⟩ := stC X18 hx hZ e18 Ar26 (j := (1 : Int32)) hin27 (g := (mkF m 122 #[rv qa1, iv qi2] [.int qi5, .int 1, .ref b10, .ref b10, .ref b6, .ref b6])) rfl rfl (hb hby d0_122)
 have N27_ := Fr.snoc X27 N18_ g_b10
 have K28 := K20.wr W27 (Or.inr sz_b10)
 have A30_ : Arv Z h27 b10 c10 .char (4 : Int32) [.int qi4, .int qi5, .int 0, .int 0] (.int 0) := by have q := Arv.set (v := .int (nar .char qi5)) Ar26 q26 S26 N26 H26 Gf26 (fits_nar_char _) W27 1 (by decide) (lE rfl); rw [((own_nar_lat hl29) : nar .char qi5 = qi5)] at q; exact q
 have A32_ := A24_.other W27 (Nat.ne_of_lt (Nat.lt_of_lt_of_le (Nat.lt_of_lt_of_le A_qa1.lt E6.1) (Nat.le_of_eq g10.symm)))
 have av31 := A32_
 obtain ⟨cl31, Ar31, q31, S31, N31, H31, Gf31⟩ := av31
 have hin33 : ¬ ((2 : Int32) < 0 ∨ cl31.slots.size ≤ ((2 : Int32) : Int32).toNatClampNeg) := inb_of S31 (by decide)
 have hat33 : cl31.slots[((2 : Int32) : Int32).toNatClampNeg]? = some (.int qi6) := Has.at H31 hin33 rfl
 have av34 := A30_
 obtain ⟨cl34, Ar34, q34, S34, N34, H34, Gf34⟩ := av34
 have hin35 : ¬ ((2 : Int32) < 0 ∨ cl34.slots.size ≤ ((2 : Int32) : Int32).toNatClampNeg) := inb_of S34 (by decide)
 obtain ⟨T35, h35, X35, e35, W35, st35⟩ := stC X27 hx hZ e27 Ar34 (j := (2 : Int32)) hin35 (g := (mkF m 128 #[rv qa1, iv qi2] [.int qi6, .int 2, .ref b10, .ref b10, .ref b6, .ref b6])) rfl rfl (hb hby d0_128)
 have N35_ := Fr.snoc X35 N27_ g_b10
 have K36 := K28.wr W35 (Or.inr sz_b10)
 have A38_ : Arv Z h35 b10 c10 .char (4 : Int32) [.int qi4, .int qi5, .int qi6, .int 0] (.int 0) := by have q := Arv.set (v := .int (nar .char qi6)) Ar34 q34 S34 N34 H34 Gf34 (fits_nar_char _) W35 2 (by decide) (lE rfl); rw [((own_nar_lat hl37) : nar .char qi6 = qi6)] at q; exact q
 have A40_ := A32_.other W35 (Nat.ne_of_lt (Nat.lt_of_lt_of_le (Nat.lt_of_lt_of_le A_qa1.lt E6.1) (Nat.le_of_eq g10.symm)))
 have av39 := A40_
 obtain ⟨cl39, Ar39, q39, S39, N39, H39, Gf39⟩ := av39
 have hin41 : ¬ ((3 : Int32) < 0 ∨ cl39.slots.size ≤ ((3 : Int32) : Int32).toNatClampNeg) := inb_of S39 (by decide)
 have hat41 : cl39.slots[((3 : Int32) : Int32).toNatClampNeg]? = some (.int qi7) := Has.at H39 hin41 rfl
 have av42 := A38_
 obtain ⟨cl42, Ar42, q42, S42, N42, H42, Gf42⟩ := av42
 have hin43 : ¬ ((3 : Int32) < 0 ∨ cl42.slots.size ≤ ((3 : Int32) : Int32).toNatClampNeg) := inb_of S42 (by decide)
 obtain ⟨T43, h43, X43, e43, W43, st43⟩ := stC X35 hx hZ e35 Ar42 (j := (3 : Int32)) hin43 (g := (mkF m 134 #[rv qa1, iv qi2] [.int qi7, .int 3, .ref b10, .ref b10, .ref b6, .ref b6])) rfl rfl (hb hby d0_134)
 have N43_ := Fr.snoc X43 N35_ g_b10
 have K44 := K36.wr W43 (Or.inr sz_b10)
 have A46_ : Arv Z h43 b10 c10 .char (4 : Int32) [.int qi4, .int qi5, .int qi6, .int qi7] (.int 0) := by have q := Arv.set (v := .int (nar .char qi7)) Ar42 q42 S42 N42 H42 Gf42 (fits_nar_char _) W43 3 (by decide) (lE rfl); rw [((own_nar_lat hl45) : nar .char qi7 = qi7)] at q; exact q
 have hp48 : ∀ c ∈ ([qi4, qi5, qi6, qi7] : List Int32), ¬ c < 0 ∧ ¬ (255 : Int32) < c := (List.forall_mem_cons.mpr ⟨hl21, (List.forall_mem_cons.mpr ⟨hl29, (List.forall_mem_cons.mpr ⟨hl37, (List.forall_mem_cons.mpr ⟨hl45, (fun _ q => nomatch q)⟩)⟩)⟩)⟩)
 have g_b6 : n0 ≤ b6 := Nat.le_trans (Nat.le_trans (Nat.le_of_eq X00.1.symm) X00.2.1) (Nat.le_of_eq g6.symm)
 have O53 := O19.ext E10
 have O54 := O53.wr W18 g_b10
 have O55 := O54.wr W27 g_b10
 have O56 := O55.wr W35 g_b10
 have O57 := O56.wr W43 g_b10
 have E58_ := A6.ext E10
 have E59_ := E58_.wr W18
 have E60_ := E59_.wr W27
 have E61_ := E60_.wr W35
 have E62_ := E61_.wr W43
 have F63_ := F9_.ext E10
 have F64_ := F63_.other W18 (Or.inl (Nat.ne_of_lt (Nat.lt_of_lt_of_le A6.lt (Nat.le_of_eq g10.symm))))
 have F65_ := F64_.other W27 (Or.inl (Nat.ne_of_lt (Nat.lt_of_lt_of_le A6.lt (Nat.le_of_eq g10.symm))))
 have F66_ := F65_.other W35 (Or.inl (Nat.ne_of_lt (Nat.lt_of_lt_of_le A6.lt (Nat.le_of_eq g10.symm))))
 have F67_ := F66_.other W43 (Or.inl (Nat.ne_of_lt (Nat.lt_of_lt_of_le A6.lt (Nat.le_of_eq g10.symm))))
 have F68_ := F8_.ext E10
 have F69_ := F68_.other W18 (Or.inl (Nat.ne_of_lt (Nat.lt_of_lt_of_le A6.lt (Nat.le_of_eq g10.symm))))
 have F70_ := F69_.other W27 (Or.inl (Nat.ne_of_lt (Nat.lt_of_lt_of_le A6.lt (Nat.le_of_eq g10.symm))))
 have F71_ := F70_.other W35 (Or.inl (Nat.ne_of_lt (Nat.lt_of_lt_of_le A6.lt (Nat.le_of_eq g10.symm))))
 have F72_ := F71_.other W43 (Or.inl (Nat.ne_of_lt (Nat.lt_of_lt_of_le A6.lt (Nat.le_of_eq g10.symm))))
 obtain ⟨_, T47, L47, X47, hQ47, st47⟩ := own_cb 2 8 1 4 3 12 (X43.specialBack hx (y := Y1_) rfl hown (mvT hZ (w9_ hw)) (mvT hZ (w10_ hw)) (mvT hZ (w11_ hw)) (by decide) (StrChars.Road.backV (W := 1) hZ (own_ws hw) (kI := 4) (w7_ hw) (cs := ([qi4, qi5, qi6, qi7] : List Int32)) (bs := ([qi4, qi5, qi6, qi7] : List Int32).map (fun c => c.toInt8.toInt32)) (n := 4) g_b6 (Nat.le_trans (Nat.le_of_eq O57.1.symm) O57.2.1) E62_ F67_ F72_ A46_ (O2.ext O57.2) P5 rfl rfl (lE rfl) (lE rfl) hp48 rfl (lE rfl) (lE rfl)) (g := (mkF m 135 #[rv qa1, iv qi2] [.ref b10, .ref b6, .ref b6])) rfl hml.symm (Steps.refl _) (a := b6) (argsL := [.ref b10]) (rest := [.ref b6]) (lenOf pd1 rfl) rfl (own_hw rfl) (hb hby d0_135) (fun _ _ => ⟨rfl, e43, (lE rfl : 2 + 1 ≤ _), (lE rfl : 8 + 4 ≤ _)⟩)) rfl rfl
 obtain ⟨rfl, N47q, K47q, E47q, C47q, b73, c73_, u73, g73, ne73, V73_, A73_⟩ := hQ47
 have N47 := Fr.app N43_ N47q
 have sz_b6 : h0.size ≤ b6 := (Nat.le_of_eq g6.symm)
 have K74 := K44.trans K47q (allS (Or.inr sz_b6) all0)
 have sz_b73 : h0.size ≤ b73 := Nat.le_trans K44.1 g73
 have E75_ := E62_.keep K47q
 refine own_lvF X47 Bd (.ref b6) rfl ⟨b6, b73, c73_, rfl, N47, K74, sz_b6, sz_b73, (Ne.symm ne73), E75_, C47q, V73_, A73_⟩ rfl (fun fs hr => pre0 _ (by
  show Sx p e below s₁ m 0 #[rv qa1, iv qi2] [] _
  refine zj X0 Bd d0_0 rfl ?_
  refine zp (pc' := 15) X0 Bd d0_1 (XT.i0_ne_t (hc1 : ¬ (qi2 = (0 : Int32)))) rfl ?_
  refine zj X0 Bd d0_15 rfl ?_
  refine zc X0 Bd d0_16 ?_
  refine zy (pc' := 37) X0 Bd d0_17 (XT.ii_ne_t (hc2 : ¬ (qi2 = (1 : Int32)))) rfl ?_
  refine zj X0 Bd d0_37 rfl ?_
  refine zc X0 Bd d0_38 ?_
  refine zy (pc' := 65) X0 Bd d0_39 (XT.ii_ne_t (hc3 : ¬ (qi2 = (2 : Int32)))) rfl ?_
  refine zj X0 Bd d0_65 rfl ?_
  refine zc X0 Bd d0_66 ?_
  refine zy (pc' := 99) X0 Bd d0_67 (XT.ii_ne_t (hc4 : ¬ (qi2 = (3 : Int32)))) rfl ?_
  refine zj X0 Bd d0_99 rfl ?_
  refine zc X0 Bd d0_100 ?_
  refine zn X0 Bd d0_101 (XT.ii_ne_f (hc5 : qi2 = (4 : Int32))) ?_
  refine st6 _ ?_
  refine XS.dup X6.here hx rfl (hb hby d0_107) rfl rfl ?_
  refine zc X6 Bd d0_108 ?_
  refine st10 _ ?_
  refine XS.dup X10.here hx rfl (hb hby d0_111) rfl rfl ?_
  refine zc X10 Bd d0_112 ?_
  refine zb X10 Bd d0_113 rfl rfl ?_
  refine zc X10 Bd d0_114 ?_
  refine X10.caload hx (j := (0 : Int32)) (v := (.int qi4)) (by rw [e10]; exact Ar13.1) (State.isArrayOf_alike hZ.alike Ar13.2.1) Ar13.2.2 hin16 hat16 (g := (mkF m 115 #[rv qa1, iv qi2] [.int 0, .ref qa1, .int 0, .ref b10, .ref b10, .ref b6, .ref b6])) rfl rfl (hb hby d0_115) _ ?_
  refine st18 _ ?_
  refine XS.dup X18.here hx rfl (hb hby d0_117) rfl rfl ?_
  show Sx p e below T18 m 118 #[rv qa1, iv qi2] [.ref b10, .ref b10, .ref b6, .ref b6] _
  refine zc X18 Bd d0_118 ?_
  refine zb X18 Bd d0_119 rfl rfl ?_
  refine zc X18 Bd d0_120 ?_
  refine X18.caload hx (j := (1 : Int32)) (v := (.int qi5)) (by rw [e18]; exact Ar23.1) (State.isArrayOf_alike hZ.alike Ar23.2.1) Ar23.2.2 hin25 hat25 (g := (mkF m 121 #[rv qa1, iv qi2] [.int 1, .ref qa1, .int 1, .ref b10, .ref b10, .ref b6, .ref b6])) rfl rfl (hb hby d0_121) _ ?_
  refine st27 _ ?_
  refine XS.dup X27.here hx rfl (hb hby d0_123) rfl rfl ?_
  refine zc X27 Bd d0_124 ?_
  refine zb X27 Bd d0_125 rfl rfl ?_
  refine zc X27 Bd d0_126 ?_
  refine X27.caload hx (j := (2 : Int32)) (v := (.int qi6)) (by rw [e27]; exact Ar31.1) (State.isArrayOf_alike hZ.alike Ar31.2.1) Ar31.2.2 hin33 hat33 (g := (mkF m 127 #[rv qa1, iv qi2] [.int 2, .ref qa1, .int 2, .ref b10, .ref b10, .ref b6, .ref b6])) rfl rfl (hb hby d0_127) _ ?_
  refine st35 _ ?_
  refine XS.dup X35.here hx rfl (hb hby d0_129) rfl rfl ?_
  refine zc X35 Bd d0_130 ?_
  refine zb X35 Bd d0_131 rfl rfl ?_
  refine zc X35 Bd d0_132 ?_
  refine X35.caload hx (j := (3 : Int32)) (v := (.int qi7)) (by rw [e35]; exact Ar39.1) (State.isArrayOf_alike hZ.alike Ar39.2.1) Ar39.2.2 hin41 hat41 (g := (mkF m 133 #[rv qa1, iv qi2] [.int 3, .ref qa1, .int 3, .ref b10, .ref b10, .ref b6, .ref b6])) rfl rfl (hb hby d0_133) _ ?_
  refine st43 _ ?_
  refine st47.trans ?_
  exact retOut X47 hx Bd.returns rfl (Or.inr (Or.inr (Or.inr (Or.inr ⟨rfl, rfl, rfl⟩)))) (hb hby d0_138) hr))
theorem d3_51 : decode method_4_code 51 = .ok (.aload_n 0, 1) := by decide +kernel
theorem d3_52 : decode method_4_code 52 = .ok (.iconst 0, 1) := by decide +kernel
theorem d3_53 : decode method_4_code 53 = .ok (.invokevirtual 32, 3) := by decide +kernel
theorem d3_56 : decode method_4_code 56 = .ok (.istore_n 2, 1) := by decide +kernel
theorem d3_57 : decode method_4_code 57 = .ok (.aload_n 0, 1) := by decide +kernel
theorem d3_58 : decode method_4_code 58 = .ok (.iconst 1, 1) := by decide +kernel
theorem d3_59 : decode method_4_code 59 = .ok (.invokevirtual 32, 3) := by decide +kernel
theorem d3_62 : decode method_4_code 62 = .ok (.bipush 73, 2) := by decide +kernel
theorem d3_64 : decode method_4_code 64 = .ok (.if_icmp .ne 45, 3) := by decide +kernel
theorem d3_67 : decode method_4_code 67 = .ok (.aload_n 0, 1) := by decide +kernel
theorem d3_68 : decode method_4_code 68 = .ok (.iconst 2, 1) := by decide +kernel
theorem d3_69 : decode method_4_code 69 = .ok (.invokevirtual 32, 3) := by decide +kernel
theorem d3_72 : decode method_4_code 72 = .ok (.bipush 78, 2) := by decide +kernel
theorem d3_74 : decode method_4_code 74 = .ok (.if_icmp .ne 35, 3) := by decide +kernel
theorem d3_77 : decode method_4_code 77 = .ok (.aload_n 0, 1) := by decide +kernel
theorem d3_78 : decode method_4_code 78 = .ok (.iconst 3, 1) := by decide +kernel
theorem d3_79 : decode method_4_code 79 = .ok (.invokevirtual 32, 3) := by decide +kernel
theorem d3_82 : decode method_4_code 82 = .ok (.bipush 70, 2) := by decide +kernel
theorem d3_84 : decode method_4_code 84 = .ok (.if_icmp .ne 25, 3) := by decide +kernel
theorem d3_87 : decode method_4_code 87 = .ok (.iload_n 2, 1) := by decide +kernel
theorem d3_88 : decode method_4_code 88 = .ok (.bipush 43, 2) := by decide +kernel
theorem d3_90 : decode method_4_code 90 = .ok (.if_icmp .ne 7, 3) := by decide +kernel
theorem d3_93 : decode method_4_code 93 = .ok (.getstatic 40, 3) := by decide +kernel
theorem d3_96 : decode method_4_code 96 = .ok (.areturn, 1) := by decide +kernel
theorem d3_97 : decode method_4_code 97 = .ok (.iload_n 2, 1) := by decide +kernel
theorem d3_98 : decode method_4_code 98 = .ok (.bipush 45, 2) := by decide +kernel
theorem d3_100 : decode method_4_code 100 = .ok (.if_icmp .ne 7, 3) := by decide +kernel
theorem d3_103 : decode method_4_code 103 = .ok (.getstatic 43, 3) := by decide +kernel
theorem d3_106 : decode method_4_code 106 = .ok (.areturn, 1) := by decide +kernel
theorem d3_107 : decode method_4_code 107 = .ok (.aconst_null, 1) := by decide +kernel
theorem d3_108 : decode method_4_code 108 = .ok (.areturn, 1) := by decide +kernel
theorem d3_109 : decode method_4_code 109 = .ok (.iload_n 2, 1) := by decide +kernel
theorem d3_110 : decode method_4_code 110 = .ok (.bipush 78, 2) := by decide +kernel
theorem d3_112 : decode method_4_code 112 = .ok (.if_icmp .ne 37, 3) := by decide +kernel
theorem d3_115 : decode method_4_code 115 = .ok (.aload_n 0, 1) := by decide +kernel
theorem d3_116 : decode method_4_code 116 = .ok (.iconst 1, 1) := by decide +kernel
theorem d3_117 : decode method_4_code 117 = .ok (.invokevirtual 32, 3) := by decide +kernel
theorem d3_120 : decode method_4_code 120 = .ok (.bipush 82, 2) := by decide +kernel
theorem d3_122 : decode method_4_code 122 = .ok (.if_icmp .ne 27, 3) := by decide +kernel
theorem d3_149 : decode method_4_code 149 = .ok (.aconst_null, 1) := by decide +kernel
theorem d3_150 : decode method_4_code 150 = .ok (.areturn, 1) := by decide +kernel
theorem d3_125 : decode method_4_code 125 = .ok (.aload_n 0, 1) := by decide +kernel
theorem d3_126 : decode method_4_code 126 = .ok (.iconst 2, 1) := by decide +kernel
theorem d3_127 : decode method_4_code 127 = .ok (.invokevirtual 32, 3) := by decide +kernel
theorem d3_130 : decode method_4_code 130 = .ok (.bipush 101, 2) := by decide +kernel
theorem d3_132 : decode method_4_code 132 = .ok (.if_icmp .ne 17, 3) := by decide +kernel
theorem d3_135 : decode method_4_code 135 = .ok (.aload_n 0, 1) := by decide +kernel
theorem d3_136 : decode method_4_code 136 = .ok (.iconst 3, 1) := by decide +kernel
theorem d3_137 : decode method_4_code 137 = .ok (.invokevirtual 32, 3) := by decide +kernel
theorem d3_140 : decode method_4_code 140 = .ok (.bipush 115, 2) := by decide +kernel
theorem d3_142 : decode method_4_code 142 = .ok (.if_icmp .ne 7, 3) := by decide +kernel
theorem d3_145 : decode method_4_code 145 = .ok (.getstatic 46, 3) := by decide +kernel
theorem d3_148 : decode method_4_code 148 = .ok (.areturn, 1) := by decide +kernel
-- com/example/hearthline/hearthline/session/SpecialValueOfPinLaw.ref(Ljava/lang/String;)Lcom/example/hearthline/hearthline/session/Session$Measurement$SpecialValue;
def Q14 (Z : State) (Gg0 : Addr) (Gg2 : Addr) (Gg3 : Addr) (Gg4 : Addr) (Gg5 : Addr) (qi3 : Int32) (qi4 : Int32) (qi5 : Int32) (qi6 : Int32) (h0 : Heap) (n0 : Nat) (v : Option Value) (h : Heap) (L : List Loc) : Prop := v = some (own_sv Gg0 Gg2 Gg3 Gg4 Gg5 ([qi3, qi4, qi5, qi6] : List Int32)) ∧ Fr n0 L ∧ h = h0
theorem rm14 (l : Launch) (Z : State) (a0 : Array Value) (hw : HW a0 Z) (G1 : Int32) (G3 : Value) (Gg0 : Addr) (Gg1 : Addr) (Gg2 : Addr) (Gg3 : Addr) (Gg4 : Addr) (Gg5 : Addr) (Gg6 : Addr) (Gg7 : Addr) (Gg8 : Addr) (Gg9 : Addr) (Gg10 : Addr) (Gg11 : Addr) (Gg12 : Addr) (Gg13 : Addr) (Gg14 : Addr) (Gg15 : Addr) (Kg16 : ClassId) (Kg17 : ClassId) (Kg18 : ClassId) (Kg19 : ClassId) (Kg20 : ClassId) (Kg21 : ClassId) (qa1 : Addr) (qa2 : Addr) (qi3 : Int32) (qi4 : Int32) (qi5 : Int32) (qi6 : Int32) (qk7 : ClassId) (h0 : Heap) (n0 : Nat) (X00 : Old Z n0 h0) (O2 : Sta Z Z.heap "java/lang/String" "COMPACT_STRINGS" "Z" (.int G1)) (P5 : ¬ (G1 = (0 : Int32))) (O4 : Sta Z Z.heap "jdk/internal/util/Preconditions" "SIOOBE_FORMATTER" "Ljava/util/function/BiFunction;" G3) (rG3 : G3.isRef = true) (hEN : OwnEN Z Gg0 Gg1 Gg2 Gg3 Gg4 Gg5 Gg6 Gg7 Gg8 Gg9 Gg10 Gg11 Gg12 Gg13 Gg14 Gg15 Kg16 Kg17 Kg18 Kg19 Kg20 Kg21) (E_qa1 : Exa Z h0 qa1 "java/lang/String") (F_qa1_coder : Fld Z h0 qa1 "java/lang/String" "coder" "B" (.int 0)) (F_qa1_value : Fld Z h0 qa1 "java/lang/String" "value" "[B" (.ref qa2)) (hp_qa1 : ∀ c ∈ ([qi3, qi4, qi5, qi6] : List Int32), ¬ c < 0 ∧ ¬ (255 : Int32) < c) (A_qa2 : Arv Z h0 qa2 qk7 .byte (4 : Int32) ((([qi3, qi4, qi5, qi6] : List Int32).map (fun c => c.toInt8.toInt32)).map Value.int) (.int 0)) :
    MF l Z Y3_ method_4_code 3 (some (.object "com/example/hearthline/hearthline/session/Session$Measurement$SpecialValue")) (Rm 4 0 0 53) #[.ref qa1] h0 (Q14 Z Gg0 Gg2 Gg3 Gg4 Gg5 qi3 qi4 qi5 qi6 h0 n0) := by
 refine own_sF pn0 rfl (fun m => ef4 m qa1) ?_
 intro p e s m below meth c s₁ Bd hZ hh hx hby hml hown hnm X0 e0 pre0
 have N0 := Fr.nil n0
 have hcd2 : StrChars.Road.CodA ([qi3, qi4, qi5, qi6] : List Int32) 0 (4 : Int32) ((([qi3, qi4, qi5, qi6] : List Int32).map (fun c => c.toInt8.toInt32)).map Value.int) := StrChars.Road.codOf (n := 4) rfl (fun x hx => (hp_qa1 x hx).2)
 have hbd2 : ∀ x ∈ ([qi3, qi4, qi5, qi6] : List Int32), ¬ x < 0 ∧ ¬ (65535 : Int32) < x := own_up _ hp_qa1
 obtain ⟨cq1, kq1, q1a, q1b, q1c⟩ := isOf hZ e0 E_qa1
 obtain ⟨_, T1, L1, X1, hQ1, st1⟩ := own_cb0 0 0 0 0 0 0 (X0.virtualBack hx (y := Y4_) (z := Y4_) hown (mvT hZ (w38_ hw)) (mvT hZ (w39_ hw)) (notFace_of_selects (args := #[]) (mvT hZ (w41_ hw))) (mvT hZ (w41_ hw)) (mvT hZ (w40_ hw)) (by decide) (StrChars.Road.lenW (W := 0) hZ (own_wl hw) (kI := 4) (w7_ hw) E_qa1 F_qa1_value F_qa1_coder A_qa2 hcd2 hbd2 (O2.ext X00.2) P5 (lE rfl) (lE rfl) (lE rfl)) q1a q1c (g := (mkF m 1 #[rv qa1, .unset, .unset] [.ref qa1])) rfl hml.symm (Steps.refl _) (argsL := []) (rest := []) (lenOf pd3 rfl) rfl (own_hw rfl) (hb hby d3_1) (fun _ _ => ⟨rfl, e0, (lE rfl : 0 + 0 ≤ _), (lE rfl : 0 + 0 ≤ _)⟩)) rfl rfl
 dsimp only [Pt.U, Pt.locs, Pt.cells, Pt.slots] at hQ1
 obtain ⟨rfl, rfl, e1q⟩ := hQ1
 have N1 := Fr.app N0 (Fr.nil n0)
 obtain ⟨cq3, kq3, q3a, q3b, q3c⟩ := isOf hZ e1q E_qa1
 obtain ⟨_, T3, L3, X3, hQ3, st3⟩ := own_cb0 0 0 0 0 0 0 (X1.virtualBack hx (y := Y8_) (z := Y8_) hown (mvT hZ (w48_ hw)) (mvT hZ (w49_ hw)) (notFace_of_selects (args := #[]) (mvT hZ (w51_ hw))) (mvT hZ (w51_ hw)) (mvT hZ (w50_ hw)) (by decide) (StrChars.Road.chN (W := 0) hZ (own_wc hw) (kI := 4) (w7_ hw) E_qa1 F_qa1_value F_qa1_coder A_qa2 hcd2 hbd2 (O2.ext X00.2) P5 (O4.ext X00.2) rG3 (lE rfl) (i := 0) (lE rfl) (j := (0 : Int32)) rfl (lE rfl) (lE rfl)) q3a q3c (g := (mkF m 53 #[rv qa1, iv 4, .unset] [.int 0, .ref qa1])) rfl hml.symm (Steps.refl _) (argsL := [.int 0]) (rest := []) (lenOf pd7 rfl) rfl (own_hw rfl) (hb hby d3_53) (fun _ _ => ⟨rfl, e1q, (lE rfl : 0 + 0 ≤ _), (lE rfl : 0 + 0 ≤ _)⟩)) rfl rfl
 dsimp only [Pt.U, Pt.locs, Pt.cells, Pt.slots] at hQ3
 obtain ⟨rfl, rfl, e3q⟩ := hQ3
 have N3 := Fr.app N1 (Fr.nil n0)
 obtain ⟨cq4, kq4, q4a, q4b, q4c⟩ := isOf hZ e3q E_qa1
 obtain ⟨_, T4, L4, X4, hQ4, st4⟩ := own_cb0 0 0 0 0 0 0 (X3.virtualBack hx (y := Y8_) (z := Y8_) hown (mvT hZ (w48_ hw)) (mvT hZ (w49_ hw)) (notFace_of_selects (args := #[]) (mvT hZ (w51_ hw))) (mvT hZ (w51_ hw)) (mvT hZ (w50_ hw)) (by decide) (StrChars.Road.chN (W := 0) hZ (own_wc hw) (kI := 4) (w7_ hw) E_qa1 F_qa1_value F_qa1_coder A_qa2 hcd2 hbd2 (O2.ext X00.2) P5 (O4.ext X00.2) rG3 (lE rfl) (i := 1) (lE rfl) (j := (1 : Int32)) rfl (lE rfl) (lE rfl)) q4a q4c (g := (mkF m 59 #[rv qa1, iv 4, iv qi3] [.int 1, .ref qa1])) rfl hml.symm (Steps.refl _) (argsL := [.int 1]) (rest := []) (lenOf pd7 rfl) rfl (own_hw rfl) (hb hby d3_59) (fun _ _ => ⟨rfl, e3q, (lE rfl : 0 + 0 ≤ _), (lE rfl : 0 + 0 ≤ _)⟩)) rfl rfl
 dsimp only [Pt.U, Pt.locs, Pt.cells, Pt.slots] at hQ4
 obtain ⟨rfl, rfl, e4q⟩ := hQ4
 have N4 := Fr.app N3 (Fr.nil n0)
 have pr5 : Pr p e below T4 m 64 #[rv qa1, iv 4, iv qi3] [.int 73, .int qi4] s₁ (entryFrame m #[.ref qa1] 3) := fun t k => pre0 t (by
  show Sx p e below s₁ m 0 #[rv qa1, .unset, .unset] [] _
  refine zb X0 Bd d3_0 rfl rfl ?_
  refine st1.trans ?_
  refine zt X1 Bd d3_4 (l' := #[rv qa1, iv 4, .unset]) rfl ?_
  refine zj X1 Bd d3_5 rfl ?_
  refine zc X1 Bd d3_6 ?_
  refine zy (pc' := 46) X1 Bd d3_7 (XT.ii_ne_t ((by decide) : ¬ ((4 : Int32) = (3 : Int32)))) rfl ?_
  refine zj X1 Bd d3_46 rfl ?_
  refine zc X1 Bd d3_47 ?_
  refine zn X1 Bd d3_48 (XT.ii_ne_f ((by decide) : (4 : Int32) = (4 : Int32))) ?_
  refine zb X1 Bd d3_51 rfl rfl ?_
  refine zc X1 Bd d3_52 ?_
  refine st3.trans ?_
  refine zt X3 Bd d3_56 (l' := #[rv qa1, iv 4, iv qi3]) rfl ?_
  refine zb X3 Bd d3_57 rfl rfl ?_
  refine zc X3 Bd d3_58 ?_
  refine st4.trans ?_
  refine zd X4 Bd d3_62 ?_
  exact k)
 by_cases hc6 : qi4 = (73 : Int32)
 ·
  skip
  obtain ⟨cq7, kq7, q7a, q7b, q7c⟩ := isOf hZ e4q E_qa1
  obtain ⟨_, T7, L7, X7, hQ7, st7⟩ := own_cb0 0 0 0 0 0 0 (X4.virtualBack hx (y := Y8_) (z := Y8_) hown (mvT hZ (w48_ hw)) (mvT hZ (w49_ hw)) (notFace_of_selects (args := #[]) (mvT hZ (w51_ hw))) (mvT hZ (w51_ hw)) (mvT hZ (w50_ hw)) (by decide) (StrChars.Road.chN (W := 0) hZ (own_wc hw) (kI := 4) (w7_ hw) E_qa1 F_qa1_value F_qa1_coder A_qa2 hcd2 hbd2 (O2.ext X00.2) P5 (O4.ext X00.2) rG3 (lE rfl) (i := 2) (lE rfl) (j := (2 : Int32)) rfl (lE rfl) (lE rfl)) q7a q7c (g := (mkF m 69 #[rv qa1, iv 4, iv qi3] [.int 2, .ref qa1])) rfl hml.symm (Steps.refl _) (argsL := [.int 2]) (rest := []) (lenOf pd7 rfl) rfl (own_hw rfl) (hb hby d3_69) (fun _ _ => ⟨rfl, e4q, (lE rfl : 0 + 0 ≤ _), (lE rfl : 0 + 0 ≤ _)⟩)) rfl rfl
  dsimp only [Pt.U, Pt.locs, Pt.cells, Pt.slots] at hQ7
  obtain ⟨rfl, rfl, e7q⟩ := hQ7
  have N7 := Fr.app N4 (Fr.nil n0)
  have pr8 : Pr p e below T7 m 74 #[rv qa1, iv 4, iv qi3] [.int 78, .int qi5] s₁ (entryFrame m #[.ref qa1] 3) := fun t k => pr5 t (by
   show Sx p e below T4 m 64 #[rv qa1, iv 4, iv qi3] [.int 73, .int qi4] _
   refine zn X4 Bd d3_64 (XT.ii_ne_f (hc6 : qi4 = (73 : Int32))) ?_
   refine zb X4 Bd d3_67 rfl rfl ?_
   refine zc X4 Bd d3_68 ?_
   refine st7.trans ?_
   refine zd X7 Bd d3_72 ?_
   exact k)
  by_cases hc9 : qi5 = (78 : Int32)
  ·
   skip
   obtain ⟨cq10, kq10, q10a, q10b, q10c⟩ := isOf hZ e7q E_qa1
   obtain ⟨_, T10, L10, X10, hQ10, st10⟩ := own_cb0 0 0 0 0 0 0 (X7.virtualBack hx (y := Y8_) (z := Y8_) hown (mvT hZ (w48_ hw)) (mvT hZ (w49_ hw)) (notFace_of_selects (args := #[]) (mvT hZ (w51_ hw))) (mvT hZ (w51_ hw)) (mvT hZ (w50_ hw)) (by decide) (StrChars.Road.chN (W := 0) hZ (own_wc hw) (kI := 4) (w7_ hw) E_qa1 F_qa1_value F_qa1_coder A_qa2 hcd2 hbd2 (O2.ext X00.2) P5 (O4.ext X00.2) rG3 (lE rfl) (i := 3) (lE rfl) (j := (3 : Int32)) rfl (lE rfl) (lE rfl)) q10a q10c (g := (mkF m 79 #[rv qa1, iv 4, iv qi3] [.int 3, .ref qa1])) rfl hml.symm (Steps.refl _) (argsL := [.int 3]) (rest := []) (lenOf pd7 rfl) rfl (own_hw rfl) (hb hby d3_79) (fun _ _ => ⟨rfl, e7q, (lE rfl : 0 + 0 ≤ _), (lE rfl : 0 + 0 ≤ _)⟩)) rfl rfl
   dsimp only [Pt.U, Pt.locs, Pt.cells, Pt.slots] at hQ10
   obtain ⟨rfl, rfl, e10q⟩ := hQ10
   have N10 := Fr.app N7 (Fr.nil n0)
   have pr11 : Pr p e below T10 m 84 #[rv qa1, iv 4, iv qi3] [.int 70, .int qi6] s₁ (entryFrame m #[.ref qa1] 3) := fun t k => pr8 t (by
    show Sx p e below T7 m 74 #[rv qa1, iv 4, iv qi3] [.int 78, .int qi5] _
    refine zn X7 Bd d3_74 (XT.ii_ne_f (hc9 : qi5 = (78 : Int32))) ?_
    refine zb X7 Bd d3_77 rfl rfl ?_
    refine zc X7 Bd d3_78 ?_
    refine st10.trans ?_
    refine zd X10 Bd d3_82 ?_
    exact k)
   by_cases hc12 : qi6 = (70 : Int32)
   ·
    skip
    have pr13 : Pr p e below T10 m 90 #[rv qa1, iv 4, iv qi3] [.int 43, .int qi3] s₁ (entryFrame m #[.ref qa1] 3) := fun t k => pr11 t (by
     show Sx p e below T10 m 84 #[rv qa1, iv 4, iv qi3] [.int 70, .int qi6] _
     refine zn X10 Bd d3_84 (XT.ii_ne_f (hc12 : qi6 = (70 : Int32))) ?_
     refine zj X10 Bd d3_87 rfl ?_
     refine zd X10 Bd d3_88 ?_
     exact k)
    by_cases hc14 : qi3 = (43 : Int32)
    ·
     skip
     obtain ⟨T15, X15, e15, st15⟩ := getS2 X10 hx hZ hown (host := "") (Or.inl (w107_ hw)) Via.refl e10q (hEN.2.2.2.2.2.2.1.ext X00.2) (g := (mkF m 93 #[rv qa1, iv 4, iv qi3] [])) rfl (hb hby d3_93)
     refine own_lvF X15 Bd (.ref Gg3) e15 ⟨(by simp [own_sv, hc6, hc9, hc12, hc14]), N10, rfl⟩ rfl (fun fs hr => pr13 _ (by
      show Sx p e below T10 m 90 #[rv qa1, iv 4, iv qi3] [.int 43, .int qi3] _
      refine zn X10 Bd d3_90 (XT.ii_ne_f (hc14 : qi3 = (43 : Int32))) ?_
      refine st15 _ ?_
      exact retOut X15 hx Bd.returns rfl (Or.inr (Or.inr (Or.inr (Or.inr ⟨rfl, rfl, rfl⟩)))) (hb hby d3_96) hr))
    ·
     skip
     have pr16 : Pr p e below T10 m 100 #[rv qa1, iv 4, iv qi3] [.int 45, .int qi3] s₁ (entryFrame m #[.ref qa1] 3) := fun t k => pr13 t (by
      show Sx p e below T10 m 90 #[rv qa1, iv 4, iv qi3] [.int 43, .int qi3] _
      refine zy (pc' := 97) X10 Bd d3_90 (XT.ii_ne_t (hc14 : ¬ (qi3 = (43 : Int32)))) rfl ?_
      refine zj X10 Bd d3_97 rfl ?_
      refine zd X10 Bd d3_98 ?_
      exact k)
     by_cases hc17 : qi3 = (45 : Int32)
     ·
      skip
      obtain ⟨T18, X18, e18, st18⟩ := getS2 X10 hx hZ hown (host := "") (Or.inl (w106_ hw)) Via.refl e10q (hEN.2.2.2.2.2.2.2.2.1.ext X00.2) (g := (mkF m 103 #[rv qa1, iv 4, iv qi3] [])) rfl (hb hby d3_103)
      refine own_lvF X18 Bd (.ref Gg4) e18 ⟨(by simp [own_sv, hc6, hc9, hc12, hc14, hc17]), N10, rfl⟩ rfl (fun fs hr => pr16 _ (by
       show Sx p e below T10 m 100 #[rv qa1, iv 4, iv qi3] [.int 45, .int qi3] _
       refine zn X10 Bd d3_100 (XT.ii_ne_f (hc17 : qi3 = (45 : Int32))) ?_
       refine st18 _ ?_
       exact retOut X18 hx Bd.returns rfl (Or.inr (Or.inr (Or.inr (Or.inr ⟨rfl, rfl, rfl⟩)))) (hb hby d3_106) hr))
     ·
      skip
      refine own_lvF X10 Bd .null e10q ⟨(by simp [own_sv, hc6, hc9, hc12, hc14, hc17]), N10, rfl⟩ rfl (fun fs hr => pr16 _ (by
       show Sx p e below T10 m 100 #[rv qa1, iv 4, iv qi3] [.int 45, .int qi3] _
       refine zy (pc' := 107) X10 Bd d3_100 (XT.ii_ne_t (hc17 : ¬ (qi3 = (45 : Int32)))) rfl ?_
       refine XS.aconstNull X10.here hx rfl (hb hby d3_107) ?_
       exact retOut X10 hx Bd.returns rfl (Or.inr (Or.inr (Or.inr (Or.inr ⟨rfl, rfl, rfl⟩)))) (hb hby d3_108) hr))
   ·
    skip
    have pr19 : Pr p e below T10 m 112 #[rv qa1, iv 4, iv qi3] [.int 78, .int qi3] s₁ (entryFrame m #[.ref qa1] 3) := fun t k => pr11 t (by
     show Sx p e below T10 m 84 #[rv qa1, iv 4, iv qi3] [.int 70, .int qi6] _
     refine zy (pc' := 109) X10 Bd d3_84 (XT.ii_ne_t (hc12 : ¬ (qi6 = (70 : Int32)))) rfl ?_
     refine zj X10 Bd d3_109 rfl ?_
     refine zd X10 Bd d3_110 ?_
     exact k)
    by_cases hc20 : qi3 = (78 : Int32)
    ·
     skip
     obtain ⟨cq21, kq21, q21a, q21b, q21c⟩ := isOf hZ e10q E_qa1
     obtain ⟨_, T21, L21, X21, hQ21, st21⟩ := own_cb0 0 0 0 0 0 0 (X10.virtualBack hx (y := Y8_) (z := Y8_) hown (mvT hZ (w48_ hw)) (mvT hZ (w49_ hw)) (notFace_of_selects (args := #[]) (mvT hZ (w51_ hw))) (mvT hZ (w51_ hw)) (mvT hZ (w50_ hw)) (by decide) (StrChars.Road.chN (W := 0) hZ (own_wc hw) (kI := 4) (w7_ hw) E_qa1 F_qa1_value F_qa1_coder A_qa2 hcd2 hbd2 (O2.ext X00.2) P5 (O4.ext X00.2) rG3 (lE rfl) (i := 1) (lE rfl) (j := (1 : Int32)) rfl (lE rfl) (lE rfl)) q21a q21c (g := (mkF m 117 #[rv qa1, iv 4, iv qi3] [.int 1, .ref qa1])) rfl hml.symm (Steps.refl _) (argsL := [.int 1]) (rest := []) (lenOf pd7 rfl) rfl (own_hw rfl) (hb hby d3_117) (fun _ _ => ⟨rfl, e10q, (lE rfl : 0 + 0 ≤ _), (lE rfl : 0 + 0 ≤ _)⟩)) rfl rfl
     dsimp only [Pt.U, Pt.locs, Pt.cells, Pt.slots] at hQ21
     obtain ⟨rfl, rfl, e21q⟩ := hQ21
     have N21 := Fr.app N10 (Fr.nil n0)
     refine own_lvF X21 Bd .null e21q ⟨(by simp [own_sv, hc6, hc9, hc12, hc20]), N21, rfl⟩ rfl (fun fs hr => pr19 _ (by
      show Sx p e below T10 m 112 #[rv qa1, iv 4, iv qi3] [.int 78, .int qi3] _
      refine zn X10 Bd d3_112 (XT.ii_ne_f (hc20 : qi3 = (78 : Int32))) ?_
      refine zb X10 Bd d3_115 rfl rfl ?_
      refine zc X10 Bd d3_116 ?_
      refine st21.trans ?_
      refine zd X21 Bd d3_120 ?_
      refine zy (pc' := 149) X21 Bd d3_122 (XT.ii_ne_t ((by have e_ : qi4 = (73 : Int32) := hc6; rw [e_]; first | done | decide) : ¬ (qi4 = (82 : Int32)))) rfl ?_
      refine XS.aconstNull X21.here hx rfl (hb hby d3_149) ?_
      exact retOut X21 hx Bd.returns rfl (Or.inr (Or.inr (Or.inr (Or.inr ⟨rfl, rfl, rfl⟩)))) (hb hby d3_150) hr))
    ·
     skip
     refine own_lvF X10 Bd .null e10q ⟨(by simp [own_sv, hc6, hc9, hc12, hc20]), N10, rfl⟩ rfl (fun fs hr => pr19 _ (by
      show Sx p e below T10 m 112 #[rv qa1, iv 4, iv qi3] [.int 78, .int qi3] _
      refine zy (pc' := 149) X10 Bd d3_112 (XT.ii_ne_t (hc20 : ¬ (qi3 = (78 : Int32)))) rfl ?_
      refine XS.aconstNull X10.here hx rfl (hb hby d3_149) ?_
      exact retOut X10 hx Bd.returns rfl (Or.inr (Or.inr (Or.inr (Or.inr ⟨rfl, rfl, rfl⟩)))) (hb hby d3_150) hr))
  ·
   skip
   have pr22 : Pr p e below T7 m 112 #[rv qa1, iv 4, iv qi3] [.int 78, .int qi3] s₁ (entryFrame m #[.ref qa1] 3) := fun t k => pr8 t (by
    show Sx p e below T7 m 74 #[rv qa1, iv 4, iv qi3] [.int 78, .int qi5] _
    refine zy (pc' := 109) X7 Bd d3_74 (XT.ii_ne_t (hc9 : ¬ (qi5 = (78 : Int32)))) rfl ?_
    refine zj X7 Bd d3_109 rfl ?_
    refine zd X7 Bd d3_110 ?_
    exact k)
   by_cases hc23 : qi3 = (78 : Int32)
   ·
    skip
    obtain ⟨cq24, kq24, q24a, q24b, q24c⟩ := isOf hZ e7q E_qa1
    obtain ⟨_, T24, L24, X24, hQ24, st24⟩ := own_cb0 0 0 0 0 0 0 (X7.virtualBack hx (y := Y8_) (z := Y8_) hown (mvT hZ (w48_ hw)) (mvT hZ (w49_ hw)) (notFace_of_selects (args := #[]) (mvT hZ (w51_ hw))) (mvT hZ (w51_ hw)) (mvT hZ (w50_ hw)) (by decide) (StrChars.Road.chN (W := 0) hZ (own_wc hw) (kI := 4) (w7_ hw) E_qa1 F_qa1_value F_qa1_coder A_qa2 hcd2 hbd2 (O2.ext X00.2) P5 (O4.ext X00.2) rG3 (lE rfl) (i := 1) (lE rfl) (j := (1 : Int32)) rfl (lE rfl) (lE rfl)) q24a q24c (g := (mkF m 117 #[rv qa1, iv 4, iv qi3] [.int 1, .ref qa1])) rfl hml.symm (Steps.refl _) (argsL := [.int 1]) (rest := []) (lenOf pd7 rfl) rfl (own_hw rfl) (hb hby d3_117) (fun _ _ => ⟨rfl, e7q, (lE rfl : 0 + 0 ≤ _), (lE rfl : 0 + 0 ≤ _)⟩)) rfl rfl
    dsimp only [Pt.U, Pt.locs, Pt.cells, Pt.slots] at hQ24
    obtain ⟨rfl, rfl, e24q⟩ := hQ24
    have N24 := Fr.app N7 (Fr.nil n0)
    refine own_lvF X24 Bd .null e24q ⟨(by simp [own_sv, hc6, hc9, hc23]), N24, rfl⟩ rfl (fun fs hr => pr22 _ (by
     show Sx p e below T7 m 112 #[rv qa1, iv 4, iv qi3] [.int 78, .int qi3] _
     refine zn X7 Bd d3_112 (XT.ii_ne_f (hc23 : qi3 = (78 : Int32))) ?_
     refine zb X7 Bd d3_115 rfl rfl ?_
     refine zc X7 Bd d3_116 ?_
     refine st24.trans ?_
     refine zd X24 Bd d3_120 ?_
     refine zy (pc' := 149) X24 Bd d3_122 (XT.ii_ne_t ((by have e_ : qi4 = (73 : Int32) := hc6; rw [e_]; first | done | decide) : ¬ (qi4 = (82 : Int32)))) rfl ?_
     refine XS.aconstNull X24.here hx rfl (hb hby d3_149) ?_
     exact retOut X24 hx Bd.returns rfl (Or.inr (Or.inr (Or.inr (Or.inr ⟨rfl, rfl, rfl⟩)))) (hb hby d3_150) hr))
   ·
    skip
    refine own_lvF X7 Bd .null e7q ⟨(by simp [own_sv, hc6, hc9, hc23]), N7, rfl⟩ rfl (fun fs hr => pr22 _ (by
     show Sx p e below T7 m 112 #[rv qa1, iv 4, iv qi3] [.int 78, .int qi3] _
     refine zy (pc' := 149) X7 Bd d3_112 (XT.ii_ne_t (hc23 : ¬ (qi3 = (78 : Int32)))) rfl ?_
     refine XS.aconstNull X7.here hx rfl (hb hby d3_149) ?_
     exact retOut X7 hx Bd.returns rfl (Or.inr (Or.inr (Or.inr (Or.inr ⟨rfl, rfl, rfl⟩)))) (hb hby d3_150) hr))
 ·
  skip
  have pr25 : Pr p e below T4 m 112 #[rv qa1, iv 4, iv qi3] [.int 78, .int qi3] s₁ (entryFrame m #[.ref qa1] 3) := fun t k => pr5 t (by
   show Sx p e below T4 m 64 #[rv qa1, iv 4, iv qi3] [.int 73, .int qi4] _
   refine zy (pc' := 109) X4 Bd d3_64 (XT.ii_ne_t (hc6 : ¬ (qi4 = (73 : Int32)))) rfl ?_
   refine zj X4 Bd d3_109 rfl ?_
   refine zd X4 Bd d3_110 ?_
   exact k)
  by_cases hc26 : qi3 = (78 : Int32)
  ·
   skip
   obtain ⟨cq27, kq27, q27a, q27b, q27c⟩ := isOf hZ e4q E_qa1
   obtain ⟨_, T27, L27, X27, hQ27, st27⟩ := own_cb0 0 0 0 0 0 0 (X4.virtualBack hx (y := Y8_) (z := Y8_) hown (mvT hZ (w48_ hw)) (mvT hZ (w49_ hw)) (notFace_of_selects (args := #[]) (mvT hZ (w51_ hw))) (mvT hZ (w51_ hw)) (mvT hZ (w50_ hw)) (by decide) (StrChars.Road.chN (W := 0) hZ (own_wc hw) (kI := 4) (w7_ hw) E_qa1 F_qa1_value F_qa1_coder A_qa2 hcd2 hbd2 (O2.ext X00.2) P5 (O4.ext X00.2) rG3 (lE rfl) (i := 1) (lE rfl) (j := (1 : Int32)) rfl (lE rfl) (lE rfl)) q27a q27c (g := (mkF m 117 #[rv qa1, iv 4, iv qi3] [.int 1, .ref qa1])) rfl hml.symm (Steps.refl _) (argsL := [.int 1]) (rest := []) (lenOf pd7 rfl) rfl (own_hw rfl) (hb hby d3_117) (fun _ _ => ⟨rfl, e4q, (lE rfl : 0 + 0 ≤ _), (lE rfl : 0 + 0 ≤ _)⟩)) rfl rfl
   dsimp only [Pt.U, Pt.locs, Pt.cells, Pt.slots] at hQ27
   obtain ⟨rfl, rfl, e27q⟩ := hQ27
   have N27 := Fr.app N4 (Fr.nil n0)
   have pr28 : Pr p e below T27 m 122 #[rv qa1, iv 4, iv qi3] [.int 82, .int qi4] s₁ (entryFrame m #[.ref qa1] 3) := fun t k => pr25 t (by
    show Sx p e below T4 m 112 #[rv qa1, iv 4, iv qi3] [.int 78, .int qi3] _
    refine zn X4 Bd d3_112 (XT.ii_ne_f (hc26 : qi3 = (78 : Int32))) ?_
    refine zb X4 Bd d3_115 rfl rfl ?_
    refine zc X4 Bd d3_116 ?_
    refine st27.trans ?_
    refine zd X27 Bd d3_120 ?_
    exact k)
   by_cases hc29 : qi4 = (82 : Int32)
   ·
    skip
    obtain ⟨cq30, kq30, q30a, q30b, q30c⟩ := isOf hZ e27q E_qa1
    obtain ⟨_, T30, L30, X30, hQ30, st30⟩ := own_cb0 0 0 0 0 0 0 (X27.virtualBack hx (y := Y8_) (z := Y8_) hown (mvT hZ (w48_ hw)) (mvT hZ (w49_ hw)) (notFace_of_selects (args := #[]) (mvT hZ (w51_ hw))) (mvT hZ (w51_ hw)) (mvT hZ (w50_ hw)) (by decide) (StrChars.Road.chN (W := 0) hZ (own_wc hw) (kI := 4) (w7_ hw) E_qa1 F_qa1_value F_qa1_coder A_qa2 hcd2 hbd2 (O2.ext X00.2) P5 (O4.ext X00.2) rG3 (lE rfl) (i := 2) (lE rfl) (j := (2 : Int32)) rfl (lE rfl) (lE rfl)) q30a q30c (g := (mkF m 127 #[rv qa1, iv 4, iv qi3] [.int 2, .ref qa1])) rfl hml.symm (Steps.refl _) (argsL := [.int 2]) (rest := []) (lenOf pd7 rfl) rfl (own_hw rfl) (hb hby d3_127) (fun _ _ => ⟨rfl, e27q, (lE rfl : 0 + 0 ≤ _), (lE rfl : 0 + 0 ≤ _)⟩)) rfl rfl
    dsimp only [Pt.U, Pt.locs, Pt.cells, Pt.slots] at hQ30
    obtain ⟨rfl, rfl, e30q⟩ := hQ30
    have N30 := Fr.app N27 (Fr.nil n0)
    have pr31 : Pr p e below T30 m 132 #[rv qa1, iv 4, iv qi3] [.int 101, .int qi5] s₁ (entryFrame m #[.ref qa1] 3) := fun t k => pr28 t (by
     show Sx p e below T27 m 122 #[rv qa1, iv 4, iv qi3] [.int 82, .int qi4] _
     refine zn X27 Bd d3_122 (XT.ii_ne_f (hc29 : qi4 = (82 : Int32))) ?_
     refine zb X27 Bd d3_125 rfl rfl ?_
     refine zc X27 Bd d3_126 ?_
     refine st30.trans ?_
     refine zd X30 Bd d3_130 ?_
     exact k)
    by_cases hc32 : qi5 = (101 : Int32)
    ·
     skip
     obtain ⟨cq33, kq33, q33a, q33b, q33c⟩ := isOf hZ e30q E_qa1
     obtain ⟨_, T33, L33, X33, hQ33, st33⟩ := own_cb0 0 0 0 0 0 0 (X30.virtualBack hx (y := Y8_) (z := Y8_) hown (mvT hZ (w48_ hw)) (mvT hZ (w49_ hw)) (notFace_of_selects (args := #[]) (mvT hZ (w51_ hw))) (mvT hZ (w51_ hw)) (mvT hZ (w50_ hw)) (by decide) (StrChars.Road.chN (W := 0) hZ (own_wc hw) (kI := 4) (w7_ hw) E_qa1 F_qa1_value F_qa1_coder A_qa2 hcd2 hbd2 (O2.ext X00.2) P5 (O4.ext X00.2) rG3 (lE rfl) (i := 3) (lE rfl) (j := (3 : Int32)) rfl (lE rfl) (lE rfl)) q33a q33c (g := (mkF m 137 #[rv qa1, iv 4, iv qi3] [.int 3, .ref qa1])) rfl hml.symm (Steps.refl _) (argsL := [.int 3]) (rest := []) (lenOf pd7 rfl) rfl (own_hw rfl) (hb hby d3_137) (fun _ _ => ⟨rfl, e30q, (lE rfl : 0 + 0 ≤ _), (lE rfl : 0 + 0 ≤ _)⟩)) rfl rfl
     dsimp only [Pt.U, Pt.locs, Pt.cells, Pt.slots] at hQ33
     obtain ⟨rfl, rfl, e33q⟩ := hQ33
     have N33 := Fr.app N30 (Fr.nil n0)
     have pr34 : Pr p e below T33 m 142 #[rv qa1, iv 4, iv qi3] [.int 115, .int qi6] s₁ (entryFrame m #[.ref qa1] 3) := fun t k => pr31 t (by
      show Sx p e below T30 m 132 #[rv qa1, iv 4, iv qi3] [.int 101, .int qi5] _
      refine zn X30 Bd d3_132 (XT.ii_ne_f (hc32 : qi5 = (101 : Int32))) ?_
      refine zb X30 Bd d3_135 rfl rfl ?_
      refine zc X30 Bd d3_136 ?_
      refine st33.trans ?_
      refine zd X33 Bd d3_140 ?_
      exact k)
     by_cases hc35 : qi6 = (115 : Int32)
     ·
      skip
      obtain ⟨T36, X36, e36, st36⟩ := getS2 X33 hx hZ hown (host := "") (Or.inl (w111_ hw)) Via.refl e33q (hEN.2.2.2.2.1.ext X00.2) (g := (mkF m 145 #[rv qa1, iv 4, iv qi3] [])) rfl (hb hby d3_145)
      refine own_lvF X36 Bd (.ref Gg2) e36 ⟨(by simp [own_sv, hc6, hc26, hc29, hc32, hc35]), N33, rfl⟩ rfl (fun fs hr => pr34 _ (by
       show Sx p e below T33 m 142 #[rv qa1, iv 4, iv qi3] [.int 115, .int qi6] _
       refine zn X33 Bd d3_142 (XT.ii_ne_f (hc35 : qi6 = (115 : Int32))) ?_
       refine st36 _ ?_
       exact retOut X36 hx Bd.returns rfl (Or.inr (Or.inr (Or.inr (Or.inr ⟨rfl, rfl, rfl⟩)))) (hb hby d3_148) hr))
     ·
      skip
      refine own_lvF X33 Bd .null e33q ⟨(by simp [own_sv, hc6, hc26, hc29, hc32, hc35]), N33, rfl⟩ rfl (fun fs hr => pr34 _ (by
       show Sx p e below T33 m 142 #[rv qa1, iv 4, iv qi3] [.int 115, .int qi6] _
       refine zy (pc' := 149) X33 Bd d3_142 (XT.ii_ne_t (hc35 : ¬ (qi6 = (115 : Int32)))) rfl ?_
       refine XS.aconstNull X33.here hx rfl (hb hby d3_149) ?_
       exact retOut X33 hx Bd.returns rfl (Or.inr (Or.inr (Or.inr (Or.inr ⟨rfl, rfl, rfl⟩)))) (hb hby d3_150) hr))
    ·
     skip
     refine own_lvF X30 Bd .null e30q ⟨(by simp [own_sv, hc6, hc26, hc29, hc32]), N30, rfl⟩ rfl (fun fs hr => pr31 _ (by
      show Sx p e below T30 m 132 #[rv qa1, iv 4, iv qi3] [.int 101, .int qi5] _
      refine zy (pc' := 149) X30 Bd d3_132 (XT.ii_ne_t (hc32 : ¬ (qi5 = (101 : Int32)))) rfl ?_
      refine XS.aconstNull X30.here hx rfl (hb hby d3_149) ?_
      exact retOut X30 hx Bd.returns rfl (Or.inr (Or.inr (Or.inr (Or.inr ⟨rfl, rfl, rfl⟩)))) (hb hby d3_150) hr))
   ·
    skip
    refine own_lvF X27 Bd .null e27q ⟨(by simp [own_sv, hc6, hc26, hc29]), N27, rfl⟩ rfl (fun fs hr => pr28 _ (by
     show Sx p e below T27 m 122 #[rv qa1, iv 4, iv qi3] [.int 82, .int qi4] _
     refine zy (pc' := 149) X27 Bd d3_122 (XT.ii_ne_t (hc29 : ¬ (qi4 = (82 : Int32)))) rfl ?_
     refine XS.aconstNull X27.here hx rfl (hb hby d3_149) ?_
     exact retOut X27 hx Bd.returns rfl (Or.inr (Or.inr (Or.inr (Or.inr ⟨rfl, rfl, rfl⟩)))) (hb hby d3_150) hr))
  ·
   skip
   refine own_lvF X4 Bd .null e4q ⟨(by simp [own_sv, hc6, hc26]), N4, rfl⟩ rfl (fun fs hr => pr25 _ (by
    show Sx p e below T4 m 112 #[rv qa1, iv 4, iv qi3] [.int 78, .int qi3] _
    refine zy (pc' := 149) X4 Bd d3_112 (XT.ii_ne_t (hc26 : ¬ (qi3 = (78 : Int32)))) rfl ?_
    refine XS.aconstNull X4.here hx rfl (hb hby d3_149) ?_
    exact retOut X4 hx Bd.returns rfl (Or.inr (Or.inr (Or.inr (Or.inr ⟨rfl, rfl, rfl⟩)))) (hb hby d3_150) hr))
theorem d0_139 : decode method_3_code 139 = .ok (.iload_n 1, 1) := by decide +kernel
theorem d0_140 : decode method_3_code 140 = .ok (.iconst 5, 1) := by decide +kernel
theorem d0_141 : decode method_3_code 141 = .ok (.if_icmp .ne 44, 3) := by decide +kernel
theorem d0_144 : decode method_3_code 144 = .ok (.new 23, 3) := by decide +kernel
theorem d0_147 : decode method_3_code 147 = .ok (.dup, 1) := by decide +kernel
theorem d0_148 : decode method_3_code 148 = .ok (.iconst 5, 1) := by decide +kernel
theorem d0_149 : decode method_3_code 149 = .ok (.newarray .char, 2) := by decide +kernel
theorem d0_151 : decode method_3_code 151 = .ok (.dup, 1) := by decide +kernel
theorem d0_152 : decode method_3_code 152 = .ok (.iconst 0, 1) := by decide +kernel
theorem d0_153 : decode method_3_code 153 = .ok (.aload_n 0, 1) := by decide +kernel
theorem d0_154 : decode method_3_code 154 = .ok (.iconst 0, 1) := by decide +kernel
theorem d0_155 : decode method_3_code 155 = .ok (.caload, 1) := by decide +kernel
theorem d0_156 : decode method_3_code 156 = .ok (.castore, 1) := by decide +kernel
theorem d0_157 : decode method_3_code 157 = .ok (.dup, 1) := by decide +kernel
theorem d0_158 : decode method_3_code 158 = .ok (.iconst 1, 1) := by decide +kernel
theorem d0_159 : decode method_3_code 159 = .ok (.aload_n 0, 1) := by decide +kernel
theorem d0_160 : decode method_3_code 160 = .ok (.iconst 1, 1) := by decide +kernel
theorem d0_161 : decode method_3_code 161 = .ok (.caload, 1) := by decide +kernel
theorem d0_162 : decode method_3_code 162 = .ok (.castore, 1) := by decide +kernel
theorem d0_163 : decode method_3_code 163 = .ok (.dup, 1) := by decide +kernel
theorem d0_164 : decode method_3_code 164 = .ok (.iconst 2, 1) := by decide +kernel
theorem d0_165 : decode method_3_code 165 = .ok (.aload_n 0, 1) := by decide +kernel
theorem d0_166 : decode method_3_code 166 = .ok (.iconst 2, 1) := by decide +kernel
theorem d0_167 : decode method_3_code 167 = .ok (.caload, 1) := by decide +kernel
theorem d0_168 : decode method_3_code 168 = .ok (.castore, 1) := by decide +kernel
theorem d0_169 : decode method_3_code 169 = .ok (.dup, 1) := by decide +kernel
theorem d0_170 : decode method_3_code 170 = .ok (.iconst 3, 1) := by decide +kernel
theorem d0_171 : decode method_3_code 171 = .ok (.aload_n 0, 1) := by decide +kernel
theorem d0_172 : decode method_3_code 172 = .ok (.iconst 3, 1) := by decide +kernel
theorem d0_173 : decode method_3_code 173 = .ok (.caload, 1) := by decide +kernel
theorem d0_174 : decode method_3_code 174 = .ok (.castore, 1) := by decide +kernel
theorem d0_175 : decode method_3_code 175 = .ok (.dup, 1) := by decide +kernel
theorem d0_176 : decode method_3_code 176 = .ok (.iconst 4, 1) := by decide +kernel
theorem d0_177 : decode method_3_code 177 = .ok (.aload_n 0, 1) := by decide +kernel
theorem d0_178 : decode method_3_code 178 = .ok (.iconst 4, 1) := by decide +kernel
theorem d0_179 : decode method_3_code 179 = .ok (.caload, 1) := by decide +kernel
theorem d0_180 : decode method_3_code 180 = .ok (.castore, 1) := by decide +kernel
theorem d0_181 : decode method_3_code 181 = .ok (.invokespecial 25, 3) := by decide +kernel
theorem d0_184 : decode method_3_code 184 = .ok (.areturn, 1) := by decide +kernel
-- com/example/hearthline/hearthline/session/SpecialValueOfPinLaw.str([CI)Ljava/lang/String;
def Q15 (Z : State) (qi4 : Int32) (qi5 : Int32) (qi6 : Int32) (qi7 : Int32) (qi8 : Int32) (h0 : Heap) (n0 : Nat) (v : Option Value) (h : Heap) (L : List Loc) : Prop := ∃ b7 : Addr, ∃ b87 : Addr, ∃ c87_ : ClassId, v = some (.ref b7) ∧ Fr n0 L ∧ Keep h0 h [] ∧ h0.size ≤ b7 ∧ h0.size ≤ b87 ∧ b7 ≠ b87 ∧ Exa Z h b7 "java/lang/String" ∧ Fld Z h b7 "java/lang/String" "coder" "B" (.int 0) ∧ Fld Z h b7 "java/lang/String" "value" "[B" (.ref b87) ∧ Arv Z h b87 c87_ .byte (5 : Int32) ((([qi4, qi5, qi6, qi7, qi8] : List Int32).map (fun c => c.toInt8.toInt32)).map Value.int) (.int 0)
theorem rm15 (l : Launch) (Z : State) (a0 : Array Value) (hw : HW a0 Z) (G1 : Int32) (qa1 : Addr) (qi2 : Int32) (qk3 : ClassId) (qi4 : Int32) (qi5 : Int32) (qi6 : Int32) (qi7 : Int32) (qi8 : Int32) (qi9 : Int32) (qi10 : Int32) (qi11 : Int32) (h0 : Heap) (n0 : Nat) (X00 : Old Z n0 h0) (O2 : Sta Z Z.heap "java/lang/String" "COMPACT_STRINGS" "Z" (.int G1)) (P5 : ¬ (G1 = (0 : Int32))) (hc1 : ¬ (qi2 = (0 : Int32))) (hc2 : ¬ (qi2 = (1 : Int32))) (hc3 : ¬ (qi2 = (2 : Int32))) (hc4 : ¬ (qi2 = (3 : Int32))) (hc5 : ¬ (qi2 = (4 : Int32))) (hc6 : qi2 = (5 : Int32)) (A_qa1 : Arv Z h0 qa1 qk3 .char (8 : Int32) [.int qi4, .int qi5, .int qi6, .int qi7, .int qi8, .int qi9, .int qi10, .int qi11] (.int 0)) (hl22 : ¬ qi4 < 0 ∧ ¬ (255 : Int32) < qi4) (hl30 : ¬ qi5 < 0 ∧ ¬ (255 : Int32) < qi5) (hl38 : ¬ qi6 < 0 ∧ ¬ (255 : Int32) < qi6) (hl46 : ¬ qi7 < 0 ∧ ¬ (255 : Int32) < qi7) (hl54 : ¬ qi8 < 0 ∧ ¬ (255 : Int32) < qi8) :
    MF l Z Y2_ method_3_code 2 (some (.object "java/lang/String")) (Rm 4 3 14 66) #[.ref qa1, .int qi2] h0 (Q15 Z qi4 qi5 qi6 qi7 qi8 h0 n0) := by
 refine own_sF pn0 rfl (fun m => ef1 m qa1 qi2) ?_
 intro p e s m below meth c s₁ Bd hZ hh hx hby hml hown hnm X0 e0 pre0
 have N0 := Fr.nil n0
 obtain ⟨T7, h7, X7, e7, E7, A7, D7, -, st7⟩ := newO X0 hx hZ hown (w6_ hw) (w7_ hw) (w8_ hw) e0 (g := (mkF m 144 #[rv qa1, iv qi2] [])) rfl (hb hby d0_144) (lE rfl) (lE rfl)
 obtain ⟨b7, g7⟩ : ∃ z, z = h0.size := ⟨_, rfl⟩
 rw [← g7] at A7 D7 st7
 replace X7 : Stand p l e (Rm 4 3 14 66) s m #[.ref qa1, .int qi2] below meth c T7 _ 1 4 := X7
 have K8 := (Keep.refl h0 []).ext E7
 have F9_ : Fld Z h7 b7 "java/lang/String" "coder" "B" (.int 0) := D7 (Or.inr (w32_ hw)) (ty := .byte) (by decide)
 have F10_ : Fld Z h7 b7 "java/lang/String" "value" "[B" .null := D7 (Or.inr (w34_ hw)) (ty := (.array .byte)) (by decide)
 obtain ⟨T11, h11, c11, X11, e11, E11, A11, st11⟩ := newP (aty := .char) X7 hx hZ (w1_ hw) e7 (g := (mkF m 149 #[rv qa1, iv qi2] [.int 5, .ref b7, .ref b7])) rfl (hb hby d0_149) rfl (by decide) (cap := 5) (by decide) (lE rfl) (lE rfl) (lE rfl)
 obtain ⟨b11, g11⟩ : ∃ z, z = h7.size := ⟨_, rfl⟩
 rw [← g11] at A11 st11
 replace X11 : Stand p l e (Rm 4 3 14 66) s m #[.ref qa1, .int qi2] below meth c T11 _ 2 9 := X11
 have K12 := K8.ext E11
 have A13_ : Arv Z h11 b11 c11 .char (5 : Int32) [.int 0, .int 0, .int 0, .int 0, .int 0] (.int 0) := (Arv.new A11 (by decide)).pad (pad_rep [] (.int 0) 5)
 have A15_ := A_qa1.ext E7
 have A16_ := A15_.ext E11
 have av14 := A16_
 obtain ⟨cl14, Ar14, q14, S14, N14, H14, Gf14⟩ := av14
 have hin17 : ¬ ((0 : Int32) < 0 ∨ cl14.slots.size ≤ ((0 : Int32) : Int32).toNatClampNeg) := inb_of S14 (by decide)
 have hat17 : cl14.slots[((0 : Int32) : Int32).toNatClampNeg]? = some (.int qi4) := Has.at H14 hin17 rfl
 have av18 := A13_
 obtain ⟨cl18, Ar18, q18, S18, N18, H18, Gf18⟩ := av18
 have hin19 : ¬ ((0 : Int32) < 0 ∨ cl18.slots.size ≤ ((0 : Int32) : Int32).toNatClampNeg) := inb_of S18 (by decide)
 obtain ⟨T19, h19, X19, e19, W19, st19⟩ := stC X11 hx hZ e11 Ar18 (j := (0 : Int32)) hin19 (g := (mkF m 156 #[rv qa1, iv qi2] [.int qi4, .int 0, .ref b11, .ref b11, .ref b7, .ref b7])) rfl rfl (hb hby d0_156)
 have O20 := X00.ext E7
 have g_b11 : n0 ≤ b11 := Nat.le_trans (Nat.le_trans (Nat.le_of_eq O20.1.symm) O20.2.1) (Nat.le_of_eq g11.symm)
 have N19_ := Fr.snoc X19 N0 g_b11
 have sz_b11 : h0.size ≤ b11 := Nat.le_trans K8.1 (Nat.le_of_eq g11.symm)
 have K21 := K12.wr W19 (Or.inr sz_b11)
 have A23_ : Arv Z h19 b11 c11 .char (5 : Int32) [.int qi4, .int 0, .int 0, .int 0, .int 0] (.int 0) := by have q := Arv.set (v := .int (nar .char qi4)) Ar18 q18 S18 N18 H18 Gf18 (fits_nar_char _) W19 0 (by decide) (lE rfl); rw [((own_nar_lat hl22) : nar .char qi4 = qi4)] at q; exact q
 have A25_ := A16_.other W19 (Nat.ne_of_lt (Nat.lt_of_lt_of_le (Nat.lt_of_lt_of_le A_qa1.lt E7.1) (Nat.le_of_eq g11.symm)))
 have av24 := A25_
 obtain ⟨cl24, Ar24, q24, S24, N24, H24, Gf24⟩ := av24
 have hin26 : ¬ ((1 : Int32) < 0 ∨ cl24.slots.size ≤ ((1 : Int32) : Int32).toNatClampNeg) := inb_of S24 (by decide)
 have hat26 : cl24.slots[((1 : Int32) : Int32).toNatClampNeg]? = some (.int qi5) := Has.at H24 hin26 rfl
 have av27 := A23_
 obtain ⟨cl27, Ar27, q27, S27, N27, H27, Gf27⟩ := av27
 have hin28 : ¬ ((1 : Int32) < 0 ∨ cl27.slots.size ≤ ((1 : Int32) : Int32).toNatClampNeg) := inb_of S27 (by decide)
 obtain ⟨T28, h28, X28, e28, W28, st28⟩ := stC X19 hx hZ e19 Ar27 (j := (1 : Int32)) hin28 (g := (mkF m 162 #[rv qa1, iv qi2] [.int qi5, .int 1, .ref b11, .ref b11, .ref b7, .ref b7])) rfl rfl (hb hby d0_162)
 have N28_ := Fr.snoc X28 N19_ g_b11
 have K29 := K21.wr W28 (Or.inr sz_b11)
 have A31_ : Arv Z h28 b11 c11 .char (5 : Int32) [.int qi4, .int qi5, .int 0, .int 0, .int 0] (.int 0) := by have q := Arv.set (v := .int (nar .char qi5)) Ar27 q27 S27 N27 H27 Gf27 (fits_nar_char _) W28 1 (by decide) (lE rfl); rw [((own_nar_lat hl30) : nar .char qi5 = qi5)] at q; exact q
 have A33_ := A25_.other W28 (Nat.ne_of_lt (Nat.lt_of_lt_of_le (Nat.lt_of_lt_of_le A_qa1.lt E7.1) (Nat.le_of_eq g11.symm)))
 have av32 := A33_
 obtain ⟨cl32, Ar32, q32, S32, N32, H32, Gf32⟩ := av32
 have hin34 : ¬ ((2 : Int32) < 0 ∨ cl32.slots.size ≤ ((2 : Int32) : Int32).toNatClampNeg) := inb_of S32 (by decide)
 have hat34 : cl32.slots[((2 : Int32) : Int32).toNatClampNeg]? = some (.int qi6) := Has.at H32 hin34 rfl
 have av35 := A31_
 obtain ⟨cl35, Ar35, q35, S35, N35, H35, Gf35⟩ := av35
 have hin36 : ¬ ((2 : Int32) < 0 ∨ cl35.slots.size ≤ ((2 : Int32) : Int32).toNatClampNeg) := inb_of S35 (by decide)
 obtain ⟨T36, h36, X36, e36, W36, st36⟩ := stC X28 hx hZ e28 Ar35 (j := (2 : Int32)) hin36 (g := (mkF m 168 #[rv qa1, iv qi2] [.int qi6, .int 2, .ref b11, .ref b11, .ref b7, .ref b7])) rfl rfl (hb hby d0_168)
 have N36_ := Fr.snoc X36 N28_ g_b11
 have K37 := K29.wr W36 (Or.inr sz_b11)
 have A39_ : Arv Z h36 b11 c11 .char (5 : Int32) [.int qi4, .int qi5, .int qi6, .int 0, .int 0] (.int 0) := by have q := Arv.set (v := .int (nar .char qi6)) Ar35 q35 S35 N35 H35 Gf35 (fits_nar_char _) W36 2 (by decide) (lE rfl); rw [((own_nar_lat hl38) : nar .char qi6 = qi6)] at q; exact q
 have A41_ := A33_.other W36 (Nat.ne_of_lt (Nat.lt_of_lt_of_le (Nat.lt_of_lt_of_le A_qa1.lt E7.1) (Nat.le_of_eq g11.symm)))
 have av40 := A41_
 obtain ⟨cl40, Ar40, q40, S40, N40, H40, Gf40⟩ := av40
 have hin42 : ¬ ((3 : Int32) < 0 ∨ cl40.slots.size ≤ ((3 : Int32) : Int32).toNatClampNeg) := inb_of S40 (by decide)
 have hat42 : cl40.slots[((3 : Int32) : Int32).toNatClampNeg]? = some (.int qi7) := Has.at H40 hin42 rfl
 have av43 := A39_
 obtain ⟨cl43, Ar43, q43, S43, N43, H43, Gf43⟩ := av43
 have hin44 : ¬ ((3 : Int32) < 0 ∨ cl43.slots.size ≤ ((3 : Int32) : Int32).toNatClampNeg) := inb_of S43 (by decide)
 obtain ⟨T44, h44, X44, e44, W44, st44⟩ := stC X36 hx hZ e36 Ar43 (j := (3 : Int32)) hin44 (g := (mkF m 174 #[rv qa1, iv qi2] [.int qi7, .int 3, .ref b11, .ref b11, .ref b7, .ref b7])) rfl rfl (hb hby d0_174)
 have N44_ := Fr.snoc X44 N36_ g_b11
 have K45 := K37.wr W44 (Or.inr sz_b11)
 have A47_ : Arv Z h44 b11 c11 .char (5 : Int32) [.int qi4, .int qi5, .int qi6, .int qi7, .int 0] (.int 0) := by have q := Arv.set (v := .int (nar .char qi7)) Ar43 q43 S43 N43 H43 Gf43 (fits_nar_char _) W44 3 (by decide) (lE rfl); rw [((own_nar_lat hl46) : nar .char qi7 = qi7)] at q; exact q
 have A49_ := A41_.other W44 (Nat.ne_of_lt (Nat.lt_of_lt_of_le (Nat.lt_of_lt_of_le A_qa1.lt E7.1) (Nat.le_of_eq g11.symm)))
 have av48 := A49_
 obtain ⟨cl48, Ar48, q48, S48, N48, H48, Gf48⟩ := av48
 have hin50 : ¬ ((4 : Int32) < 0 ∨ cl48.slots.size ≤ ((4 : Int32) : Int32).toNatClampNeg) := inb_of S48 (by decide)
 have hat50 : cl48.slots[((4 : Int32) : Int32).toNatClampNeg]? = some (.int qi8) := Has.at H48 hin50 rfl
 have av51 := A47_
 obtain ⟨cl51, Ar51, q51, S51, N51, H51, Gf51⟩ := av51
 have hin52 : ¬ ((4 : Int32) < 0 ∨ cl51.slots.size ≤ ((4 : Int32) : Int32).toNatClampNeg) := inb_of S51 (by decide)
 obtain ⟨T52, h52, X52, e52, W52, st52⟩ := stC X44 hx hZ e44 Ar51 (j := (4 : Int32)) hin52 (g := (mkF m 180 #[rv qa1, iv qi2] [.int qi8, .int 4, .ref b11, .ref b11, .ref b7, .ref b7])) rfl rfl (hb hby d0_180)
 have N52_ := Fr.snoc X52 N44_ g_b11
 have K53 := K45.wr W52 (Or.inr sz_b11)
 have A55_ : Arv Z h52 b11 c11 .char (5 : Int32) [.int qi4, .int qi5, .int qi6, .int qi7, .int qi8] (.int 0) := by have q := Arv.set (v := .int (nar .char qi8)) Ar51 q51 S51 N51 H51 Gf51 (fits_nar_char _) W52 4 (by decide) (lE rfl); rw [((own_nar_lat hl54) : nar .char qi8 = qi8)] at q; exact q
 have hp57 : ∀ c ∈ ([qi4, qi5, qi6, qi7, qi8] : List Int32), ¬ c < 0 ∧ ¬ (255 : Int32) < c := (List.forall_mem_cons.mpr ⟨hl22, (List.forall_mem_cons.mpr ⟨hl30, (List.forall_mem_cons.mpr ⟨hl38, (List.forall_mem_cons.mpr ⟨hl46, (List.forall_mem_cons.mpr ⟨hl54, (fun _ q => nomatch q)⟩)⟩)⟩)⟩)⟩)
 have g_b7 : n0 ≤ b7 := Nat.le_trans (Nat.le_trans (Nat.le_of_eq X00.1.symm) X00.2.1) (Nat.le_of_eq g7.symm)
 have O63 := O20.ext E11
 have O64 := O63.wr W19 g_b11
 have O65 := O64.wr W28 g_b11
 have O66 := O65.wr W36 g_b11
 have O67 := O66.wr W44 g_b11
 have O68 := O67.wr W52 g_b11
 have E69_ := A7.ext E11
 have E70_ := E69_.wr W19
 have E71_ := E70_.wr W28
 have E72_ := E71_.wr W36
 have E73_ := E72_.wr W44
 have E74_ := E73_.wr W52
 have F75_ := F10_.ext E11
 have F76_ := F75_.other W19 (Or.inl (Nat.ne_of_lt (Nat.lt_of_lt_of_le A7.lt (Nat.le_of_eq g11.symm))))
 have F77_ := F76_.other W28 (Or.inl (Nat.ne_of_lt (Nat.lt_of_lt_of_le A7.lt (Nat.le_of_eq g11.symm))))
 have F78_ := F77_.other W36 (Or.inl (Nat.ne_of_lt (Nat.lt_of_lt_of_le A7.lt (Nat.le_of_eq g11.symm))))
 have F79_ := F78_.other W44 (Or.inl (Nat.ne_of_lt (Nat.lt_of_lt_of_le A7.lt (Nat.le_of_eq g11.symm))))
 have F80_ := F79_.other W52 (Or.inl (Nat.ne_of_lt (Nat.lt_of_lt_of_le A7.lt (Nat.le_of_eq g11.symm))))
 have F81_ := F9_.ext E11
 have F82_ := F81_.other W19 (Or.inl (Nat.ne_of_lt (Nat.lt_of_lt_of_le A7.lt (Nat.le_of_eq g11.symm))))
 have F83_ := F82_.other W28 (Or.inl (Nat.ne_of_lt (Nat.lt_of_lt_of_le A7.lt (Nat.le_of_eq g11.symm))))
 have F84_ := F83_.other W36 (Or.inl (Nat.ne_of_lt (Nat.lt_of_lt_of_le A7.lt (Nat.le_of_eq g11.symm))))
 have F85_ := F84_.other W44 (Or.inl (Nat.ne_of_lt (Nat.lt_of_lt_of_le A7.lt (Nat.le_of_eq g11.symm))))
 have F86_ := F85_.other W52 (Or.inl (Nat.ne_of_lt (Nat.lt_of_lt_of_le A7.lt (Nat.le_of_eq g11.symm))))
 obtain ⟨_, T56, L56, X56, hQ56, st56⟩ := own_cb 2 9 1 5 3 14 (X52.specialBack hx (y := Y1_) rfl hown (mvT hZ (w9_ hw)) (mvT hZ (w10_ hw)) (mvT hZ (w11_ hw)) (by decide) (StrChars.Road.backV (W := 1) hZ (own_ws hw) (kI := 4) (w7_ hw) (cs := ([qi4, qi5, qi6, qi7, qi8] : List Int32)) (bs := ([qi4, qi5, qi6, qi7, qi8] : List Int32).map (fun c => c.toInt8.toInt32)) (n := 5) g_b7 (Nat.le_trans (Nat.le_of_eq O68.1.symm) O68.2.1) E74_ F80_ F86_ A55_ (O2.ext O68.2) P5 rfl rfl (lE rfl) (lE rfl) hp57 rfl (lE rfl) (lE rfl)) (g := (mkF m 181 #[rv qa1, iv qi2] [.ref b11, .ref b7, .ref b7])) rfl hml.symm (Steps.refl _) (a := b7) (argsL := [.ref b11]) (rest := [.ref b7]) (lenOf pd1 rfl) rfl (own_hw rfl) (hb hby d0_181) (fun _ _ => ⟨rfl, e52, (lE rfl : 2 + 1 ≤ _), (lE rfl : 9 + 5 ≤ _)⟩)) rfl rfl
 obtain ⟨rfl, N56q, K56q, E56q, C56q, b87, c87_, u87, g87, ne87, V87_, A87_⟩ := hQ56
 have N56 := Fr.app N52_ N56q
 have sz_b7 : h0.size ≤ b7 := (Nat.le_of_eq g7.symm)
 have K88 := K53.trans K56q (allS (Or.inr sz_b7) all0)
 have sz_b87 : h0.size ≤ b87 := Nat.le_trans K53.1 g87
 have E89_ := E74_.keep K56q
 refine own_lvF X56 Bd (.ref b7) rfl ⟨b7, b87, c87_, rfl, N56, K88, sz_b7, sz_b87, (Ne.symm ne87), E89_, C56q, V87_, A87_⟩ rfl (fun fs hr => pre0 _ (by
  show Sx p e below s₁ m 0 #[rv qa1, iv qi2] [] _
  refine zj X0 Bd d0_0 rfl ?_
  refine zp (pc' := 15) X0 Bd d0_1 (XT.i0_ne_t (hc1 : ¬ (qi2 = (0 : Int32)))) rfl ?_
  refine zj X0 Bd d0_15 rfl ?_
  refine zc X0 Bd d0_16 ?_
  refine zy (pc' := 37) X0 Bd d0_17 (XT.ii_ne_t (hc2 : ¬ (qi2 = (1 : Int32)))) rfl ?_
  refine zj X0 Bd d0_37 rfl ?_
  refine zc X0 Bd d0_38 ?_
  refine zy (pc' := 65) X0 Bd d0_39 (XT.ii_ne_t (hc3 : ¬ (qi2 = (2 : Int32)))) rfl ?_
  refine zj X0 Bd d0_65 rfl ?_
  refine zc X0 Bd d0_66 ?_
  refine zy (pc' := 99) X0 Bd d0_67 (XT.ii_ne_t (hc4 : ¬ (qi2 = (3 : Int32)))) rfl ?_
  refine zj X0 Bd d0_99 rfl ?_
  refine zc X0 Bd d0_100 ?_
  refine zy (pc' := 139) X0 Bd d0_101 (XT.ii_ne_t (hc5 : ¬ (qi2 = (4 : Int32)))) rfl ?_
  refine zj X0 Bd d0_139 rfl ?_
  refine zc X0 Bd d0_140 ?_
  refine zn X0 Bd d0_141 (XT.ii_ne_f (hc6 : qi2 = (5 : Int32))) ?_
  refine st7 _ ?_
  refine XS.dup X7.here hx rfl (hb hby d0_147) rfl rfl ?_
  refine zc X7 Bd d0_148 ?_
  refine st11 _ ?_
  refine XS.dup X11.here hx rfl (hb hby d0_151) rfl rfl ?_
  refine zc X11 Bd d0_152 ?_
  refine zb X11 Bd d0_153 rfl rfl ?_
  refine zc X11 Bd d0_154 ?_
  show Sx p e below T11 m 155 #[rv qa1, iv qi2] [.int 0, .ref qa1, .int 0, .ref b11, .ref b11, .ref b7, .ref b7] _
  refine X11.caload hx (j := (0 : Int32)) (v := (.int qi4)) (by rw [e11]; exact Ar14.1) (State.isArrayOf_alike hZ.alike Ar14.2.1) Ar14.2.2 hin17 hat17 (g := (mkF m 155 #[rv qa1, iv qi2] [.int 0, .ref qa1, .int 0, .ref b11, .ref b11, .ref b7, .ref b7])) rfl rfl (hb hby d0_155) _ ?_
  refine st19 _ ?_
  refine XS.dup X19.here hx rfl (hb hby d0_157) rfl rfl ?_
  refine zc X19 Bd d0_158 ?_
  refine zb X19 Bd d0_159 rfl rfl ?_
  refine zc X19 Bd d0_160 ?_
  refine X19.caload hx (j := (1 : Int32)) (v := (.int qi5)) (by rw [e19]; exact Ar24.1) (State.isArrayOf_alike hZ.alike Ar24.2.1) Ar24.2.2 hin26 hat26 (g := (mkF m 161 #[rv qa1, iv qi2] [.int 1, .ref qa1, .int 1, .ref b11, .ref b11, .ref b7, .ref b7])) rfl rfl (hb hby d0_161) _ ?_
  refine st28 _ ?_
  refine XS.dup X28.here hx rfl (hb hby d0_163) rfl rfl ?_
  refine zc X28 Bd d0_164 ?_
  refine zb X28 Bd d0_165 rfl rfl ?_
  refine zc X28 Bd d0_166 ?_
  refine X28.caload hx (j := (2 : Int32)) (v := (.int qi6)) (by rw [e28]; exact Ar32.1) (State.isArrayOf_alike hZ.alike Ar32.2.1) Ar32.2.2 hin34 hat34 (g := (mkF m 167 #[rv qa1, iv qi2] [.int 2, .ref qa1, .int 2, .ref b11, .ref b11, .ref b7, .ref b7])) rfl rfl (hb hby d0_167) _ ?_
  refine st36 _ ?_
  refine XS.dup X36.here hx rfl (hb hby d0_169) rfl rfl ?_
  refine zc X36 Bd d0_170 ?_
  refine zb X36 Bd d0_171 rfl rfl ?_
  refine zc X36 Bd d0_172 ?_
  refine X36.caload hx (j := (3 : Int32)) (v := (.int qi7)) (by rw [e36]; exact Ar40.1) (State.isArrayOf_alike hZ.alike Ar40.2.1) Ar40.2.2 hin42 hat42 (g := (mkF m 173 #[rv qa1, iv qi2] [.int 3, .ref qa1, .int 3, .ref b11, .ref b11, .ref b7, .ref b7])) rfl rfl (hb hby d0_173) _ ?_
  refine st44 _ ?_
  refine XS.dup X44.here hx rfl (hb hby d0_175) rfl rfl ?_
  refine zc X44 Bd d0_176 ?_
  refine zb X44 Bd d0_177 rfl rfl ?_
  refine zc X44 Bd d0_178 ?_
  refine X44.caload hx (j := (4 : Int32)) (v := (.int qi8)) (by rw [e44]; exact Ar48.1) (State.isArrayOf_alike hZ.alike Ar48.2.1) Ar48.2.2 hin50 hat50 (g := (mkF m 179 #[rv qa1, iv qi2] [.int 4, .ref qa1, .int 4, .ref b11, .ref b11, .ref b7, .ref b7])) rfl rfl (hb hby d0_179) _ ?_
  show Sx p e below T44 m 180 #[rv qa1, iv qi2] [.int qi8, .int 4, .ref b11, .ref b11, .ref b7, .ref b7] _
  refine st52 _ ?_
  refine st56.trans ?_
  exact retOut X56 hx Bd.returns rfl (Or.inr (Or.inr (Or.inr (Or.inr ⟨rfl, rfl, rfl⟩)))) (hb hby d0_184) hr))
-- com/example/hearthline/hearthline/session/SpecialValueOfPinLaw.ref(Ljava/lang/String;)Lcom/example/hearthline/hearthline/session/Session$Measurement$SpecialValue;
def Q16 (Z : State) (Gg0 : Addr) (Gg2 : Addr) (Gg3 : Addr) (Gg4 : Addr) (Gg5 : Addr) (qi3 : Int32) (qi4 : Int32) (qi5 : Int32) (qi6 : Int32) (qi7 : Int32) (h0 : Heap) (n0 : Nat) (v : Option Value) (h : Heap) (L : List Loc) : Prop := v = some (own_sv Gg0 Gg2 Gg3 Gg4 Gg5 ([qi3, qi4, qi5, qi6, qi7] : List Int32)) ∧ Fr n0 L ∧ h = h0
theorem rm16 (l : Launch) (Z : State) (a0 : Array Value) (hw : HW a0 Z) (G1 : Int32) (Gg0 : Addr) (Gg1 : Addr) (Gg2 : Addr) (Gg3 : Addr) (Gg4 : Addr) (Gg5 : Addr) (Gg6 : Addr) (Gg7 : Addr) (Gg8 : Addr) (Gg9 : Addr) (Gg10 : Addr) (Gg11 : Addr) (Gg12 : Addr) (Gg13 : Addr) (Gg14 : Addr) (Gg15 : Addr) (Kg16 : ClassId) (Kg17 : ClassId) (Kg18 : ClassId) (Kg19 : ClassId) (Kg20 : ClassId) (Kg21 : ClassId) (qa1 : Addr) (qa2 : Addr) (qi3 : Int32) (qi4 : Int32) (qi5 : Int32) (qi6 : Int32) (qi7 : Int32) (qk8 : ClassId) (h0 : Heap) (n0 : Nat) (X00 : Old Z n0 h0) (O2 : Sta Z Z.heap "java/lang/String" "COMPACT_STRINGS" "Z" (.int G1)) (P5 : ¬ (G1 = (0 : Int32))) (hEN : OwnEN Z Gg0 Gg1 Gg2 Gg3 Gg4 Gg5 Gg6 Gg7 Gg8 Gg9 Gg10 Gg11 Gg12 Gg13 Gg14 Gg15 Kg16 Kg17 Kg18 Kg19 Kg20 Kg21) (E_qa1 : Exa Z h0 qa1 "java/lang/String") (F_qa1_coder : Fld Z h0 qa1 "java/lang/String" "coder" "B" (.int 0)) (F_qa1_value : Fld Z h0 qa1 "java/lang/String" "value" "[B" (.ref qa2)) (hp_qa1 : ∀ c ∈ ([qi3, qi4, qi5, qi6, qi7] : List Int32), ¬ c < 0 ∧ ¬ (255 : Int32) < c) (A_qa2 : Arv Z h0 qa2 qk8 .byte (5 : Int32) ((([qi3, qi4, qi5, qi6, qi7] : List Int32).map (fun c => c.toInt8.toInt32)).map Value.int) (.int 0)) :
    MF l Z Y3_ method_4_code 3 (some (.object "com/example/hearthline/hearthline/session/Session$Measurement$SpecialValue")) (Rm 2 0 0 25) #[.ref qa1] h0 (Q16 Z Gg0 Gg2 Gg3 Gg4 Gg5 qi3 qi4 qi5 qi6 qi7 h0 n0) := by
 refine own_sF pn0 rfl (fun m => ef4 m qa1) ?_
 intro p e s m below meth c s₁ Bd hZ hh hx hby hml hown hnm X0 e0 pre0
 have N0 := Fr.nil n0
 have hcd2 : StrChars.Road.CodA ([qi3, qi4, qi5, qi6, qi7] : List Int32) 0 (5 : Int32) ((([qi3, qi4, qi5, qi6, qi7] : List Int32).map (fun c => c.toInt8.toInt32)).map Value.int) := StrChars.Road.codOf (n := 5) rfl (fun x hx => (hp_qa1 x hx).2)
 have hbd2 : ∀ x ∈ ([qi3, qi4, qi5, qi6, qi7] : List Int32), ¬ x < 0 ∧ ¬ (65535 : Int32) < x := own_up _ hp_qa1
 obtain ⟨cq1, kq1, q1a, q1b, q1c⟩ := isOf hZ e0 E_qa1
 obtain ⟨_, T1, L1, X1, hQ1, st1⟩ := own_cb0 0 0 0 0 0 0 (X0.virtualBack hx (y := Y4_) (z := Y4_) hown (mvT hZ (w38_ hw)) (mvT hZ (w39_ hw)) (notFace_of_selects (args := #[]) (mvT hZ (w41_ hw))) (mvT hZ (w41_ hw)) (mvT hZ (w40_ hw)) (by decide) (StrChars.Road.lenW (W := 0) hZ (own_wl hw) (kI := 4) (w7_ hw) E_qa1 F_qa1_value F_qa1_coder A_qa2 hcd2 hbd2 (O2.ext X00.2) P5 (lE rfl) (lE rfl) (lE rfl)) q1a q1c (g := (mkF m 1 #[rv qa1, .unset, .unset] [.ref qa1])) rfl hml.symm (Steps.refl _) (argsL := []) (rest := []) (lenOf pd3 rfl) rfl (own_hw rfl) (hb hby d3_1) (fun _ _ => ⟨rfl, e0, (lE rfl : 0 + 0 ≤ _), (lE rfl : 0 + 0 ≤ _)⟩)) rfl rfl
 dsimp only [Pt.U, Pt.locs, Pt.cells, Pt.slots] at hQ1
 obtain ⟨rfl, rfl, e1q⟩ := hQ1
 have N1 := Fr.app N0 (Fr.nil n0)
 refine own_lvF X1 Bd .null e1q ⟨(by simp [own_sv]), N1, rfl⟩ rfl (fun fs hr => pre0 _ (by
  show Sx p e below s₁ m 0 #[rv qa1, .unset, .unset] [] _
  refine zb X0 Bd d3_0 rfl rfl ?_
  refine st1.trans ?_
  refine zt X1 Bd d3_4 (l' := #[rv qa1, iv 5, .unset]) rfl ?_
  refine zj X1 Bd d3_5 rfl ?_
  refine zc X1 Bd d3_6 ?_
  refine zy (pc' := 46) X1 Bd d3_7 (XT.ii_ne_t ((by decide) : ¬ ((5 : Int32) = (3 : Int32)))) rfl ?_
  refine zj X1 Bd d3_46 rfl ?_
  refine zc X1 Bd d3_47 ?_
  refine zy (pc' := 151) X1 Bd d3_48 (XT.ii_ne_t ((by decide) : ¬ ((5 : Int32) = (4 : Int32)))) rfl ?_
  refine zj X1 Bd d3_151 rfl ?_
  refine zd X1 Bd d3_152 ?_
  refine zy (pc' := 245) X1 Bd d3_154 (XT.ii_ne_t ((by decide) : ¬ ((5 : Int32) = (8 : Int32)))) rfl ?_
  refine XS.aconstNull X1.here hx rfl (hb hby d3_245) ?_
  exact retOut X1 hx Bd.returns rfl (Or.inr (Or.inr (Or.inr (Or.inr ⟨rfl, rfl, rfl⟩)))) (hb hby d3_246) hr))
theorem d0_185 : decode method_3_code 185 = .ok (.iload_n 1, 1) := by decide +kernel
theorem d0_186 : decode method_3_code 186 = .ok (.bipush 6, 2) := by decide +kernel
theorem d0_188 : decode method_3_code 188 = .ok (.if_icmp .ne 51, 3) := by decide +kernel
theorem d0_191 : decode method_3_code 191 = .ok (.new 23, 3) := by decide +kernel
theorem d0_194 : decode method_3_code 194 = .ok (.dup, 1) := by decide +kernel
theorem d0_195 : decode method_3_code 195 = .ok (.bipush 6, 2) := by decide +kernel
theorem d0_197 : decode method_3_code 197 = .ok (.newarray .char, 2) := by decide +kernel
theorem d0_199 : decode method_3_code 199 = .ok (.dup, 1) := by decide +kernel
theorem d0_200 : decode method_3_code 200 = .ok (.iconst 0, 1) := by decide +kernel
theorem d0_201 : decode method_3_code 201 = .ok (.aload_n 0, 1) := by decide +kernel
theorem d0_202 : decode method_3_code 202 = .ok (.iconst 0, 1) := by decide +kernel
theorem d0_203 : decode method_3_code 203 = .ok (.caload, 1) := by decide +kernel
theorem d0_204 : decode method_3_code 204 = .ok (.castore, 1) := by decide +kernel
theorem d0_205 : decode method_3_code 205 = .ok (.dup, 1) := by decide +kernel
theorem d0_206 : decode method_3_code 206 = .ok (.iconst 1, 1) := by decide +kernel
theorem d0_207 : decode method_3_code 207 = .ok (.aload_n 0, 1) := by decide +kernel
theorem d0_208 : decode method_3_code 208 = .ok (.iconst 1, 1) := by decide +kernel
theorem d0_209 : decode method_3_code 209 = .ok (.caload, 1) := by decide +kernel
theorem d0_210 : decode method_3_code 210 = .ok (.castore, 1) := by decide +kernel
theorem d0_211 : decode method_3_code 211 = .ok (.dup, 1) := by decide +kernel
theorem d0_212 : decode method_3_code 212 = .ok (.iconst 2, 1) := by decide +kernel
theorem d0_213 : decode method_3_code 213 = .ok (.aload_n 0, 1) := by decide +kernel
theorem d0_214 : decode method_3_code 214 = .ok (.iconst 2, 1) := by decide +kernel
theorem d0_215 : decode method_3_code 215 = .ok (.caload, 1) := by decide +kernel
theorem d0_216 : decode method_3_code 216 = .ok (.castore, 1) := by decide +kernel
theorem d0_217 : decode method_3_code 217 = .ok (.dup, 1) := by decide +kernel
theorem d0_218 : decode method_3_code 218 = .ok (.iconst 3, 1) := by decide +kernel
theorem d0_219 : decode method_3_code 219 = .ok (.aload_n 0, 1) := by decide +kernel
theorem d0_220 : decode method_3_code 220 = .ok (.iconst 3, 1) := by decide +kernel
theorem d0_221 : decode method_3_code 221 = .ok (.caload, 1) := by decide +kernel
theorem d0_222 : decode method_3_code 222 = .ok (.castore, 1) := by decide +kernel
theorem d0_223 : decode method_3_code 223 = .ok (.dup, 1) := by decide +kernel
theorem d0_224 : decode method_3_code 224 = .ok (.iconst 4, 1) := by decide +kernel
theorem d0_225 : decode method_3_code 225 = .ok (.aload_n 0, 1) := by decide +kernel
theorem d0_226 : decode method_3_code 226 = .ok (.iconst 4, 1) := by decide +kernel
theorem d0_227 : decode method_3_code 227 = .ok (.caload, 1) := by decide +kernel
theorem d0_228 : decode method_3_code 228 = .ok (.castore, 1) := by decide +kernel
theorem d0_229 : decode method_3_code 229 = .ok (.dup, 1) := by decide +kernel
theorem d0_230 : decode method_3_code 230 = .ok (.iconst 5, 1) := by decide +kernel
theorem d0_231 : decode method_3_code 231 = .ok (.aload_n 0, 1) := by decide +kernel
theorem d0_232 : decode method_3_code 232 = .ok (.iconst 5, 1) := by decide +kernel
theorem d0_233 : decode method_3_code 233 = .ok (.caload, 1) := by decide +kernel
theorem d0_234 : decode method_3_code 234 = .ok (.castore, 1) := by decide +kernel
theorem d0_235 : decode method_3_code 235 = .ok (.invokespecial 25, 3) := by decide +kernel
theorem d0_238 : decode method_3_code 238 = .ok (.areturn, 1) := by decide +kernel
-- com/example/hearthline/hearthline/session/SpecialValueOfPinLaw.str([CI)Ljava/lang/String;
def Q17 (Z : State) (qi4 : Int32) (qi5 : Int32) (qi6 : Int32) (qi7 : Int32) (qi8 : Int32) (qi9 : Int32) (h0 : Heap) (n0 : Nat) (v : Option Value) (h : Heap) (L : List Loc) : Prop := ∃ b8 : Addr, ∃ b101 : Addr, ∃ c101_ : ClassId, v = some (.ref b8) ∧ Fr n0 L ∧ Keep h0 h [] ∧ h0.size ≤ b8 ∧ h0.size ≤ b101 ∧ b8 ≠ b101 ∧ Exa Z h b8 "java/lang/String" ∧ Fld Z h b8 "java/lang/String" "coder" "B" (.int 0) ∧ Fld Z h b8 "java/lang/String" "value" "[B" (.ref b101) ∧ Arv Z h b101 c101_ .byte (6 : Int32) ((([qi4, qi5, qi6, qi7, qi8, qi9] : List Int32).map (fun c => c.toInt8.toInt32)).map Value.int) (.int 0)
theorem rm17 (l : Launch) (Z : State) (a0 : Array Value) (hw : HW a0 Z) (G1 : Int32) (qa1 : Addr) (qi2 : Int32) (qk3 : ClassId) (qi4 : Int32) (qi5 : Int32) (qi6 : Int32) (qi7 : Int32) (qi8 : Int32) (qi9 : Int32) (qi10 : Int32) (qi11 : Int32) (h0 : Heap) (n0 : Nat) (X00 : Old Z n0 h0) (O2 : Sta Z Z.heap "java/lang/String" "COMPACT_STRINGS" "Z" (.int G1)) (P5 : ¬ (G1 = (0 : Int32))) (hc1 : ¬ (qi2 = (0 : Int32))) (hc2 : ¬ (qi2 = (1 : Int32))) (hc3 : ¬ (qi2 = (2 : Int32))) (hc4 : ¬ (qi2 = (3 : Int32))) (hc5 : ¬ (qi2 = (4 : Int32))) (hc6 : ¬ (qi2 = (5 : Int32))) (hc7 : qi2 = (6 : Int32)) (A_qa1 : Arv Z h0 qa1 qk3 .char (8 : Int32) [.int qi4, .int qi5, .int qi6, .int qi7, .int qi8, .int qi9, .int qi10, .int qi11] (.int 0)) (hl23 : ¬ qi4 < 0 ∧ ¬ (255 : Int32) < qi4) (hl31 : ¬ qi5 < 0 ∧ ¬ (255 : Int32) < qi5) (hl39 : ¬ qi6 < 0 ∧ ¬ (255 : Int32) < qi6) (hl47 : ¬ qi7 < 0 ∧ ¬ (255 : Int32) < qi7) (hl55 : ¬ qi8 < 0 ∧ ¬ (255 : Int32) < qi8) (hl63 : ¬ qi9 < 0 ∧ ¬ (255 : Int32) < qi9) :
    MF l Z Y2_ method_3_code 2 (some (.object "java/lang/String")) (Rm 4 3 16 66) #[.ref qa1, .int qi2] h0 (Q17 Z qi4 qi5 qi6 qi7 qi8 qi9 h0 n0) := by
 refine own_sF pn0 rfl (fun m => ef1 m qa1 qi2) ?_
 intro p e s m below meth c s₁ Bd hZ hh hx hby hml hown hnm X0 e0 pre0
 have N0 := Fr.nil n0
 obtain ⟨T8, h8, X8, e8, E8, A8, D8, -, st8⟩ := newO X0 hx hZ hown (w6_ hw) (w7_ hw) (w8_ hw) e0 (g := (mkF m 191 #[rv qa1, iv qi2] [])) rfl (hb hby d0_191) (lE rfl) (lE rfl)
 obtain ⟨b8, g8⟩ : ∃ z, z = h0.size := ⟨_, rfl⟩
 rw [← g8] at A8 D8 st8
 replace X8 : Stand p l e (Rm 4 3 16 66) s m #[.ref qa1, .int qi2] below meth c T8 _ 1 4 := X8
 have K9 := (Keep.refl h0 []).ext E8
 have F10_ : Fld Z h8 b8 "java/lang/String" "coder" "B" (.int 0) := D8 (Or.inr (w32_ hw)) (ty := .byte) (by decide)
 have F11_ : Fld Z h8 b8 "java/lang/String" "value" "[B" .null := D8 (Or.inr (w34_ hw)) (ty := (.array .byte)) (by decide)
 obtain ⟨T12, h12, c12, X12, e12, E12, A12, st12⟩ := newP (aty := .char) X8 hx hZ (w1_ hw) e8 (g := (mkF m 197 #[rv qa1, iv qi2] [.int 6, .ref b8, .ref b8])) rfl (hb hby d0_197) rfl (by decide) (cap := 6) (by decide) (lE rfl) (lE rfl) (lE rfl)
 obtain ⟨b12, g12⟩ : ∃ z, z = h8.size := ⟨_, rfl⟩
 rw [← g12] at A12 st12
 replace X12 : Stand p l e (Rm 4 3 16 66) s m #[.ref qa1, .int qi2] below meth c T12 _ 2 10 := X12
 have K13 := K9.ext E12
 have A14_ : Arv Z h12 b12 c12 .char (6 : Int32) [.int 0, .int 0, .int 0, .int 0, .int 0, .int 0] (.int 0) := (Arv.new A12 (by decide)).pad (pad_rep [] (.int 0) 6)
 have A16_ := A_qa1.ext E8
 have A17_ := A16_.ext E12
 have av15 := A17_
 obtain ⟨cl15, Ar15, q15, S15, N15, H15, Gf15⟩ := av15
 have hin18 : ¬ ((0 : Int32) < 0 ∨ cl15.slots.size ≤ ((0 : Int32) : Int32).toNatClampNeg) := inb_of S15 (by decide)
 have hat18 : cl15.slots[((0 : Int32) : Int32).toNatClampNeg]? = some (.int qi4) := Has.at H15 hin18 rfl
 have av19 := A14_
 obtain ⟨cl19, Ar19, q19, S19, N19, H19, Gf19⟩ := av19
 have hin20 : ¬ ((0 : Int32) < 0 ∨ cl19.slots.size ≤ ((0 : Int32) : Int32).toNatClampNeg) := inb_of S19 (by decide)
 obtain ⟨T20, h20, X20, e20, W20, st20⟩ := stC X12 hx hZ e12 Ar19 (j := (0 : Int32)) hin20 (g := (mkF m 204 #[rv qa1, iv qi2] [.int qi4, .int 0, .ref b12, .ref b12, .ref b8, .ref b8])) rfl rfl (hb hby d0_204)
 have O21 := X00.ext E8
 have g_b12 : n0 ≤ b12 := Nat.le_trans (Nat.le_trans (Nat.le_of_eq O21.1.symm) O21.2.1) (Nat.le_of_eq g12.symm)
 have N20_ := Fr.snoc X20 N0 g_b12
 have sz_b12 : h0.size ≤ b12 := Nat.le_trans K9.1 (Nat.le_of_eq g12.symm)
 have K22 := K13.wr W20 (Or.inr sz_b12)
 have A24_ : Arv Z h20 b12 c12 .char (6 : Int32) [.int qi4, .int 0, .int 0, .int 0, .int 0, .int 0] (.int 0) := by have q := Arv.set (v := .int (nar .char qi4)) Ar19 q19 S19 N19 H19 Gf19 (fits_nar_char _) W20 0 (by decide) (lE rfl); rw [((own_nar_lat hl23) : nar .char qi4 = qi4)] at q; exact q
 have A26_ := A17_.other W20 (Nat.ne_of_lt (Nat.lt_of_lt_of_le (Nat.lt_of_lt_of_le A_qa1.lt E8.1) (Nat.le_of_eq g12.symm)))
 have av25 := A26_
 obtain ⟨cl25, Ar25, q25, S25, N25, H25, Gf25⟩ := av25
 have hin27 : ¬ ((1 : Int32) < 0 ∨ cl25.slots.size ≤ ((1 : Int32) : Int32).toNatClampNeg) := inb_of S25 (by decide)
 have hat27 : cl25.slots[((1 : Int32) : Int32).toNatClampNeg]? = some (.int qi5) := Has.at H25 hin27 rfl
 have av28 := A24_
 obtain ⟨cl28, Ar28, q28, S28, N28, H28, Gf28⟩ := av28
 have hin29 : ¬ ((1 : Int32) < 0 ∨ cl28.slots.size ≤ ((1 : Int32) : Int32).toNatClampNeg) := inb_of S28 (by decide)
 obtain ⟨T29, h29, X29, e29, W29, st29⟩ := stC X20 hx hZ e20 Ar28 (j := (1 : Int32)) hin29 (g := (mkF m 210 #[rv qa1, iv qi2] [.int qi5, .int 1, .ref b12, .ref b12, .ref b8, .ref b8])) rfl rfl (hb hby d0_210)
 have N29_ := Fr.snoc X29 N20_ g_b12
 have K30 := K22.wr W29 (Or.inr sz_b12)
 have A32_ : Arv Z h29 b12 c12 .char (6 : Int32) [.int qi4, .int qi5, .int 0, .int 0, .int 0, .int 0] (.int 0) := by have q := Arv.set (v := .int (nar .char qi5)) Ar28 q28 S28 N28 H28 Gf28 (fits_nar_char _) W29 1 (by decide) (lE rfl); rw [((own_nar_lat hl31) : nar .char qi5 = qi5)] at q; exact q
 have A34_ := A26_.other W29 (Nat.ne_of_lt (Nat.lt_of_lt_of_le (Nat.lt_of_lt_of_le A_qa1.lt E8.1) (Nat.le_of_eq g12.symm)))
 have av33 := A34_
 obtain ⟨cl33, Ar33, q33, S33, N33, H33, Gf33⟩ := av33
 have hin35 : ¬ ((2 : Int32) < 0 ∨ cl33.slots.size ≤ ((2 : Int32) : Int32).toNatClampNeg) := inb_of S33 (by decide)
 have hat35 : cl33.slots[((2 : Int32) : Int32).toNatClampNeg]? = some (.int qi6) := Has.at H33 hin35 rfl
 have av36 := A32_
 obtain ⟨cl36, Ar36, q36, S36, N36, H36, Gf36⟩ := av36
 have hin37 : ¬ ((2 : Int32) < 0 ∨ cl36.slots.size ≤ ((2 : Int32) : Int32).toNatClampNeg) := inb_of S36 (by decide)
 obtain ⟨T37, h37, X37, e37, W37, st37⟩ := stC X29 hx hZ e29 Ar36 (j := (2 : Int32)) hin37 (g := (mkF m 216 #[rv qa1, iv qi2] [.int qi6, .int 2, .ref b12, .ref b12, .ref b8, .ref b8])) rfl rfl (hb hby d0_216)
 have N37_ := Fr.snoc X37 N29_ g_b12
 have K38 := K30.wr W37 (Or.inr sz_b12)
 have A40_ : Arv Z h37 b12 c12 .char (6 : Int32) [.int qi4, .int qi5, .int qi6, .int 0, .int 0, .int 0] (.int 0) := by have q := Arv.set (v := .int (nar .char qi6)) Ar36 q36 S36 N36 H36 Gf36 (fits_nar_char _) W37 2 (by decide) (lE rfl); rw [((own_nar_lat hl39) : nar .char qi6 = qi6)] at q; exact q
 have A42_ := A34_.other W37 (Nat.ne_of_lt (Nat.lt_of_lt_of_le (Nat.lt_of_lt_of_le A_qa1.lt E8.1) (Nat.le_of_eq g12.symm)))
 have av41 := A42_
 obtain ⟨cl41, Ar41, q41, S41, N41, H41, Gf41⟩ := av41
 have hin43 : ¬ ((3 : Int32) < 0 ∨ cl41.slots.size ≤ ((3 : Int32) : Int32).toNatClampNeg) := inb_of S41 (by decide)
 have hat43 : cl41.slots[((3 : Int32) : Int32).toNatClampNeg]? = some (.int qi7) := Has.at H41 hin43 rfl
 have av44 := A40_
 obtain ⟨cl44, Ar44, q44, S44, N44, H44, Gf44⟩ := av44
 have hin45 : ¬ ((3 : Int32) < 0 ∨ cl44.slots.size ≤ ((3 : Int32) : Int32).toNatClampNeg) := inb_of S44 (by decide)
 obtain ⟨T45, h45, X45, e45, W45, st45⟩ := stC X37 hx hZ e37 Ar44 (j := (3 : Int32)) hin45 (g := (mkF m 222 #[rv qa1, iv qi2] [.int qi7, .int 3, .ref b12, .ref b12, .ref b8, .ref b8])) rfl rfl (hb hby d0_222)
 have N45_ := Fr.snoc X45 N37_ g_b12
 have K46 := K38.wr W45 (Or.inr sz_b12)
 have A48_ : Arv Z h45 b12 c12 .char (6 : Int32) [.int qi4, .int qi5, .int qi6, .int qi7, .int 0, .int 0] (.int 0) := by have q := Arv.set (v := .int (nar .char qi7)) Ar44 q44 S44 N44 H44 Gf44 (fits_nar_char _) W45 3 (by decide) (lE rfl); rw [((own_nar_lat hl47) : nar .char qi7 = qi7)] at q; exact q
 have A50_ := A42_.other W45 (Nat.ne_of_lt (Nat.lt_of_lt_of_le (Nat.lt_of_lt_of_le A_qa1.lt E8.1) (Nat.le_of_eq g12.symm)))
 have av49 := A50_
 obtain ⟨cl49, Ar49, q49, S49, N49, H49, Gf49⟩ := av49
 have hin51 : ¬ ((4 : Int32) < 0 ∨ cl49.slots.size ≤ ((4 : Int32) : Int32).toNatClampNeg) := inb_of S49 (by decide)
 have hat51 : cl49.slots[((4 : Int32) : Int32).toNatClampNeg]? = some (.int qi8) := Has.at H49 hin51 rfl
 have av52 := A48_
 obtain ⟨cl52, Ar52, q52, S52, N52, H52, Gf52⟩ := av52
 have hin53 : ¬ ((4 : Int32) < 0 ∨ cl52.slots.size ≤ ((4 : Int32) : Int32).toNatClampNeg) := inb_of S52 (by decide)
 obtain ⟨T53, h53, X53, e53, W53, st53⟩ := stC X45 hx hZ e45 Ar52 (j := (4 : Int32)) hin53 (g := (mkF m 228 #[rv qa1, iv qi2] [.int qi8, .int 4, .ref b12, .ref b12, .ref b8, .ref b8])) rfl rfl (hb hby d0_228)
 have N53_ := Fr.snoc X53 N45_ g_b12
 have K54 := K46.wr W53 (Or.inr sz_b12)
 have A56_ : Arv Z h53 b12 c12 .char (6 : Int32) [.int qi4, .int qi5, .int qi6, .int qi7, .int qi8, .int 0] (.int 0) := by have q := Arv.set (v := .int (nar .char qi8)) Ar52 q52 S52 N52 H52 Gf52 (fits_nar_char _) W53 4 (by decide) (lE rfl); rw [((own_nar_lat hl55) : nar .char qi8 = qi8)] at q; exact q
 have A58_ := A50_.other W53 (Nat.ne_of_lt (Nat.lt_of_lt_of_le (Nat.lt_of_lt_of_le A_qa1.lt E8.1) (Nat.le_of_eq g12.symm)))
 have av57 := A58_
 obtain ⟨cl57, Ar57, q57, S57, N57, H57, Gf57⟩ := av57
 have hin59 : ¬ ((5 : Int32) < 0 ∨ cl57.slots.size ≤ ((5 : Int32) : Int32).toNatClampNeg) := inb_of S57 (by decide)
 have hat59 : cl57.slots[((5 : Int32) : Int32).toNatClampNeg]? = some (.int qi9) := Has.at H57 hin59 rfl
 have av60 := A56_
 obtain ⟨cl60, Ar60, q60, S60, N60, H60, Gf60⟩ := av60
 have hin61 : ¬ ((5 : Int32) < 0 ∨ cl60.slots.size ≤ ((5 : Int32) : Int32).toNatClampNeg) := inb_of S60 (by decide)
 obtain ⟨T61, h61, X61, e61, W61, st61⟩ := stC X53 hx hZ e53 Ar60 (j := (5 : Int32)) hin61 (g := (mkF m 234 #[rv qa1, iv qi2] [.int qi9, .int 5, .ref b12, .ref b12, .ref b8, .ref b8])) rfl rfl (hb hby d0_234)
 have N61_ := Fr.snoc X61 N53_ g_b12
 have K62 := K54.wr W61 (Or.inr sz_b12)
 have A64_ : Arv Z h61 b12 c12 .char (6 : Int32) [.int qi4, .int qi5, .int qi6, .int qi7, .int qi8, .int qi9] (.int 0) := by have q := Arv.set (v := .int (nar .char qi9)) Ar60 q60 S60 N60 H60 Gf60 (fits_nar_char _) W61 5 (by decide) (lE rfl); rw [((own_nar_lat hl63) : nar .char qi9 = qi9)] at q; exact q
 have hp66 : ∀ c ∈ ([qi4, qi5, qi6, qi7, qi8, qi9] : List Int32), ¬ c < 0 ∧ ¬ (255 : Int32) < c := (List.forall_mem_cons.mpr ⟨hl23, (List.forall_mem_cons.mpr ⟨hl31, (List.forall_mem_cons.mpr ⟨hl39, (List.forall_mem_cons.mpr ⟨hl47, (List.forall_mem_cons.mpr ⟨hl55, (List.forall_mem_cons.mpr ⟨hl63, (fun _ q => nomatch q)⟩)⟩)⟩)⟩)⟩)⟩)
 have g_b8 : n0 ≤ b8 := Nat.le_trans (Nat.le_trans (Nat.le_of_eq X00.1.symm) X00.2.1) (Nat.le_of_eq g8.symm)
 have O73 := O21.ext E12
 have O74 := O73.wr W20 g_b12
 have O75 := O74.wr W29 g_b12
 have O76 := O75.wr W37 g_b12
 have O77 := O76.wr W45 g_b12
 have O78 := O77.wr W53 g_b12
 have O79 := O78.wr W61 g_b12
 have E80_ := A8.ext E12
 have E81_ := E80_.wr W20
 have E82_ := E81_.wr W29
 have E83_ := E82_.wr W37
 have E84_ := E83_.wr W45
 have E85_ := E84_.wr W53
 have E86_ := E85_.wr W61
 have F87_ := F11_.ext E12
 have F88_ := F87_.other W20 (Or.inl (Nat.ne_of_lt (Nat.lt_of_lt_of_le A8.lt (Nat.le_of_eq g12.symm))))
 have F89_ := F88_.other W29 (Or.inl (Nat.ne_of_lt (Nat.lt_of_lt_of_le A8.lt (Nat.le_of_eq g12.symm))))
 have F90_ := F89_.other W37 (Or.inl (Nat.ne_of_lt (Nat.lt_of_lt_of_le A8.lt (Nat.le_of_eq g12.symm))))
 have F91_ := F90_.other W45 (Or.inl (Nat.ne_of_lt (Nat.lt_of_lt_of_le A8.lt (Nat.le_of_eq g12.symm))))
 have F92_ := F91_.other W53 (Or.inl (Nat.ne_of_lt (Nat.lt_of_lt_of_le A8.lt (Nat.le_of_eq g12.symm))))
 have F93_ := F92_.other W61 (Or.inl (Nat.ne_of_lt (Nat.lt_of_lt_of_le A8.lt (Nat.le_of_eq g12.symm))))
 have F94_ := F10_.ext E12
 have F95_ := F94_.other W20 (Or.inl (Nat.ne_of_lt (Nat.lt_of_lt_of_le A8.lt (Nat.le_of_eq g12.symm))))
 have F96_ := F95_.other W29 (Or.inl (Nat.ne_of_lt (Nat.lt_of_lt_of_le A8.lt (Nat.le_of_eq g12.symm))))
 have F97_ := F96_.other W37 (Or.inl (Nat.ne_of_lt (Nat.lt_of_lt_of_le A8.lt (Nat.le_of_eq g12.symm))))
 have F98_ := F97_.other W45 (Or.inl (Nat.ne_of_lt (Nat.lt_of_lt_of_le A8.lt (Nat.le_of_eq g12.symm))))
 have F99_ := F98_.other W53 (Or.inl (Nat.ne_of_lt (Nat.lt_of_lt_of_le A8.lt (Nat.le_of_eq g12.symm))))
 have F100_ := F99_.other W61 (Or.inl (Nat.ne_of_lt (Nat.lt_of_lt_of_le A8.lt (Nat.le_of_eq g12.symm))))
 obtain ⟨_, T65, L65, X65, hQ65, st65⟩ := own_cb 2 10 1 6 3 16 (X61.specialBack hx (y := Y1_) rfl hown (mvT hZ (w9_ hw)) (mvT hZ (w10_ hw)) (mvT hZ (w11_ hw)) (by decide) (StrChars.Road.backV (W := 1) hZ (own_ws hw) (kI := 4) (w7_ hw) (cs := ([qi4, qi5, qi6, qi7, qi8, qi9] : List Int32)) (bs := ([qi4, qi5, qi6, qi7, qi8, qi9] : List Int32).map (fun c => c.toInt8.toInt32)) (n := 6) g_b8 (Nat.le_trans (Nat.le_of_eq O79.1.symm) O79.2.1) E86_ F93_ F100_ A64_ (O2.ext O79.2) P5 rfl rfl (lE rfl) (lE rfl) hp66 rfl (lE rfl) (lE rfl)) (g := (mkF m 235 #[rv qa1, iv qi2] [.ref b12, .ref b8, .ref b8])) rfl hml.symm (Steps.refl _) (a := b8) (argsL := [.ref b12]) (rest := [.ref b8]) (lenOf pd1 rfl) rfl (own_hw rfl) (hb hby d0_235) (fun _ _ => ⟨rfl, e61, (lE rfl : 2 + 1 ≤ _), (lE rfl : 10 + 6 ≤ _)⟩)) rfl rfl
 obtain ⟨rfl, N65q, K65q, E65q, C65q, b101, c101_, u101, g101, ne101, V101_, A101_⟩ := hQ65
 have N65 := Fr.app N61_ N65q
 have sz_b8 : h0.size ≤ b8 := (Nat.le_of_eq g8.symm)
 have K102 := K62.trans K65q (allS (Or.inr sz_b8) all0)
 have sz_b101 : h0.size ≤ b101 := Nat.le_trans K62.1 g101
 have E103_ := E86_.keep K65q
 refine own_lvF X65 Bd (.ref b8) rfl ⟨b8, b101, c101_, rfl, N65, K102, sz_b8, sz_b101, (Ne.symm ne101), E103_, C65q, V101_, A101_⟩ rfl (fun fs hr => pre0 _ (by
  show Sx p e below s₁ m 0 #[rv qa1, iv qi2] [] _
  refine zj X0 Bd d0_0 rfl ?_
  refine zp (pc' := 15) X0 Bd d0_1 (XT.i0_ne_t (hc1 : ¬ (qi2 = (0 : Int32)))) rfl ?_
  refine zj X0 Bd d0_15 rfl ?_
  refine zc X0 Bd d0_16 ?_
  refine zy (pc' := 37) X0 Bd d0_17 (XT.ii_ne_t (hc2 : ¬ (qi2 = (1 : Int32)))) rfl ?_
  refine zj X0 Bd d0_37 rfl ?_
  refine zc X0 Bd d0_38 ?_
  refine zy (pc' := 65) X0 Bd d0_39 (XT.ii_ne_t (hc3 : ¬ (qi2 = (2 : Int32)))) rfl ?_
  refine zj X0 Bd d0_65 rfl ?_
  refine zc X0 Bd d0_66 ?_
  refine zy (pc' := 99) X0 Bd d0_67 (XT.ii_ne_t (hc4 : ¬ (qi2 = (3 : Int32)))) rfl ?_
  refine zj X0 Bd d0_99 rfl ?_
  refine zc X0 Bd d0_100 ?_
  refine zy (pc' := 139) X0 Bd d0_101 (XT.ii_ne_t (hc5 : ¬ (qi2 = (4 : Int32)))) rfl ?_
  refine zj X0 Bd d0_139 rfl ?_
  refine zc X0 Bd d0_140 ?_
  refine zy (pc' := 185) X0 Bd d0_141 (XT.ii_ne_t (hc6 : ¬ (qi2 = (5 : Int32)))) rfl ?_
  refine zj X0 Bd d0_185 rfl ?_
  refine zd X0 Bd d0_186 ?_
  refine zn X0 Bd d0_188 (XT.ii_ne_f (hc7 : qi2 = (6 : Int32))) ?_
  refine st8 _ ?_
  refine XS.dup X8.here hx rfl (hb hby d0_194) rfl rfl ?_
  refine zd X8 Bd d0_195 ?_
  refine st12 _ ?_
  refine XS.dup X12.here hx rfl (hb hby d0_199) rfl rfl ?_
  show Sx p e below T12 m 200 #[rv qa1, iv qi2] [.ref b12, .ref b12, .ref b8, .ref b8] _
  refine zc X12 Bd d0_200 ?_
  refine zb X12 Bd d0_201 rfl rfl ?_
  refine zc X12 Bd d0_202 ?_
  refine X12.caload hx (j := (0 : Int32)) (v := (.int qi4)) (by rw [e12]; exact Ar15.1) (State.isArrayOf_alike hZ.alike Ar15.2.1) Ar15.2.2 hin18 hat18 (g := (mkF m 203 #[rv qa1, iv qi2] [.int 0, .ref qa1, .int 0, .ref b12, .ref b12, .ref b8, .ref b8])) rfl rfl (hb hby d0_203) _ ?_
  refine st20 _ ?_
  refine XS.dup X20.here hx rfl (hb hby d0_205) rfl rfl ?_
  refine zc X20 Bd d0_206 ?_
  refine zb X20 Bd d0_207 rfl rfl ?_
  refine zc X20 Bd d0_208 ?_
  refine X20.caload hx (j := (1 : Int32)) (v := (.int qi5)) (by rw [e20]; exact Ar25.1) (State.isArrayOf_alike hZ.alike Ar25.2.1) Ar25.2.2 hin27 hat27 (g := (mkF m 209 #[rv qa1, iv qi2] [.int 1, .ref qa1, .int 1, .ref b12, .ref b12, .ref b8, .ref b8])) rfl rfl (hb hby d0_209) _ ?_
  refine st29 _ ?_
  refine XS.dup X29.here hx rfl (hb hby d0_211) rfl rfl ?_
  refine zc X29 Bd d0_212 ?_
  refine zb X29 Bd d0_213 rfl rfl ?_
  refine zc X29 Bd d0_214 ?_
  refine X29.caload hx (j := (2 : Int32)) (v := (.int qi6)) (by rw [e29]; exact Ar33.1) (State.isArrayOf_alike hZ.alike Ar33.2.1) Ar33.2.2 hin35 hat35 (g := (mkF m 215 #[rv qa1, iv qi2] [.int 2, .ref qa1, .int 2, .ref b12, .ref b12, .ref b8, .ref b8])) rfl rfl (hb hby d0_215) _ ?_
  refine st37 _ ?_
  refine XS.dup X37.here hx rfl (hb hby d0_217) rfl rfl ?_
  refine zc X37 Bd d0_218 ?_
  refine zb X37 Bd d0_219 rfl rfl ?_
  refine zc X37 Bd d0_220 ?_
  refine X37.caload hx (j := (3 : Int32)) (v := (.int qi7)) (by rw [e37]; exact Ar41.1) (State.isArrayOf_alike hZ.alike Ar41.2.1) Ar41.2.2 hin43 hat43 (g := (mkF m 221 #[rv qa1, iv qi2] [.int 3, .ref qa1, .int 3, .ref b12, .ref b12, .ref b8, .ref b8])) rfl rfl (hb hby d0_221) _ ?_
  refine st45 _ ?_
  refine XS.dup X45.here hx rfl (hb hby d0_223) rfl rfl ?_
  refine zc X45 Bd d0_224 ?_
  show Sx p e below T45 m 225 #[rv qa1, iv qi2] [.int 4, .ref b12, .ref b12, .ref b8, .ref b8] _
  refine zb X45 Bd d0_225 rfl rfl ?_
  refine zc X45 Bd d0_226 ?_
  refine X45.caload hx (j := (4 : Int32)) (v := (.int qi8)) (by rw [e45]; exact Ar49.1) (State.isArrayOf_alike hZ.alike Ar49.2.1) Ar49.2.2 hin51 hat51 (g := (mkF m 227 #[rv qa1, iv qi2] [.int 4, .ref qa1, .int 4, .ref b12, .ref b12, .ref b8, .ref b8])) rfl rfl (hb hby d0_227) _ ?_
  refine st53 _ ?_
  refine XS.dup X53.here hx rfl (hb hby d0_229) rfl rfl ?_
  refine zc X53 Bd d0_230 ?_
  refine zb X53 Bd d0_231 rfl rfl ?_
  refine zc X53 Bd d0_232 ?_
  refine X53.caload hx (j := (5 : Int32)) (v := (.int qi9)) (by rw [e53]; exact Ar57.1) (State.isArrayOf_alike hZ.alike Ar57.2.1) Ar57.2.2 hin59 hat59 (g := (mkF m 233 #[rv qa1, iv qi2] [.int 5, .ref qa1, .int 5, .ref b12, .ref b12, .ref b8, .ref b8])) rfl rfl (hb hby d0_233) _ ?_
  refine st61 _ ?_
  refine st65.trans ?_
  exact retOut X65 hx Bd.returns rfl (Or.inr (Or.inr (Or.inr (Or.inr ⟨rfl, rfl, rfl⟩)))) (hb hby d0_238) hr))
-- com/example/hearthline/hearthline/session/SpecialValueOfPinLaw.ref(Ljava/lang/String;)Lcom/example/hearthline/hearthline/session/Session$Measurement$SpecialValue;
def Q18 (Z : State) (Gg0 : Addr) (Gg2 : Addr) (Gg3 : Addr) (Gg4 : Addr) (Gg5 : Addr) (qi3 : Int32) (qi4 : Int32) (qi5 : Int32) (qi6 : Int32) (qi7 : Int32) (qi8 : Int32) (h0 : Heap) (n0 : Nat) (v : Option Value) (h : Heap) (L : List Loc) : Prop := v = some (own_sv Gg0 Gg2 Gg3 Gg4 Gg5 ([qi3, qi4, qi5, qi6, qi7, qi8] : List Int32)) ∧ Fr n0 L ∧ h = h0
theorem rm18 (l : Launch) (Z : State) (a0 : Array Value) (hw : HW a0 Z) (G1 : Int32) (Gg0 : Addr) (Gg1 : Addr) (Gg2 : Addr) (Gg3 : Addr) (Gg4 : Addr) (Gg5 : Addr) (Gg6 : Addr) (Gg7 : Addr) (Gg8 : Addr) (Gg9 : Addr) (Gg10 : Addr) (Gg11 : Addr) (Gg12 : Addr) (Gg13 : Addr) (Gg14 : Addr) (Gg15 : Addr) (Kg16 : ClassId) (Kg17 : ClassId) (Kg18 : ClassId) (Kg19 : ClassId) (Kg20 : ClassId) (Kg21 : ClassId) (qa1 : Addr) (qa2 : Addr) (qi3 : Int32) (qi4 : Int32) (qi5 : Int32) (qi6 : Int32) (qi7 : Int32) (qi8 : Int32) (qk9 : ClassId) (h0 : Heap) (n0 : Nat) (X00 : Old Z n0 h0) (O2 : Sta Z Z.heap "java/lang/String" "COMPACT_STRINGS" "Z" (.int G1)) (P5 : ¬ (G1 = (0 : Int32))) (hEN : OwnEN Z Gg0 Gg1 Gg2 Gg3 Gg4 Gg5 Gg6 Gg7 Gg8 Gg9 Gg10 Gg11 Gg12 Gg13 Gg14 Gg15 Kg16 Kg17 Kg18 Kg19 Kg20 Kg21) (E_qa1 : Exa Z h0 qa1 "java/lang/String") (F_qa1_coder : Fld Z h0 qa1 "java/lang/String" "coder" "B" (.int 0)) (F_qa1_value : Fld Z h0 qa1 "java/lang/String" "value" "[B" (.ref qa2)) (hp_qa1 : ∀ c ∈ ([qi3, qi4, qi5, qi6, qi7, qi8] : List Int32), ¬ c < 0 ∧ ¬ (255 : Int32) < c) (A_qa2 : Arv Z h0 qa2 qk9 .byte (6 : Int32) ((([qi3, qi4, qi5, qi6, qi7, qi8] : List Int32).map (fun c => c.toInt8.toInt32)).map Value.int) (.int 0)) :
    MF l Z Y3_ method_4_code 3 (some (.object "com/example/hearthline/hearthline/session/Session$Measurement$SpecialValue")) (Rm 2 0 0 25) #[.ref qa1] h0 (Q18 Z Gg0 Gg2 Gg3 Gg4 Gg5 qi3 qi4 qi5 qi6 qi7 qi8 h0 n0) := by
 refine own_sF pn0 rfl (fun m => ef4 m qa1) ?_
 intro p e s m below meth c s₁ Bd hZ hh hx hby hml hown hnm X0 e0 pre0
 have N0 := Fr.nil n0
 have hcd2 : StrChars.Road.CodA ([qi3, qi4, qi5, qi6, qi7, qi8] : List Int32) 0 (6 : Int32) ((([qi3, qi4, qi5, qi6, qi7, qi8] : List Int32).map (fun c => c.toInt8.toInt32)).map Value.int) := StrChars.Road.codOf (n := 6) rfl (fun x hx => (hp_qa1 x hx).2)
 have hbd2 : ∀ x ∈ ([qi3, qi4, qi5, qi6, qi7, qi8] : List Int32), ¬ x < 0 ∧ ¬ (65535 : Int32) < x := own_up _ hp_qa1
 obtain ⟨cq1, kq1, q1a, q1b, q1c⟩ := isOf hZ e0 E_qa1
 obtain ⟨_, T1, L1, X1, hQ1, st1⟩ := own_cb0 0 0 0 0 0 0 (X0.virtualBack hx (y := Y4_) (z := Y4_) hown (mvT hZ (w38_ hw)) (mvT hZ (w39_ hw)) (notFace_of_selects (args := #[]) (mvT hZ (w41_ hw))) (mvT hZ (w41_ hw)) (mvT hZ (w40_ hw)) (by decide) (StrChars.Road.lenW (W := 0) hZ (own_wl hw) (kI := 4) (w7_ hw) E_qa1 F_qa1_value F_qa1_coder A_qa2 hcd2 hbd2 (O2.ext X00.2) P5 (lE rfl) (lE rfl) (lE rfl)) q1a q1c (g := (mkF m 1 #[rv qa1, .unset, .unset] [.ref qa1])) rfl hml.symm (Steps.refl _) (argsL := []) (rest := []) (lenOf pd3 rfl) rfl (own_hw rfl) (hb hby d3_1) (fun _ _ => ⟨rfl, e0, (lE rfl : 0 + 0 ≤ _), (lE rfl : 0 + 0 ≤ _)⟩)) rfl rfl
 dsimp only [Pt.U, Pt.locs, Pt.cells, Pt.slots] at hQ1
 obtain ⟨rfl, rfl, e1q⟩ := hQ1
 have N1 := Fr.app N0 (Fr.nil n0)
 refine own_lvF X1 Bd .null e1q ⟨(by simp [own_sv]), N1, rfl⟩ rfl (fun fs hr => pre0 _ (by
  show Sx p e below s₁ m 0 #[rv qa1, .unset, .unset] [] _
  refine zb X0 Bd d3_0 rfl rfl ?_
  refine st1.trans ?_
  refine zt X1 Bd d3_4 (l' := #[rv qa1, iv 6, .unset]) rfl ?_
  refine zj X1 Bd d3_5 rfl ?_
  refine zc X1 Bd d3_6 ?_
  refine zy (pc' := 46) X1 Bd d3_7 (XT.ii_ne_t ((by decide) : ¬ ((6 : Int32) = (3 : Int32)))) rfl ?_
  refine zj X1 Bd d3_46 rfl ?_
  refine zc X1 Bd d3_47 ?_
  refine zy (pc' := 151) X1 Bd d3_48 (XT.ii_ne_t ((by decide) : ¬ ((6 : Int32) = (4 : Int32)))) rfl ?_
  refine zj X1 Bd d3_151 rfl ?_
  refine zd X1 Bd d3_152 ?_
  refine zy (pc' := 245) X1 Bd d3_154 (XT.ii_ne_t ((by decide) : ¬ ((6 : Int32) = (8 : Int32)))) rfl ?_
  refine XS.aconstNull X1.here hx rfl (hb hby d3_245) ?_
  exact retOut X1 hx Bd.returns rfl (Or.inr (Or.inr (Or.inr (Or.inr ⟨rfl, rfl, rfl⟩)))) (hb hby d3_246) hr))
theorem d0_239 : decode method_3_code 239 = .ok (.iload_n 1, 1) := by decide +kernel
theorem d0_240 : decode method_3_code 240 = .ok (.bipush 7, 2) := by decide +kernel
theorem d0_242 : decode method_3_code 242 = .ok (.if_icmp .ne 59, 3) := by decide +kernel
theorem d0_245 : decode method_3_code 245 = .ok (.new 23, 3) := by decide +kernel
theorem d0_248 : decode method_3_code 248 = .ok (.dup, 1) := by decide +kernel
theorem d0_249 : decode method_3_code 249 = .ok (.bipush 7, 2) := by decide +kernel
theorem d0_251 : decode method_3_code 251 = .ok (.newarray .char, 2) := by decide +kernel
theorem d0_253 : decode method_3_code 253 = .ok (.dup, 1) := by decide +kernel
theorem d0_254 : decode method_3_code 254 = .ok (.iconst 0, 1) := by decide +kernel
theorem d0_255 : decode method_3_code 255 = .ok (.aload_n 0, 1) := by decide +kernel
theorem d0_256 : decode method_3_code 256 = .ok (.iconst 0, 1) := by decide +kernel
theorem d0_257 : decode method_3_code 257 = .ok (.caload, 1) := by decide +kernel
theorem d0_258 : decode method_3_code 258 = .ok (.castore, 1) := by decide +kernel
theorem d0_259 : decode method_3_code 259 = .ok (.dup, 1) := by decide +kernel
theorem d0_260 : decode method_3_code 260 = .ok (.iconst 1, 1) := by decide +kernel
theorem d0_261 : decode method_3_code 261 = .ok (.aload_n 0, 1) := by decide +kernel
theorem d0_262 : decode method_3_code 262 = .ok (.iconst 1, 1) := by decide +kernel
theorem d0_263 : decode method_3_code 263 = .ok (.caload, 1) := by decide +kernel
theorem d0_264 : decode method_3_code 264 = .ok (.castore, 1) := by decide +kernel
theorem d0_265 : decode method_3_code 265 = .ok (.dup, 1) := by decide +kernel
theorem d0_266 : decode method_3_code 266 = .ok (.iconst 2, 1) := by decide +kernel
theorem d0_267 : decode method_3_code 267 = .ok (.aload_n 0, 1) := by decide +kernel
theorem d0_268 : decode method_3_code 268 = .ok (.iconst 2, 1) := by decide +kernel
theorem d0_269 : decode method_3_code 269 = .ok (.caload, 1) := by decide +kernel
theorem d0_270 : decode method_3_code 270 = .ok (.castore, 1) := by decide +kernel
theorem d0_271 : decode method_3_code 271 = .ok (.dup, 1) := by decide +kernel
theorem d0_272 : decode method_3_code 272 = .ok (.iconst 3, 1) := by decide +kernel
theorem d0_273 : decode method_3_code 273 = .ok (.aload_n 0, 1) := by decide +kernel
theorem d0_274 : decode method_3_code 274 = .ok (.iconst 3, 1) := by decide +kernel
theorem d0_275 : decode method_3_code 275 = .ok (.caload, 1) := by decide +kernel
theorem d0_276 : decode method_3_code 276 = .ok (.castore, 1) := by decide +kernel
theorem d0_277 : decode method_3_code 277 = .ok (.dup, 1) := by decide +kernel
theorem d0_278 : decode method_3_code 278 = .ok (.iconst 4, 1) := by decide +kernel
theorem d0_279 : decode method_3_code 279 = .ok (.aload_n 0, 1) := by decide +kernel
theorem d0_280 : decode method_3_code 280 = .ok (.iconst 4, 1) := by decide +kernel
theorem d0_281 : decode method_3_code 281 = .ok (.caload, 1) := by decide +kernel
theorem d0_282 : decode method_3_code 282 = .ok (.castore, 1) := by decide +kernel
theorem d0_283 : decode method_3_code 283 = .ok (.dup, 1) := by decide +kernel
theorem d0_284 : decode method_3_code 284 = .ok (.iconst 5, 1) := by decide +kernel
theorem d0_285 : decode method_3_code 285 = .ok (.aload_n 0, 1) := by decide +kernel
theorem d0_286 : decode method_3_code 286 = .ok (.iconst 5, 1) := by decide +kernel
theorem d0_287 : decode method_3_code 287 = .ok (.caload, 1) := by decide +kernel
theorem d0_288 : decode method_3_code 288 = .ok (.castore, 1) := by decide +kernel
theorem d0_289 : decode method_3_code 289 = .ok (.dup, 1) := by decide +kernel
theorem d0_290 : decode method_3_code 290 = .ok (.bipush 6, 2) := by decide +kernel
theorem d0_292 : decode method_3_code 292 = .ok (.aload_n 0, 1) := by decide +kernel
theorem d0_293 : decode method_3_code 293 = .ok (.bipush 6, 2) := by decide +kernel
theorem d0_295 : decode method_3_code 295 = .ok (.caload, 1) := by decide +kernel
theorem d0_296 : decode method_3_code 296 = .ok (.castore, 1) := by decide +kernel
theorem d0_297 : decode method_3_code 297 = .ok (.invokespecial 25, 3) := by decide +kernel
theorem d0_300 : decode method_3_code 300 = .ok (.areturn, 1) := by decide +kernel
-- com/example/hearthline/hearthline/session/SpecialValueOfPinLaw.str([CI)Ljava/lang/String;
def Q19 (Z : State) (qi4 : Int32) (qi5 : Int32) (qi6 : Int32) (qi7 : Int32) (qi8 : Int32) (qi9 : Int32) (qi10 : Int32) (h0 : Heap) (n0 : Nat) (v : Option Value) (h : Heap) (L : List Loc) : Prop := ∃ b9 : Addr, ∃ b115 : Addr, ∃ c115_ : ClassId, v = some (.ref b9) ∧ Fr n0 L ∧ Keep h0 h [] ∧ h0.size ≤ b9 ∧ h0.size ≤ b115 ∧ b9 ≠ b115 ∧ Exa Z h b9 "java/lang/String" ∧ Fld Z h b9 "java/lang/String" "coder" "B" (.int 0) ∧ Fld Z h b9 "java/lang/String" "value" "[B" (.ref b115) ∧ Arv Z h b115 c115_ .byte (7 : Int32) ((([qi4, qi5, qi6, qi7, qi8, qi9, qi10] : List Int32).map (fun c => c.toInt8.toInt32)).map Value.int) (.int 0)
theorem rm19 (l : Launch) (Z : State) (a0 : Array Value) (hw : HW a0 Z) (G1 : Int32) (qa1 : Addr) (qi2 : Int32) (qk3 : ClassId) (qi4 : Int32) (qi5 : Int32) (qi6 : Int32) (qi7 : Int32) (qi8 : Int32) (qi9 : Int32) (qi10 : Int32) (qi11 : Int32) (h0 : Heap) (n0 : Nat) (X00 : Old Z n0 h0) (O2 : Sta Z Z.heap "java/lang/String" "COMPACT_STRINGS" "Z" (.int G1)) (P5 : ¬ (G1 = (0 : Int32))) (hc1 : ¬ (qi2 = (0 : Int32))) (hc2 : ¬ (qi2 = (1 : Int32))) (hc3 : ¬ (qi2 = (2 : Int32))) (hc4 : ¬ (qi2 = (3 : Int32))) (hc5 : ¬ (qi2 = (4 : Int32))) (hc6 : ¬ (qi2 = (5 : Int32))) (hc7 : ¬ (qi2 = (6 : Int32))) (hc8 : qi2 = (7 : Int32)) (A_qa1 : Arv Z h0 qa1 qk3 .char (8 : Int32) [.int qi4, .int qi5, .int qi6, .int qi7, .int qi8, .int qi9, .int qi10, .int qi11] (.int 0)) (hl24 : ¬ qi4 < 0 ∧ ¬ (255 : Int32) < qi4) (hl32 : ¬ qi5 < 0 ∧ ¬ (255 : Int32) < qi5) (hl40 : ¬ qi6 < 0 ∧ ¬ (255 : Int32) < qi6) (hl48 : ¬ qi7 < 0 ∧ ¬ (255 : Int32) < qi7) (hl56 : ¬ qi8 < 0 ∧ ¬ (255 : Int32) < qi8) (hl64 : ¬ qi9 < 0 ∧ ¬ (255 : Int32) < qi9) (hl72 : ¬ qi10 < 0 ∧ ¬ (255 : Int32) < qi10) :
    MF l Z Y2_ method_3_code 2 (some (.object "java/lang/String")) (Rm 4 3 18 66) #[.ref qa1, .int qi2] h0 (Q19 Z qi4 qi5 qi6 qi7 qi8 qi9 qi10 h0 n0) := by
 refine own_sF pn0 rfl (fun m => ef1 m qa1 qi2) ?_
 intro p e s m below meth c s₁ Bd hZ hh hx hby hml hown hnm X0 e0 pre0
 have N0 := Fr.nil n0
 obtain ⟨T9, h9, X9, e9, E9, A9, D9, -, st9⟩ := newO X0 hx hZ hown (w6_ hw) (w7_ hw) (w8_ hw) e0 (g := (mkF m 245 #[rv qa1, iv qi2] [])) rfl (hb hby d0_245) (lE rfl) (lE rfl)
 obtain ⟨b9, g9⟩ : ∃ z, z = h0.size := ⟨_, rfl⟩
 rw [← g9] at A9 D9 st9
 replace X9 : Stand p l e (Rm 4 3 18 66) s m #[.ref qa1, .int qi2] below meth c T9 _ 1 4 := X9
 have K10 := (Keep.refl h0 []).ext E9
 have F11_ : Fld Z h9 b9 "java/lang/String" "coder" "B" (.int 0) := D9 (Or.inr (w32_ hw)) (ty := .byte) (by decide)
 have F12_ : Fld Z h9 b9 "java/lang/String" "value" "[B" .null := D9 (Or.inr (w34_ hw)) (ty := (.array .byte)) (by decide)
 obtain ⟨T13, h13, c13, X13, e13, E13, A13, st13⟩ := newP (aty := .char) X9 hx hZ (w1_ hw) e9 (g := (mkF m 251 #[rv qa1, iv qi2] [.int 7, .ref b9, .ref b9])) rfl (hb hby d0_251) rfl (by decide) (cap := 7) (by decide) (lE rfl) (lE rfl) (lE rfl)
 obtain ⟨b13, g13⟩ : ∃ z, z = h9.size := ⟨_, rfl⟩
 rw [← g13] at A13 st13
 replace X13 : Stand p l e (Rm 4 3 18 66) s m #[.ref qa1, .int qi2] below meth c T13 _ 2 11 := X13
 have K14 := K10.ext E13
 have A15_ : Arv Z h13 b13 c13 .char (7 : Int32) [.int 0, .int 0, .int 0, .int 0, .int 0, .int 0, .int 0] (.int 0) := (Arv.new A13 (by decide)).pad (pad_rep [] (.int 0) 7)
 have A17_ := A_qa1.ext E9
 have A18_ := A17_.ext E13
 have av16 := A18_
 obtain ⟨cl16, Ar16, q16, S16, N16, H16, Gf16⟩ := av16
 have hin19 : ¬ ((0 : Int32) < 0 ∨ cl16.slots.size ≤ ((0 : Int32) : Int32).toNatClampNeg) := inb_of S16 (by decide)
 have hat19 : cl16.slots[((0 : Int32) : Int32).toNatClampNeg]? = some (.int qi4) := Has.at H16 hin19 rfl
 have av20 := A15_
 obtain ⟨cl20, Ar20, q20, S20, N20, H20, Gf20⟩ := av20
 have hin21 : ¬ ((0 : Int32) < 0 ∨ cl20.slots.size ≤ ((0 : Int32) : Int32).toNatClampNeg) := inb_of S20 (by decide)
 obtain ⟨T21, h21, X21, e21, W21, st21⟩ := stC X13 hx hZ e13 Ar20 (j := (0 : Int32)) hin21 (g := (mkF m 258 #[rv qa1, iv qi2] [.int qi4, .int 0, .ref b13, .ref b13, .ref b9, .ref b9])) rfl rfl (hb hby d0_258)
 have O22 := X00.ext E9
 have g_b13 : n0 ≤ b13 := Nat.le_trans (Nat.le_trans (Nat.le_of_eq O22.1.symm) O22.2.1) (Nat.le_of_eq g13.symm)
 have N21_ := Fr.snoc X21 N0 g_b13
 have sz_b13 : h0.size ≤ b13 := Nat.le_trans K10.1 (Nat.le_of_eq g13.symm)
 have K23 := K14.wr W21 (Or.inr sz_b13)
 have A25_ : Arv Z h21 b13 c13 .char (7 : Int32) [.int qi4, .int 0, .int 0, .int 0, .int 0, .int 0, .int 0] (.int 0) := by have q := Arv.set (v := .int (nar .char qi4)) Ar20 q20 S20 N20 H20 Gf20 (fits_nar_char _) W21 0 (by decide) (lE rfl); rw [((own_nar_lat hl24) : nar .char qi4 = qi4)] at q; exact q
 have A27_ := A18_.other W21 (Nat.ne_of_lt (Nat.lt_of_lt_of_le (Nat.lt_of_lt_of_le A_qa1.lt E9.1) (Nat.le_of_eq g13.symm)))
 have av26 := A27_
 obtain ⟨cl26, Ar26, q26, S26, N26, H26, Gf26⟩ := av26
 have hin28 : ¬ ((1 : Int32) < 0 ∨ cl26.slots.size ≤ ((1 : Int32) : Int32).toNatClampNeg) := inb_of S26 (by decide)
 have hat28 : cl26.slots[((1 : Int32) : Int32).toNatClampNeg]? = some (.int qi5) := Has.at H26 hin28 rfl
 have av29 := A25_
 obtain ⟨cl29, Ar29, q29, S29, N29, H29, Gf29⟩ := av29
 have hin30 : ¬ ((1 : Int32) < 0 ∨ cl29.slots.size ≤ ((1 : Int32) : Int32).toNatClampNeg) := inb_of S29 (by decide)
 obtain ⟨T30, h30, X30, e30, W30, st30⟩ := stC X21 hx hZ e21 Ar29 (j := (1 : Int32)) hin30 (g := (mkF m 264 #[rv qa1, iv qi2] [.int qi5, .int 1, .ref b13, .ref b13, .ref b9, .ref b9])) rfl rfl (hb hby d0_264)
 have N30_ := Fr.snoc X30 N21_ g_b13
 have K31 := K23.wr W30 (Or.inr sz_b13)
 have A33_ : Arv Z h30 b13 c13 .char (7 : Int32) [.int qi4, .int qi5, .int 0, .int 0, .int 0, .int 0, .int 0] (.int 0) := by have q := Arv.set (v := .int (nar .char qi5)) Ar29 q29 S29 N29 H29 Gf29 (fits_nar_char _) W30 1 (by decide) (lE rfl); rw [((own_nar_lat hl32) : nar .char qi5 = qi5)] at q; exact q
 have A35_ := A27_.other W30 (Nat.ne_of_lt (Nat.lt_of_lt_of_le (Nat.lt_of_lt_of_le A_qa1.lt E9.1) (Nat.le_of_eq g13.symm)))
 have av34 := A35_
 obtain ⟨cl34, Ar34, q34, S34, N34, H34, Gf34⟩ := av34
 have hin36 : ¬ ((2 : Int32) < 0 ∨ cl34.slots.size ≤ ((2 : Int32) : Int32).toNatClampNeg) := inb_of S34 (by decide)
 have hat36 : cl34.slots[((2 : Int32) : Int32).toNatClampNeg]? = some (.int qi6) := Has.at H34 hin36 rfl
 have av37 := A33_
 obtain ⟨cl37, Ar37, q37, S37, N37, H37, Gf37⟩ := av37
 have hin38 : ¬ ((2 : Int32) < 0 ∨ cl37.slots.size ≤ ((2 : Int32) : Int32).toNatClampNeg) := inb_of S37 (by decide)
 obtain ⟨T38, h38, X38, e38, W38, st38⟩ := stC X30 hx hZ e30 Ar37 (j := (2 : Int32)) hin38 (g := (mkF m 270 #[rv qa1, iv qi2] [.int qi6, .int 2, .ref b13, .ref b13, .ref b9, .ref b9])) rfl rfl (hb hby d0_270)
 have N38_ := Fr.snoc X38 N30_ g_b13
 have K39 := K31.wr W38 (Or.inr sz_b13)
 have A41_ : Arv Z h38 b13 c13 .char (7 : Int32) [.int qi4, .int qi5, .int qi6, .int 0, .int 0, .int 0, .int 0] (.int 0) := by have q := Arv.set (v := .int (nar .char qi6)) Ar37 q37 S37 N37 H37 Gf37 (fits_nar_char _) W38 2 (by decide) (lE rfl); rw [((own_nar_lat hl40) : nar .char qi6 = qi6)] at q; exact q
 have A43_ := A35_.other W38 (Nat.ne_of_lt (Nat.lt_of_lt_of_le (Nat.lt_of_lt_of_le A_qa1.lt E9.1) (Nat.le_of_eq g13.symm)))
 have av42 := A43_
 obtain ⟨cl42, Ar42, q42, S42, N42, H42, Gf42⟩ := av42
 have hin44 : ¬ ((3 : Int32) < 0 ∨ cl42.slots.size ≤ ((3 : Int32) : Int32).toNatClampNeg) := inb_of S42 (by decide)
 have hat44 : cl42.slots[((3 : Int32) : Int32).toNatClampNeg]? = some (.int qi7) := Has.at H42 hin44 rfl
 have av45 := A41_
 obtain ⟨cl45, Ar45, q45, S45, N45, H45, Gf45⟩ := av45
 have hin46 : ¬ ((3 : Int32) < 0 ∨ cl45.slots.size ≤ ((3 : Int32) : Int32).toNatClampNeg) := inb_of S45 (by decide)
 obtain ⟨T46, h46, X46, e46, W46, st46⟩ := stC X38 hx hZ e38 Ar45 (j := (3 : Int32)) hin46 (g := (mkF m 276 #[rv qa1, iv qi2] [.int qi7, .int 3, .ref b13, .ref b13, .ref b9, .ref b9])) rfl rfl (hb hby d0_276)
 have N46_ := Fr.snoc X46 N38_ g_b13
 have K47 := K39.wr W46 (Or.inr sz_b13)
 have A49_ : Arv Z h46 b13 c13 .char (7 : Int32) [.int qi4, .int qi5, .int qi6, .int qi7, .int 0, .int 0, .int 0] (.int 0) := by have q := Arv.set (v := .int (nar .char qi7)) Ar45 q45 S45 N45 H45 Gf45 (fits_nar_char _) W46 3 (by decide) (lE rfl); rw [((own_nar_lat hl48) : nar .char qi7 = qi7)] at q; exact q
 have A51_ := A43_.other W46 (Nat.ne_of_lt (Nat.lt_of_lt_of_le (Nat.lt_of_lt_of_le A_qa1.lt E9.1) (Nat.le_of_eq g13.symm)))
 have av50 := A51_
 obtain ⟨cl50, Ar50, q50, S50, N50, H50, Gf50⟩ := av50
 have hin52 : ¬ ((4 : Int32) < 0 ∨ cl50.slots.size ≤ ((4 : Int32) : Int32).toNatClampNeg) := inb_of S50 (by decide)
 have hat52 : cl50.slots[((4 : Int32) : Int32).toNatClampNeg]? = some (.int qi8) := Has.at H50 hin52 rfl
 have av53 := A49_
 obtain ⟨cl53, Ar53, q53, S53, N53, H53, Gf53⟩ := av53
 have hin54 : ¬ ((4 : Int32) < 0 ∨ cl53.slots.size ≤ ((4 : Int32) : Int32).toNatClampNeg) := inb_of S53 (by decide)
 obtain ⟨T54, h54, X54, e54, W54, st54⟩ := stC X46 hx hZ e46 Ar53 (j := (4 : Int32)) hin54 (g := (mkF m 282 #[rv qa1, iv qi2] [.int qi8, .int 4, .ref b13, .ref b13, .ref b9, .ref b9])) rfl rfl (hb hby d0_282)
 have N54_ := Fr.snoc X54 N46_ g_b13
 have K55 := K47.wr W54 (Or.inr sz_b13)
 have A57_ : Arv Z h54 b13 c13 .char (7 : Int32) [.int qi4, .int qi5, .int qi6, .int qi7, .int qi8, .int 0, .int 0] (.int 0) := by have q := Arv.set (v := .int (nar .char qi8)) Ar53 q53 S53 N53 H53 Gf53 (fits_nar_char _) W54 4 (by decide) (lE rfl); rw [((own_nar_lat hl56) : nar .char qi8 = qi8)] at q; exact q
 have A59_ := A51_.other W54 (Nat.ne_of_lt (Nat.lt_of_lt_of_le (Nat.lt_of_lt_of_le A_qa1.lt E9.1) (Nat.le_of_eq g13.symm)))
 have av58 := A59_
 obtain ⟨cl58, Ar58, q58, S58, N58, H58, Gf58⟩ := av58
 have hin60 : ¬ ((5 : Int32) < 0 ∨ cl58.slots.size ≤ ((5 : Int32) : Int32).toNatClampNeg) := inb_of S58 (by decide)
 have hat60 : cl58.slots[((5 : Int32) : Int32).toNatClampNeg]? = some (.int qi9) := Has.at H58 hin60 rfl
 have av61 := A57_
 obtain ⟨cl61, Ar61, q61, S61, N61, H61, Gf61⟩ := av61
 have hin62 : ¬ ((5 : Int32) < 0 ∨ cl61.slots.size ≤ ((5 : Int32) : Int32).toNatClampNeg) := inb_of S61 (by decide)
 obtain ⟨T62, h62, X62, e62, W62, st62⟩ := stC X54 hx hZ e54 Ar61 (j := (5 : Int32)) hin62 (g := (mkF m 288 #[rv qa1, iv qi2] [.int qi9, .int 5, .ref b13, .ref b13, .ref b9, .ref b9])) rfl rfl (hb hby d0_288)
 have N62_ := Fr.snoc X62 N54_ g_b13
 have K63 := K55.wr W62 (Or.inr sz_b13)
 have A65_ : Arv Z h62 b13 c13 .char (7 : Int32) [.int qi4, .int qi5, .int qi6, .int qi7, .int qi8, .int qi9, .int 0] (.int 0) := by have q := Arv.set (v := .int (nar .char qi9)) Ar61 q61 S61 N61 H61 Gf61 (fits_nar_char _) W62 5 (by decide) (lE rfl); rw [((own_nar_lat hl64) : nar .char qi9 = qi9)] at q; exact q
 have A67_ := A59_.other W62 (Nat.ne_of_lt (Nat.lt_of_lt_of_le (Nat.lt_of_lt_of_le A_qa1.lt E9.1) (Nat.le_of_eq g13.symm)))
 have av66 := A67_
 obtain ⟨cl66, Ar66, q66, S66, N66, H66, Gf66⟩ := av66
 have hin68 : ¬ ((6 : Int32) < 0 ∨ cl66.slots.size ≤ ((6 : Int32) : Int32).toNatClampNeg) := inb_of S66 (by decide)
 have hat68 : cl66.slots[((6 : Int32) : Int32).toNatClampNeg]? = some (.int qi10) := Has.at H66 hin68 rfl
 have av69 := A65_
 obtain ⟨cl69, Ar69, q69, S69, N69, H69, Gf69⟩ := av69
 have hin70 : ¬ ((6 : Int32) < 0 ∨ cl69.slots.size ≤ ((6 : Int32) : Int32).toNatClampNeg) := inb_of S69 (by decide)
 obtain ⟨T70, h70, X70, e70, W70, st70⟩ := stC X62 hx hZ e62 Ar69 (j := (6 : Int32)) hin70 (g := (mkF m 296 #[rv qa1, iv qi2] [.int qi10, .int 6, .ref b13, .ref b13, .ref b9, .ref b9])) rfl rfl (hb hby d0_296)
 have N70_ := Fr.snoc X70 N62_ g_b13
 have K71 := K63.wr W70 (Or.inr sz_b13)
 have A73_ : Arv Z h70 b13 c13 .char (7 : Int32) [.int qi4, .int qi5, .int qi6, .int qi7, .int qi8, .int qi9, .int qi10] (.int 0) := by have q := Arv.set (v := .int (nar .char qi10)) Ar69 q69 S69 N69 H69 Gf69 (fits_nar_char _) W70 6 (by decide) (lE rfl); rw [((own_nar_lat hl72) : nar .char qi10 = qi10)] at q; exact q
 have hp75 : ∀ c ∈ ([qi4, qi5, qi6, qi7, qi8, qi9, qi10] : List Int32), ¬ c < 0 ∧ ¬ (255 : Int32) < c := (List.forall_mem_cons.mpr ⟨hl24, (List.forall_mem_cons.mpr ⟨hl32, (List.forall_mem_cons.mpr ⟨hl40, (List.forall_mem_cons.mpr ⟨hl48, (List.forall_mem_cons.mpr ⟨hl56, (List.forall_mem_cons.mpr ⟨hl64, (List.forall_mem_cons.mpr ⟨hl72, (fun _ q => nomatch q)⟩)⟩)⟩)⟩)⟩)⟩)⟩)
 have g_b9 : n0 ≤ b9 := Nat.le_trans (Nat.le_trans (Nat.le_of_eq X00.1.symm) X00.2.1) (Nat.le_of_eq g9.symm)
 have O83 := O22.ext E13
 have O84 := O83.wr W21 g_b13
 have O85 := O84.wr W30 g_b13
 have O86 := O85.wr W38 g_b13
 have O87 := O86.wr W46 g_b13
 have O88 := O87.wr W54 g_b13
 have O89 := O88.wr W62 g_b13
 have O90 := O89.wr W70 g_b13
 have E91_ := A9.ext E13
 have E92_ := E91_.wr W21
 have E93_ := E92_.wr W30
 have E94_ := E93_.wr W38
 have E95_ := E94_.wr W46
 have E96_ := E95_.wr W54
 have E97_ := E96_.wr W62
 have E98_ := E97_.wr W70
 have F99_ := F12_.ext E13
 have F100_ := F99_.other W21 (Or.inl (Nat.ne_of_lt (Nat.lt_of_lt_of_le A9.lt (Nat.le_of_eq g13.symm))))
 have F101_ := F100_.other W30 (Or.inl (Nat.ne_of_lt (Nat.lt_of_lt_of_le A9.lt (Nat.le_of_eq g13.symm))))
 have F102_ := F101_.other W38 (Or.inl (Nat.ne_of_lt (Nat.lt_of_lt_of_le A9.lt (Nat.le_of_eq g13.symm))))
 have F103_ := F102_.other W46 (Or.inl (Nat.ne_of_lt (Nat.lt_of_lt_of_le A9.lt (Nat.le_of_eq g13.symm))))
 have F104_ := F103_.other W54 (Or.inl (Nat.ne_of_lt (Nat.lt_of_lt_of_le A9.lt (Nat.le_of_eq g13.symm))))
 have F105_ := F104_.other W62 (Or.inl (Nat.ne_of_lt (Nat.lt_of_lt_of_le A9.lt (Nat.le_of_eq g13.symm))))
 have F106_ := F105_.other W70 (Or.inl (Nat.ne_of_lt (Nat.lt_of_lt_of_le A9.lt (Nat.le_of_eq g13.symm))))
 have F107_ := F11_.ext E13
 have F108_ := F107_.other W21 (Or.inl (Nat.ne_of_lt (Nat.lt_of_lt_of_le A9.lt (Nat.le_of_eq g13.symm))))
 have F109_ := F108_.other W30 (Or.inl (Nat.ne_of_lt (Nat.lt_of_lt_of_le A9.lt (Nat.le_of_eq g13.symm))))
 have F110_ := F109_.other W38 (Or.inl (Nat.ne_of_lt (Nat.lt_of_lt_of_le A9.lt (Nat.le_of_eq g13.symm))))
 have F111_ := F110_.other W46 (Or.inl (Nat.ne_of_lt (Nat.lt_of_lt_of_le A9.lt (Nat.le_of_eq g13.symm))))
 have F112_ := F111_.other W54 (Or.inl (Nat.ne_of_lt (Nat.lt_of_lt_of_le A9.lt (Nat.le_of_eq g13.symm))))
 have F113_ := F112_.other W62 (Or.inl (Nat.ne_of_lt (Nat.lt_of_lt_of_le A9.lt (Nat.le_of_eq g13.symm))))
 have F114_ := F113_.other W70 (Or.inl (Nat.ne_of_lt (Nat.lt_of_lt_of_le A9.lt (Nat.le_of_eq g13.symm))))
 obtain ⟨_, T74, L74, X74, hQ74, st74⟩ := own_cb 2 11 1 7 3 18 (X70.specialBack hx (y := Y1_) rfl hown (mvT hZ (w9_ hw)) (mvT hZ (w10_ hw)) (mvT hZ (w11_ hw)) (by decide) (StrChars.Road.backV (W := 1) hZ (own_ws hw) (kI := 4) (w7_ hw) (cs := ([qi4, qi5, qi6, qi7, qi8, qi9, qi10] : List Int32)) (bs := ([qi4, qi5, qi6, qi7, qi8, qi9, qi10] : List Int32).map (fun c => c.toInt8.toInt32)) (n := 7) g_b9 (Nat.le_trans (Nat.le_of_eq O90.1.symm) O90.2.1) E98_ F106_ F114_ A73_ (O2.ext O90.2) P5 rfl rfl (lE rfl) (lE rfl) hp75 rfl (lE rfl) (lE rfl)) (g := (mkF m 297 #[rv qa1, iv qi2] [.ref b13, .ref b9, .ref b9])) rfl hml.symm (Steps.refl _) (a := b9) (argsL := [.ref b13]) (rest := [.ref b9]) (lenOf pd1 rfl) rfl (own_hw rfl) (hb hby d0_297) (fun _ _ => ⟨rfl, e70, (lE rfl : 2 + 1 ≤ _), (lE rfl : 11 + 7 ≤ _)⟩)) rfl rfl
 obtain ⟨rfl, N74q, K74q, E74q, C74q, b115, c115_, u115, g115, ne115, V115_, A115_⟩ := hQ74
 have N74 := Fr.app N70_ N74q
 have sz_b9 : h0.size ≤ b9 := (Nat.le_of_eq g9.symm)
 have K116 := K71.trans K74q (allS (Or.inr sz_b9) all0)
 have sz_b115 : h0.size ≤ b115 := Nat.le_trans K71.1 g115
 have E117_ := E98_.keep K74q
 refine own_lvF X74 Bd (.ref b9) rfl ⟨b9, b115, c115_, rfl, N74, K116, sz_b9, sz_b115, (Ne.symm ne115), E117_, C74q, V115_, A115_⟩ rfl (fun fs hr => pre0 _ (by
  show Sx p e below s₁ m 0 #[rv qa1, iv qi2] [] _
  refine zj X0 Bd d0_0 rfl ?_
  refine zp (pc' := 15) X0 Bd d0_1 (XT.i0_ne_t (hc1 : ¬ (qi2 = (0 : Int32)))) rfl ?_
  refine zj X0 Bd d0_15 rfl ?_
  refine zc X0 Bd d0_16 ?_
  refine zy (pc' := 37) X0 Bd d0_17 (XT.ii_ne_t (hc2 : ¬ (qi2 = (1 : Int32)))) rfl ?_
  refine zj X0 Bd d0_37 rfl ?_
  refine zc X0 Bd d0_38 ?_
  refine zy (pc' := 65) X0 Bd d0_39 (XT.ii_ne_t (hc3 : ¬ (qi2 = (2 : Int32)))) rfl ?_
  refine zj X0 Bd d0_65 rfl ?_
  refine zc X0 Bd d0_66 ?_
  refine zy (pc' := 99) X0 Bd d0_67 (XT.ii_ne_t (hc4 : ¬ (qi2 = (3 : Int32)))) rfl ?_
  refine zj X0 Bd d0_99 rfl ?_
  refine zc X0 Bd d0_100 ?_
  refine zy (pc' := 139) X0 Bd d0_101 (XT.ii_ne_t (hc5 : ¬ (qi2 = (4 : Int32)))) rfl ?_
  refine zj X0 Bd d0_139 rfl ?_
  refine zc X0 Bd d0_140 ?_
  refine zy (pc' := 185) X0 Bd d0_141 (XT.ii_ne_t (hc6 : ¬ (qi2 = (5 : Int32)))) rfl ?_
  refine zj X0 Bd d0_185 rfl ?_
  refine zd X0 Bd d0_186 ?_
  refine zy (pc' := 239) X0 Bd d0_188 (XT.ii_ne_t (hc7 : ¬ (qi2 = (6 : Int32)))) rfl ?_
  refine zj X0 Bd d0_239 rfl ?_
  refine zd X0 Bd d0_240 ?_
  refine zn X0 Bd d0_242 (XT.ii_ne_f (hc8 : qi2 = (7 : Int32))) ?_
  refine st9 _ ?_
  refine XS.dup X9.here hx rfl (hb hby d0_248) rfl rfl ?_
  show Sx p e below T9 m 249 #[rv qa1, iv qi2] [.ref b9, .ref b9] _
  refine zd X9 Bd d0_249 ?_
  refine st13 _ ?_
  refine XS.dup X13.here hx rfl (hb hby d0_253) rfl rfl ?_
  refine zc X13 Bd d0_254 ?_
  refine zb X13 Bd d0_255 rfl rfl ?_
  refine zc X13 Bd d0_256 ?_
  refine X13.caload hx (j := (0 : Int32)) (v := (.int qi4)) (by rw [e13]; exact Ar16.1) (State.isArrayOf_alike hZ.alike Ar16.2.1) Ar16.2.2 hin19 hat19 (g := (mkF m 257 #[rv qa1, iv qi2] [.int 0, .ref qa1, .int 0, .ref b13, .ref b13, .ref b9, .ref b9])) rfl rfl (hb hby d0_257) _ ?_
  refine st21 _ ?_
  refine XS.dup X21.here hx rfl (hb hby d0_259) rfl rfl ?_
  refine zc X21 Bd d0_260 ?_
  refine zb X21 Bd d0_261 rfl rfl ?_
  refine zc X21 Bd d0_262 ?_
  refine X21.caload hx (j := (1 : Int32)) (v := (.int qi5)) (by rw [e21]; exact Ar26.1) (State.isArrayOf_alike hZ.alike Ar26.2.1) Ar26.2.2 hin28 hat28 (g := (mkF m 263 #[rv qa1, iv qi2] [.int 1, .ref qa1, .int 1, .ref b13, .ref b13, .ref b9, .ref b9])) rfl rfl (hb hby d0_263) _ ?_
  refine st30 _ ?_
  refine XS.dup X30.here hx rfl (hb hby d0_265) rfl rfl ?_
  refine zc X30 Bd d0_266 ?_
  refine zb X30 Bd d0_267 rfl rfl ?_
  refine zc X30 Bd d0_268 ?_
  refine X30.caload hx (j := (2 : Int32)) (v := (.int qi6)) (by rw [e30]; exact Ar34.1) (State.isArrayOf_alike hZ.alike Ar34.2.1) Ar34.2.2 hin36 hat36 (g := (mkF m 269 #[rv qa1, iv qi2] [.int 2, .ref qa1, .int 2, .ref b13, .ref b13, .ref b9, .ref b9])) rfl rfl (hb hby d0_269) _ ?_
  refine st38 _ ?_
  refine XS.dup X38.here hx rfl (hb hby d0_271) rfl rfl ?_
  refine zc X38 Bd d0_272 ?_
  refine zb X38 Bd d0_273 rfl rfl ?_
  refine zc X38 Bd d0_274 ?_
  refine X38.caload hx (j := (3 : Int32)) (v := (.int qi7)) (by rw [e38]; exact Ar42.1) (State.isArrayOf_alike hZ.alike Ar42.2.1) Ar42.2.2 hin44 hat44 (g := (mkF m 275 #[rv qa1, iv qi2] [.int 3, .ref qa1, .int 3, .ref b13, .ref b13, .ref b9, .ref b9])) rfl rfl (hb hby d0_275) _ ?_
  show Sx p e below T38 m 276 #[rv qa1, iv qi2] [.int qi7, .int 3, .ref b13, .ref b13, .ref b9, .ref b9] _
  refine st46 _ ?_
  refine XS.dup X46.here hx rfl (hb hby d0_277) rfl rfl ?_
  refine zc X46 Bd d0_278 ?_
  refine zb X46 Bd d0_279 rfl rfl ?_
  refine zc X46 Bd d0_280 ?_
  refine X46.caload hx (j := (4 : Int32)) (v := (.int qi8)) (by rw [e46]; exact Ar50.1) (State.isArrayOf_alike hZ.alike Ar50.2.1) Ar50.2.2 hin52 hat52 (g := (mkF m 281 #[rv qa1, iv qi2] [.int 4, .ref qa1, .int 4, .ref b13, .ref b13, .ref b9, .ref b9])) rfl rfl (hb hby d0_281) _ ?_
  refine st54 _ ?_
  refine XS.dup X54.here hx rfl (hb hby d0_283) rfl rfl ?_
  refine zc X54 Bd d0_284 ?_
  refine zb X54 Bd d0_285 rfl rfl ?_
  refine zc X54 Bd d0_286 ?_
  refine X54.caload hx (j := (5 : Int32)) (v := (.int qi9)) (by rw [e54]; exact Ar58.1) (State.isArrayOf_alike hZ.alike Ar58.2.1) Ar58.2.2 hin60 hat60 (g := (mkF m 287 #[rv qa1, iv qi2] [.int 5, .ref qa1, .int 5, .ref b13, .ref b13, .ref b9, .ref b9])) rfl rfl (hb hby d0_287) _ ?_
  refine st62 _ ?_
  refine XS.dup X62.here hx rfl (hb hby d0_289) rfl rfl ?_
  refine zd X62 Bd d0_290 ?_
  refine zb X62 Bd d0_292 rfl rfl ?_
  refine zd X62 Bd d0_293 ?_
  refine X62.caload hx (j := (6 : Int32)) (v := (.int qi10)) (by rw [e62]; exact Ar66.1) (State.isArrayOf_alike hZ.alike Ar66.2.1) Ar66.2.2 hin68 hat68 (g := (mkF m 295 #[rv qa1, iv qi2] [.int 6, .ref qa1, .int 6, .ref b13, .ref b13, .ref b9, .ref b9])) rfl rfl (hb hby d0_295) _ ?_
  refine st70 _ ?_
  refine st74.trans ?_
  exact retOut X74 hx Bd.returns rfl (Or.inr (Or.inr (Or.inr (Or.inr ⟨rfl, rfl, rfl⟩)))) (hb hby d0_300) hr))
-- com/example/hearthline/hearthline/session/SpecialValueOfPinLaw.ref(Ljava/lang/String;)Lcom/example/hearthline/hearthline/session/Session$Measurement$SpecialValue;
def Q20 (Z : State) (Gg0 : Addr) (Gg2 : Addr) (Gg3 : Addr) (Gg4 : Addr) (Gg5 : Addr) (qi3 : Int32) (qi4 : Int32) (qi5 : Int32) (qi6 : Int32) (qi7 : Int32) (qi8 : Int32) (qi9 : Int32) (h0 : Heap) (n0 : Nat) (v : Option Value) (h : Heap) (L : List Loc) : Prop := v = some (own_sv Gg0 Gg2 Gg3 Gg4 Gg5 ([qi3, qi4, qi5, qi6, qi7, qi8, qi9] : List Int32)) ∧ Fr n0 L ∧ h = h0
theorem rm20 (l : Launch) (Z : State) (a0 : Array Value) (hw : HW a0 Z) (G1 : Int32) (Gg0 : Addr) (Gg1 : Addr) (Gg2 : Addr) (Gg3 : Addr) (Gg4 : Addr) (Gg5 : Addr) (Gg6 : Addr) (Gg7 : Addr) (Gg8 : Addr) (Gg9 : Addr) (Gg10 : Addr) (Gg11 : Addr) (Gg12 : Addr) (Gg13 : Addr) (Gg14 : Addr) (Gg15 : Addr) (Kg16 : ClassId) (Kg17 : ClassId) (Kg18 : ClassId) (Kg19 : ClassId) (Kg20 : ClassId) (Kg21 : ClassId) (qa1 : Addr) (qa2 : Addr) (qi3 : Int32) (qi4 : Int32) (qi5 : Int32) (qi6 : Int32) (qi7 : Int32) (qi8 : Int32) (qi9 : Int32) (qk10 : ClassId) (h0 : Heap) (n0 : Nat) (X00 : Old Z n0 h0) (O2 : Sta Z Z.heap "java/lang/String" "COMPACT_STRINGS" "Z" (.int G1)) (P5 : ¬ (G1 = (0 : Int32))) (hEN : OwnEN Z Gg0 Gg1 Gg2 Gg3 Gg4 Gg5 Gg6 Gg7 Gg8 Gg9 Gg10 Gg11 Gg12 Gg13 Gg14 Gg15 Kg16 Kg17 Kg18 Kg19 Kg20 Kg21) (E_qa1 : Exa Z h0 qa1 "java/lang/String") (F_qa1_coder : Fld Z h0 qa1 "java/lang/String" "coder" "B" (.int 0)) (F_qa1_value : Fld Z h0 qa1 "java/lang/String" "value" "[B" (.ref qa2)) (hp_qa1 : ∀ c ∈ ([qi3, qi4, qi5, qi6, qi7, qi8, qi9] : List Int32), ¬ c < 0 ∧ ¬ (255 : Int32) < c) (A_qa2 : Arv Z h0 qa2 qk10 .byte (7 : Int32) ((([qi3, qi4, qi5, qi6, qi7, qi8, qi9] : List Int32).map (fun c => c.toInt8.toInt32)).map Value.int) (.int 0)) :
    MF l Z Y3_ method_4_code 3 (some (.object "com/example/hearthline/hearthline/session/Session$Measurement$SpecialValue")) (Rm 2 0 0 25) #[.ref qa1] h0 (Q20 Z Gg0 Gg2 Gg3 Gg4 Gg5 qi3 qi4 qi5 qi6 qi7 qi8 qi9 h0 n0) := by
 refine own_sF pn0 rfl (fun m => ef4 m qa1) ?_
 intro p e s m below meth c s₁ Bd hZ hh hx hby hml hown hnm X0 e0 pre0
 have N0 := Fr.nil n0
 have hcd2 : StrChars.Road.CodA ([qi3, qi4, qi5, qi6, qi7, qi8, qi9] : List Int32) 0 (7 : Int32) ((([qi3, qi4, qi5, qi6, qi7, qi8, qi9] : List Int32).map (fun c => c.toInt8.toInt32)).map Value.int) := StrChars.Road.codOf (n := 7) rfl (fun x hx => (hp_qa1 x hx).2)
 have hbd2 : ∀ x ∈ ([qi3, qi4, qi5, qi6, qi7, qi8, qi9] : List Int32), ¬ x < 0 ∧ ¬ (65535 : Int32) < x := own_up _ hp_qa1
 obtain ⟨cq1, kq1, q1a, q1b, q1c⟩ := isOf hZ e0 E_qa1
 obtain ⟨_, T1, L1, X1, hQ1, st1⟩ := own_cb0 0 0 0 0 0 0 (X0.virtualBack hx (y := Y4_) (z := Y4_) hown (mvT hZ (w38_ hw)) (mvT hZ (w39_ hw)) (notFace_of_selects (args := #[]) (mvT hZ (w41_ hw))) (mvT hZ (w41_ hw)) (mvT hZ (w40_ hw)) (by decide) (StrChars.Road.lenW (W := 0) hZ (own_wl hw) (kI := 4) (w7_ hw) E_qa1 F_qa1_value F_qa1_coder A_qa2 hcd2 hbd2 (O2.ext X00.2) P5 (lE rfl) (lE rfl) (lE rfl)) q1a q1c (g := (mkF m 1 #[rv qa1, .unset, .unset] [.ref qa1])) rfl hml.symm (Steps.refl _) (argsL := []) (rest := []) (lenOf pd3 rfl) rfl (own_hw rfl) (hb hby d3_1) (fun _ _ => ⟨rfl, e0, (lE rfl : 0 + 0 ≤ _), (lE rfl : 0 + 0 ≤ _)⟩)) rfl rfl
 dsimp only [Pt.U, Pt.locs, Pt.cells, Pt.slots] at hQ1
 obtain ⟨rfl, rfl, e1q⟩ := hQ1
 have N1 := Fr.app N0 (Fr.nil n0)
 refine own_lvF X1 Bd .null e1q ⟨(by simp [own_sv]), N1, rfl⟩ rfl (fun fs hr => pre0 _ (by
  show Sx p e below s₁ m 0 #[rv qa1, .unset, .unset] [] _
  refine zb X0 Bd d3_0 rfl rfl ?_
  refine st1.trans ?_
  refine zt X1 Bd d3_4 (l' := #[rv qa1, iv 7, .unset]) rfl ?_
  refine zj X1 Bd d3_5 rfl ?_
  refine zc X1 Bd d3_6 ?_
  refine zy (pc' := 46) X1 Bd d3_7 (XT.ii_ne_t ((by decide) : ¬ ((7 : Int32) = (3 : Int32)))) rfl ?_
  refine zj X1 Bd d3_46 rfl ?_
  refine zc X1 Bd d3_47 ?_
  refine zy (pc' := 151) X1 Bd d3_48 (XT.ii_ne_t ((by decide) : ¬ ((7 : Int32) = (4 : Int32)))) rfl ?_
  refine zj X1 Bd d3_151 rfl ?_
  refine zd X1 Bd d3_152 ?_
  refine zy (pc' := 245) X1 Bd d3_154 (XT.ii_ne_t ((by decide) : ¬ ((7 : Int32) = (8 : Int32)))) rfl ?_
  refine XS.aconstNull X1.here hx rfl (hb hby d3_245) ?_
  exact retOut X1 hx Bd.returns rfl (Or.inr (Or.inr (Or.inr (Or.inr ⟨rfl, rfl, rfl⟩)))) (hb hby d3_246) hr))
theorem d0_301 : decode method_3_code 301 = .ok (.new 23, 3) := by decide +kernel
theorem d0_304 : decode method_3_code 304 = .ok (.dup, 1) := by decide +kernel
theorem d0_305 : decode method_3_code 305 = .ok (.bipush 8, 2) := by decide +kernel
theorem d0_307 : decode method_3_code 307 = .ok (.newarray .char, 2) := by decide +kernel
theorem d0_309 : decode method_3_code 309 = .ok (.dup, 1) := by decide +kernel
theorem d0_310 : decode method_3_code 310 = .ok (.iconst 0, 1) := by decide +kernel
theorem d0_311 : decode method_3_code 311 = .ok (.aload_n 0, 1) := by decide +kernel
theorem d0_312 : decode method_3_code 312 = .ok (.iconst 0, 1) := by decide +kernel
theorem d0_313 : decode method_3_code 313 = .ok (.caload, 1) := by decide +kernel
theorem d0_314 : decode method_3_code 314 = .ok (.castore, 1) := by decide +kernel
theorem d0_315 : decode method_3_code 315 = .ok (.dup, 1) := by decide +kernel
theorem d0_316 : decode method_3_code 316 = .ok (.iconst 1, 1) := by decide +kernel
theorem d0_317 : decode method_3_code 317 = .ok (.aload_n 0, 1) := by decide +kernel
theorem d0_318 : decode method_3_code 318 = .ok (.iconst 1, 1) := by decide +kernel
theorem d0_319 : decode method_3_code 319 = .ok (.caload, 1) := by decide +kernel
theorem d0_320 : decode method_3_code 320 = .ok (.castore, 1) := by decide +kernel
theorem d0_321 : decode method_3_code 321 = .ok (.dup, 1) := by decide +kernel
theorem d0_322 : decode method_3_code 322 = .ok (.iconst 2, 1) := by decide +kernel
theorem d0_323 : decode method_3_code 323 = .ok (.aload_n 0, 1) := by decide +kernel
theorem d0_324 : decode method_3_code 324 = .ok (.iconst 2, 1) := by decide +kernel
theorem d0_325 : decode method_3_code 325 = .ok (.caload, 1) := by decide +kernel
theorem d0_326 : decode method_3_code 326 = .ok (.castore, 1) := by decide +kernel
theorem d0_327 : decode method_3_code 327 = .ok (.dup, 1) := by decide +kernel
theorem d0_328 : decode method_3_code 328 = .ok (.iconst 3, 1) := by decide +kernel
theorem d0_329 : decode method_3_code 329 = .ok (.aload_n 0, 1) := by decide +kernel
theorem d0_330 : decode method_3_code 330 = .ok (.iconst 3, 1) := by decide +kernel
theorem d0_331 : decode method_3_code 331 = .ok (.caload, 1) := by decide +kernel
theorem d0_332 : decode method_3_code 332 = .ok (.castore, 1) := by decide +kernel
theorem d0_333 : decode method_3_code 333 = .ok (.dup, 1) := by decide +kernel
theorem d0_334 : decode method_3_code 334 = .ok (.iconst 4, 1) := by decide +kernel
theorem d0_335 : decode method_3_code 335 = .ok (.aload_n 0, 1) := by decide +kernel
theorem d0_336 : decode method_3_code 336 = .ok (.iconst 4, 1) := by decide +kernel
theorem d0_337 : decode method_3_code 337 = .ok (.caload, 1) := by decide +kernel
theorem d0_338 : decode method_3_code 338 = .ok (.castore, 1) := by decide +kernel
theorem d0_339 : decode method_3_code 339 = .ok (.dup, 1) := by decide +kernel
theorem d0_340 : decode method_3_code 340 = .ok (.iconst 5, 1) := by decide +kernel
theorem d0_341 : decode method_3_code 341 = .ok (.aload_n 0, 1) := by decide +kernel
theorem d0_342 : decode method_3_code 342 = .ok (.iconst 5, 1) := by decide +kernel
theorem d0_343 : decode method_3_code 343 = .ok (.caload, 1) := by decide +kernel
theorem d0_344 : decode method_3_code 344 = .ok (.castore, 1) := by decide +kernel
theorem d0_345 : decode method_3_code 345 = .ok (.dup, 1) := by decide +kernel
theorem d0_346 : decode method_3_code 346 = .ok (.bipush 6, 2) := by decide +kernel
theorem d0_348 : decode method_3_code 348 = .ok (.aload_n 0, 1) := by decide +kernel
theorem d0_349 : decode method_3_code 349 = .ok (.bipush 6, 2) := by decide +kernel
theorem d0_351 : decode method_3_code 351 = .ok (.caload, 1) := by decide +kernel
theorem d0_352 : decode method_3_code 352 = .ok (.castore, 1) := by decide +kernel
theorem d0_353 : decode method_3_code 353 = .ok (.dup, 1) := by decide +kernel
theorem d0_354 : decode method_3_code 354 = .ok (.bipush 7, 2) := by decide +kernel
theorem d0_356 : decode method_3_code 356 = .ok (.aload_n 0, 1) := by decide +kernel
theorem d0_357 : decode method_3_code 357 = .ok (.bipush 7, 2) := by decide +kernel
theorem d0_359 : decode method_3_code 359 = .ok (.caload, 1) := by decide +kernel
theorem d0_360 : decode method_3_code 360 = .ok (.castore, 1) := by decide +kernel
theorem d0_361 : decode method_3_code 361 = .ok (.invokespecial 25, 3) := by decide +kernel
theorem d0_364 : decode method_3_code 364 = .ok (.areturn, 1) := by decide +kernel
-- com/example/hearthline/hearthline/session/SpecialValueOfPinLaw.str([CI)Ljava/lang/String;
def Q21 (Z : State) (qi4 : Int32) (qi5 : Int32) (qi6 : Int32) (qi7 : Int32) (qi8 : Int32) (qi9 : Int32) (qi10 : Int32) (qi11 : Int32) (h0 : Heap) (n0 : Nat) (v : Option Value) (h : Heap) (L : List Loc) : Prop := ∃ b9 : Addr, ∃ b128 : Addr, ∃ c128_ : ClassId, v = some (.ref b9) ∧ Fr n0 L ∧ Keep h0 h [] ∧ h0.size ≤ b9 ∧ h0.size ≤ b128 ∧ b9 ≠ b128 ∧ Exa Z h b9 "java/lang/String" ∧ Fld Z h b9 "java/lang/String" "coder" "B" (.int 0) ∧ Fld Z h b9 "java/lang/String" "value" "[B" (.ref b128) ∧ Arv Z h b128 c128_ .byte (8 : Int32) ((([qi4, qi5, qi6, qi7, qi8, qi9, qi10, qi11] : List Int32).map (fun c => c.toInt8.toInt32)).map Value.int) (.int 0)
theorem rm21 (l : Launch) (Z : State) (a0 : Array Value) (hw : HW a0 Z) (G1 : Int32) (qa1 : Addr) (qi2 : Int32) (qk3 : ClassId) (qi4 : Int32) (qi5 : Int32) (qi6 : Int32) (qi7 : Int32) (qi8 : Int32) (qi9 : Int32) (qi10 : Int32) (qi11 : Int32) (h0 : Heap) (n0 : Nat) (X00 : Old Z n0 h0) (O2 : Sta Z Z.heap "java/lang/String" "COMPACT_STRINGS" "Z" (.int G1)) (P5 : ¬ (G1 = (0 : Int32))) (hc1 : ¬ (qi2 = (0 : Int32))) (hc2 : ¬ (qi2 = (1 : Int32))) (hc3 : ¬ (qi2 = (2 : Int32))) (hc4 : ¬ (qi2 = (3 : Int32))) (hc5 : ¬ (qi2 = (4 : Int32))) (hc6 : ¬ (qi2 = (5 : Int32))) (hc7 : ¬ (qi2 = (6 : Int32))) (hc8 : ¬ (qi2 = (7 : Int32))) (A_qa1 : Arv Z h0 qa1 qk3 .char (8 : Int32) [.int qi4, .int qi5, .int qi6, .int qi7, .int qi8, .int qi9, .int qi10, .int qi11] (.int 0)) (hl24 : ¬ qi4 < 0 ∧ ¬ (255 : Int32) < qi4) (hl32 : ¬ qi5 < 0 ∧ ¬ (255 : Int32) < qi5) (hl40 : ¬ qi6 < 0 ∧ ¬ (255 : Int32) < qi6) (hl48 : ¬ qi7 < 0 ∧ ¬ (255 : Int32) < qi7) (hl56 : ¬ qi8 < 0 ∧ ¬ (255 : Int32) < qi8) (hl64 : ¬ qi9 < 0 ∧ ¬ (255 : Int32) < qi9) (hl72 : ¬ qi10 < 0 ∧ ¬ (255 : Int32) < qi10) (hl80 : ¬ qi11 < 0 ∧ ¬ (255 : Int32) < qi11) :
    MF l Z Y2_ method_3_code 2 (some (.object "java/lang/String")) (Rm 4 3 20 66) #[.ref qa1, .int qi2] h0 (Q21 Z qi4 qi5 qi6 qi7 qi8 qi9 qi10 qi11 h0 n0) := by
 refine own_sF pn0 rfl (fun m => ef1 m qa1 qi2) ?_
 intro p e s m below meth c s₁ Bd hZ hh hx hby hml hown hnm X0 e0 pre0
 have N0 := Fr.nil n0
 obtain ⟨T9, h9, X9, e9, E9, A9, D9, -, st9⟩ := newO X0 hx hZ hown (w6_ hw) (w7_ hw) (w8_ hw) e0 (g := (mkF m 301 #[rv qa1, iv qi2] [])) rfl (hb hby d0_301) (lE rfl) (lE rfl)
 obtain ⟨b9, g9⟩ : ∃ z, z = h0.size := ⟨_, rfl⟩
 rw [← g9] at A9 D9 st9
 replace X9 : Stand p l e (Rm 4 3 20 66) s m #[.ref qa1, .int qi2] below meth c T9 _ 1 4 := X9
 have K10 := (Keep.refl h0 []).ext E9
 have F11_ : Fld Z h9 b9 "java/lang/String" "coder" "B" (.int 0) := D9 (Or.inr (w32_ hw)) (ty := .byte) (by decide)
 have F12_ : Fld Z h9 b9 "java/lang/String" "value" "[B" .null := D9 (Or.inr (w34_ hw)) (ty := (.array .byte)) (by decide)
 obtain ⟨T13, h13, c13, X13, e13, E13, A13, st13⟩ := newP (aty := .char) X9 hx hZ (w1_ hw) e9 (g := (mkF m 307 #[rv qa1, iv qi2] [.int 8, .ref b9, .ref b9])) rfl (hb hby d0_307) rfl (by decide) (cap := 8) (by decide) (lE rfl) (lE rfl) (lE rfl)
 obtain ⟨b13, g13⟩ : ∃ z, z = h9.size := ⟨_, rfl⟩
 rw [← g13] at A13 st13
 replace X13 : Stand p l e (Rm 4 3 20 66) s m #[.ref qa1, .int qi2] below meth c T13 _ 2 12 := X13
 have K14 := K10.ext E13
 have A15_ : Arv Z h13 b13 c13 .char (8 : Int32) [.int 0, .int 0, .int 0, .int 0, .int 0, .int 0, .int 0, .int 0] (.int 0) := (Arv.new A13 (by decide)).pad (pad_rep [] (.int 0) 8)
 have A17_ := A_qa1.ext E9
 have A18_ := A17_.ext E13
 have av16 := A18_
 obtain ⟨cl16, Ar16, q16, S16, N16, H16, Gf16⟩ := av16
 have hin19 : ¬ ((0 : Int32) < 0 ∨ cl16.slots.size ≤ ((0 : Int32) : Int32).toNatClampNeg) := inb_of S16 (by decide)
 have hat19 : cl16.slots[((0 : Int32) : Int32).toNatClampNeg]? = some (.int qi4) := Has.at H16 hin19 rfl
 have av20 := A15_
 obtain ⟨cl20, Ar20, q20, S20, N20, H20, Gf20⟩ := av20
 have hin21 : ¬ ((0 : Int32) < 0 ∨ cl20.slots.size ≤ ((0 : Int32) : Int32).toNatClampNeg) := inb_of S20 (by decide)
 obtain ⟨T21, h21, X21, e21, W21, st21⟩ := stC X13 hx hZ e13 Ar20 (j := (0 : Int32)) hin21 (g := (mkF m 314 #[rv qa1, iv qi2] [.int qi4, .int 0, .ref b13, .ref b13, .ref b9, .ref b9])) rfl rfl (hb hby d0_314)
 have O22 := X00.ext E9
 have g_b13 : n0 ≤ b13 := Nat.le_trans (Nat.le_trans (Nat.le_of_eq O22.1.symm) O22.2.1) (Nat.le_of_eq g13.symm)
 have N21_ := Fr.snoc X21 N0 g_b13
 have sz_b13 : h0.size ≤ b13 := Nat.le_trans K10.1 (Nat.le_of_eq g13.symm)
 have K23 := K14.wr W21 (Or.inr sz_b13)
 have A25_ : Arv Z h21 b13 c13 .char (8 : Int32) [.int qi4, .int 0, .int 0, .int 0, .int 0, .int 0, .int 0, .int 0] (.int 0) := by have q := Arv.set (v := .int (nar .char qi4)) Ar20 q20 S20 N20 H20 Gf20 (fits_nar_char _) W21 0 (by decide) (lE rfl); rw [((own_nar_lat hl24) : nar .char qi4 = qi4)] at q; exact q
 have A27_ := A18_.other W21 (Nat.ne_of_lt (Nat.lt_of_lt_of_le (Nat.lt_of_lt_of_le A_qa1.lt E9.1) (Nat.le_of_eq g13.symm)))
 have av26 := A27_
 obtain ⟨cl26, Ar26, q26, S26, N26, H26, Gf26⟩ := av26
 have hin28 : ¬ ((1 : Int32) < 0 ∨ cl26.slots.size ≤ ((1 : Int32) : Int32).toNatClampNeg) := inb_of S26 (by decide)
 have hat28 : cl26.slots[((1 : Int32) : Int32).toNatClampNeg]? = some (.int qi5) := Has.at H26 hin28 rfl
 have av29 := A25_
 obtain ⟨cl29, Ar29, q29, S29, N29, H29, Gf29⟩ := av29
 have hin30 : ¬ ((1 : Int32) < 0 ∨ cl29.slots.size ≤ ((1 : Int32) : Int32).toNatClampNeg) := inb_of S29 (by decide)
 obtain ⟨T30, h30, X30, e30, W30, st30⟩ := stC X21 hx hZ e21 Ar29 (j := (1 : Int32)) hin30 (g := (mkF m 320 #[rv qa1, iv qi2] [.int qi5, .int 1, .ref b13, .ref b13, .ref b9, .ref b9])) rfl rfl (hb hby d0_320)
 have N30_ := Fr.snoc X30 N21_ g_b13
 have K31 := K23.wr W30 (Or.inr sz_b13)
 have A33_ : Arv Z h30 b13 c13 .char (8 : Int32) [.int qi4, .int qi5, .int 0, .int 0, .int 0, .int 0, .int 0, .int 0] (.int 0) := by have q := Arv.set (v := .int (nar .char qi5)) Ar29 q29 S29 N29 H29 Gf29 (fits_nar_char _) W30 1 (by decide) (lE rfl); rw [((own_nar_lat hl32) : nar .char qi5 = qi5)] at q; exact q
 have A35_ := A27_.other W30 (Nat.ne_of_lt (Nat.lt_of_lt_of_le (Nat.lt_of_lt_of_le A_qa1.lt E9.1) (Nat.le_of_eq g13.symm)))
 have av34 := A35_
 obtain ⟨cl34, Ar34, q34, S34, N34, H34, Gf34⟩ := av34
 have hin36 : ¬ ((2 : Int32) < 0 ∨ cl34.slots.size ≤ ((2 : Int32) : Int32).toNatClampNeg) := inb_of S34 (by decide)
 have hat36 : cl34.slots[((2 : Int32) : Int32).toNatClampNeg]? = some (.int qi6) := Has.at H34 hin36 rfl
 have av37 := A33_
 obtain ⟨cl37, Ar37, q37, S37, N37, H37, Gf37⟩ := av37
 have hin38 : ¬ ((2 : Int32) < 0 ∨ cl37.slots.size ≤ ((2 : Int32) : Int32).toNatClampNeg) := inb_of S37 (by decide)
 obtain ⟨T38, h38, X38, e38, W38, st38⟩ := stC X30 hx hZ e30 Ar37 (j := (2 : Int32)) hin38 (g := (mkF m 326 #[rv qa1, iv qi2] [.int qi6, .int 2, .ref b13, .ref b13, .ref b9, .ref b9])) rfl rfl (hb hby d0_326)
 have N38_ := Fr.snoc X38 N30_ g_b13
 have K39 := K31.wr W38 (Or.inr sz_b13)
 have A41_ : Arv Z h38 b13 c13 .char (8 : Int32) [.int qi4, .int qi5, .int qi6, .int 0, .int 0, .int 0, .int 0, .int 0] (.int 0) := by have q := Arv.set (v := .int (nar .char qi6)) Ar37 q37 S37 N37 H37 Gf37 (fits_nar_char _) W38 2 (by decide) (lE rfl); rw [((own_nar_lat hl40) : nar .char qi6 = qi6)] at q; exact q
 have A43_ := A35_.other W38 (Nat.ne_of_lt (Nat.lt_of_lt_of_le (Nat.lt_of_lt_of_le A_qa1.lt E9.1) (Nat.le_of_eq g13.symm)))
 have av42 := A43_
 obtain ⟨cl42, Ar42, q42, S42, N42, H42, Gf42⟩ := av42
 have hin44 : ¬ ((3 : Int32) < 0 ∨ cl42.slots.size ≤ ((3 : Int32) : Int32).toNatClampNeg) := inb_of S42 (by decide)
 have hat44 : cl42.slots[((3 : Int32) : Int32).toNatClampNeg]? = some (.int qi7) := Has.at H42 hin44 rfl
 have av45 := A41_
 obtain ⟨cl45, Ar45, q45, S45, N45, H45, Gf45⟩ := av45
 have hin46 : ¬ ((3 : Int32) < 0 ∨ cl45.slots.size ≤ ((3 : Int32) : Int32).toNatClampNeg) := inb_of S45 (by decide)
 obtain ⟨T46, h46, X46, e46, W46, st46⟩ := stC X38 hx hZ e38 Ar45 (j := (3 : Int32)) hin46 (g := (mkF m 332 #[rv qa1, iv qi2] [.int qi7, .int 3, .ref b13, .ref b13, .ref b9, .ref b9])) rfl rfl (hb hby d0_332)
 have N46_ := Fr.snoc X46 N38_ g_b13
 have K47 := K39.wr W46 (Or.inr sz_b13)
 have A49_ : Arv Z h46 b13 c13 .char (8 : Int32) [.int qi4, .int qi5, .int qi6, .int qi7, .int 0, .int 0, .int 0, .int 0] (.int 0) := by have q := Arv.set (v := .int (nar .char qi7)) Ar45 q45 S45 N45 H45 Gf45 (fits_nar_char _) W46 3 (by decide) (lE rfl); rw [((own_nar_lat hl48) : nar .char qi7 = qi7)] at q; exact q
 have A51_ := A43_.other W46 (Nat.ne_of_lt (Nat.lt_of_lt_of_le (Nat.lt_of_lt_of_le A_qa1.lt E9.1) (Nat.le_of_eq g13.symm)))
 have av50 := A51_
 obtain ⟨cl50, Ar50, q50, S50, N50, H50, Gf50⟩ := av50
 have hin52 : ¬ ((4 : Int32) < 0 ∨ cl50.slots.size ≤ ((4 : Int32) : Int32).toNatClampNeg) := inb_of S50 (by decide)
 have hat52 : cl50.slots[((4 : Int32) : Int32).toNatClampNeg]? = some (.int qi8) := Has.at H50 hin52 rfl
 have av53 := A49_
 obtain ⟨cl53, Ar53, q53, S53, N53, H53, Gf53⟩ := av53
 have hin54 : ¬ ((4 : Int32) < 0 ∨ cl53.slots.size ≤ ((4 : Int32) : Int32).toNatClampNeg) := inb_of S53 (by decide)
 obtain ⟨T54, h54, X54, e54, W54, st54⟩ := stC X46 hx hZ e46 Ar53 (j := (4 : Int32)) hin54 (g := (mkF m 338 #[rv qa1, iv qi2] [.int qi8, .int 4, .ref b13, .ref b13, .ref b9, .ref b9])) rfl rfl (hb hby d0_338)
 have N54_ := Fr.snoc X54 N46_ g_b13
 have K55 := K47.wr W54 (Or.inr sz_b13)
 have A57_ : Arv Z h54 b13 c13 .char (8 : Int32) [.int qi4, .int qi5, .int qi6, .int qi7, .int qi8, .int 0, .int 0, .int 0] (.int 0) := by have q := Arv.set (v := .int (nar .char qi8)) Ar53 q53 S53 N53 H53 Gf53 (fits_nar_char _) W54 4 (by decide) (lE rfl); rw [((own_nar_lat hl56) : nar .char qi8 = qi8)] at q; exact q
 have A59_ := A51_.other W54 (Nat.ne_of_lt (Nat.lt_of_lt_of_le (Nat.lt_of_lt_of_le A_qa1.lt E9.1) (Nat.le_of_eq g13.symm)))
 have av58 := A59_
 obtain ⟨cl58, Ar58, q58, S58, N58, H58, Gf58⟩ := av58
 have hin60 : ¬ ((5 : Int32) < 0 ∨ cl58.slots.size ≤ ((5 : Int32) : Int32).toNatClampNeg) := inb_of S58 (by decide)
 have hat60 : cl58.slots[((5 : Int32) : Int32).toNatClampNeg]? = some (.int qi9) := Has.at H58 hin60 rfl
 have av61 := A57_
 obtain ⟨cl61, Ar61, q61, S61, N61, H61, Gf61⟩ := av61
 have hin62 : ¬ ((5 : Int32) < 0 ∨ cl61.slots.size ≤ ((5 : Int32) : Int32).toNatClampNeg) := inb_of S61 (by decide)
 obtain ⟨T62, h62, X62, e62, W62, st62⟩ := stC X54 hx hZ e54 Ar61 (j := (5 : Int32)) hin62 (g := (mkF m 344 #[rv qa1, iv qi2] [.int qi9, .int 5, .ref b13, .ref b13, .ref b9, .ref b9])) rfl rfl (hb hby d0_344)
 have N62_ := Fr.snoc X62 N54_ g_b13
 have K63 := K55.wr W62 (Or.inr sz_b13)
 have A65_ : Arv Z h62 b13 c13 .char (8 : Int32) [.int qi4, .int qi5, .int qi6, .int qi7, .int qi8, .int qi9, .int 0, .int 0] (.int 0) := by have q := Arv.set (v := .int (nar .char qi9)) Ar61 q61 S61 N61 H61 Gf61 (fits_nar_char _) W62 5 (by decide) (lE rfl); rw [((own_nar_lat hl64) : nar .char qi9 = qi9)] at q; exact q
 have A67_ := A59_.other W62 (Nat.ne_of_lt (Nat.lt_of_lt_of_le (Nat.lt_of_lt_of_le A_qa1.lt E9.1) (Nat.le_of_eq g13.symm)))
 have av66 := A67_
 obtain ⟨cl66, Ar66, q66, S66, N66, H66, Gf66⟩ := av66
 have hin68 : ¬ ((6 : Int32) < 0 ∨ cl66.slots.size ≤ ((6 : Int32) : Int32).toNatClampNeg) := inb_of S66 (by decide)
 have hat68 : cl66.slots[((6 : Int32) : Int32).toNatClampNeg]? = some (.int qi10) := Has.at H66 hin68 rfl
 have av69 := A65_
 obtain ⟨cl69, Ar69, q69, S69, N69, H69, Gf69⟩ := av69
 have hin70 : ¬ ((6 : Int32) < 0 ∨ cl69.slots.size ≤ ((6 : Int32) : Int32).toNatClampNeg) := inb_of S69 (by decide)
 obtain ⟨T70, h70, X70, e70, W70, st70⟩ := stC X62 hx hZ e62 Ar69 (j := (6 : Int32)) hin70 (g := (mkF m 352 #[rv qa1, iv qi2] [.int qi10, .int 6, .ref b13, .ref b13, .ref b9, .ref b9])) rfl rfl (hb hby d0_352)
 have N70_ := Fr.snoc X70 N62_ g_b13
 have K71 := K63.wr W70 (Or.inr sz_b13)
 have A73_ : Arv Z h70 b13 c13 .char (8 : Int32) [.int qi4, .int qi5, .int qi6, .int qi7, .int qi8, .int qi9, .int qi10, .int 0] (.int 0) := by have q := Arv.set (v := .int (nar .char qi10)) Ar69 q69 S69 N69 H69 Gf69 (fits_nar_char _) W70 6 (by decide) (lE rfl); rw [((own_nar_lat hl72) : nar .char qi10 = qi10)] at q; exact q
 have A75_ := A67_.other W70 (Nat.ne_of_lt (Nat.lt_of_lt_of_le (Nat.lt_of_lt_of_le A_qa1.lt E9.1) (Nat.le_of_eq g13.symm)))
 have av74 := A75_
 obtain ⟨cl74, Ar74, q74, S74, N74, H74, Gf74⟩ := av74
 have hin76 : ¬ ((7 : Int32) < 0 ∨ cl74.slots.size ≤ ((7 : Int32) : Int32).toNatClampNeg) := inb_of S74 (by decide)
 have hat76 : cl74.slots[((7 : Int32) : Int32).toNatClampNeg]? = some (.int qi11) := Has.at H74 hin76 rfl
 have av77 := A73_
 obtain ⟨cl77, Ar77, q77, S77, N77, H77, Gf77⟩ := av77
 have hin78 : ¬ ((7 : Int32) < 0 ∨ cl77.slots.size ≤ ((7 : Int32) : Int32).toNatClampNeg) := inb_of S77 (by decide)
 obtain ⟨T78, h78, X78, e78, W78, st78⟩ := stC X70 hx hZ e70 Ar77 (j := (7 : Int32)) hin78 (g := (mkF m 360 #[rv qa1, iv qi2] [.int qi11, .int 7, .ref b13, .ref b13, .ref b9, .ref b9])) rfl rfl (hb hby d0_360)
 have N78_ := Fr.snoc X78 N70_ g_b13
 have K79 := K71.wr W78 (Or.inr sz_b13)
 have A81_ : Arv Z h78 b13 c13 .char (8 : Int32) [.int qi4, .int qi5, .int qi6, .int qi7, .int qi8, .int qi9, .int qi10, .int qi11] (.int 0) := by have q := Arv.set (v := .int (nar .char qi11)) Ar77 q77 S77 N77 H77 Gf77 (fits_nar_char _) W78 7 (by decide) (lE rfl); rw [((own_nar_lat hl80) : nar .char qi11 = qi11)] at q; exact q
 have hp83 : ∀ c ∈ ([qi4, qi5, qi6, qi7, qi8, qi9, qi10, qi11] : List Int32), ¬ c < 0 ∧ ¬ (255 : Int32) < c := (List.forall_mem_cons.mpr ⟨hl24, (List.forall_mem_cons.mpr ⟨hl32, (List.forall_mem_cons.mpr ⟨hl40, (List.forall_mem_cons.mpr ⟨hl48, (List.forall_mem_cons.mpr ⟨hl56, (List.forall_mem_cons.mpr ⟨hl64, (List.forall_mem_cons.mpr ⟨hl72, (List.forall_mem_cons.mpr ⟨hl80, (fun _ q => nomatch q)⟩)⟩)⟩)⟩)⟩)⟩)⟩)⟩)
 have g_b9 : n0 ≤ b9 := Nat.le_trans (Nat.le_trans (Nat.le_of_eq X00.1.symm) X00.2.1) (Nat.le_of_eq g9.symm)
 have O92 := O22.ext E13
 have O93 := O92.wr W21 g_b13
 have O94 := O93.wr W30 g_b13
 have O95 := O94.wr W38 g_b13
 have O96 := O95.wr W46 g_b13
 have O97 := O96.wr W54 g_b13
 have O98 := O97.wr W62 g_b13
 have O99 := O98.wr W70 g_b13
 have O100 := O99.wr W78 g_b13
 have E101_ := A9.ext E13
 have E102_ := E101_.wr W21
 have E103_ := E102_.wr W30
 have E104_ := E103_.wr W38
 have E105_ := E104_.wr W46
 have E106_ := E105_.wr W54
 have E107_ := E106_.wr W62
 have E108_ := E107_.wr W70
 have E109_ := E108_.wr W78
 have F110_ := F12_.ext E13
 have F111_ := F110_.other W21 (Or.inl (Nat.ne_of_lt (Nat.lt_of_lt_of_le A9.lt (Nat.le_of_eq g13.symm))))
 have F112_ := F111_.other W30 (Or.inl (Nat.ne_of_lt (Nat.lt_of_lt_of_le A9.lt (Nat.le_of_eq g13.symm))))
 have F113_ := F112_.other W38 (Or.inl (Nat.ne_of_lt (Nat.lt_of_lt_of_le A9.lt (Nat.le_of_eq g13.symm))))
 have F114_ := F113_.other W46 (Or.inl (Nat.ne_of_lt (Nat.lt_of_lt_of_le A9.lt (Nat.le_of_eq g13.symm))))
 have F115_ := F114_.other W54 (Or.inl (Nat.ne_of_lt (Nat.lt_of_lt_of_le A9.lt (Nat.le_of_eq g13.symm))))
 have F116_ := F115_.other W62 (Or.inl (Nat.ne_of_lt (Nat.lt_of_lt_of_le A9.lt (Nat.le_of_eq g13.symm))))
 have F117_ := F116_.other W70 (Or.inl (Nat.ne_of_lt (Nat.lt_of_lt_of_le A9.lt (Nat.le_of_eq g13.symm))))
 have F118_ := F117_.other W78 (Or.inl (Nat.ne_of_lt (Nat.lt_of_lt_of_le A9.lt (Nat.le_of_eq g13.symm))))
 have F119_ := F11_.ext E13
 have F120_ := F119_.other W21 (Or.inl (Nat.ne_of_lt (Nat.lt_of_lt_of_le A9.lt (Nat.le_of_eq g13.symm))))
 have F121_ := F120_.other W30 (Or.inl (Nat.ne_of_lt (Nat.lt_of_lt_of_le A9.lt (Nat.le_of_eq g13.symm))))
 have F122_ := F121_.other W38 (Or.inl (Nat.ne_of_lt (Nat.lt_of_lt_of_le A9.lt (Nat.le_of_eq g13.symm))))
 have F123_ := F122_.other W46 (Or.inl (Nat.ne_of_lt (Nat.lt_of_lt_of_le A9.lt (Nat.le_of_eq g13.symm))))
 have F124_ := F123_.other W54 (Or.inl (Nat.ne_of_lt (Nat.lt_of_lt_of_le A9.lt (Nat.le_of_eq g13.symm))))
 have F125_ := F124_.other W62 (Or.inl (Nat.ne_of_lt (Nat.lt_of_lt_of_le A9.lt (Nat.le_of_eq g13.symm))))
 have F126_ := F125_.other W70 (Or.inl (Nat.ne_of_lt (Nat.lt_of_lt_of_le A9.lt (Nat.le_of_eq g13.symm))))
 have F127_ := F126_.other W78 (Or.inl (Nat.ne_of_lt (Nat.lt_of_lt_of_le A9.lt (Nat.le_of_eq g13.symm))))
 obtain ⟨_, T82, L82, X82, hQ82, st82⟩ := own_cb 2 12 1 8 3 20 (X78.specialBack hx (y := Y1_) rfl hown (mvT hZ (w9_ hw)) (mvT hZ (w10_ hw)) (mvT hZ (w11_ hw)) (by decide) (StrChars.Road.backV (W := 1) hZ (own_ws hw) (kI := 4) (w7_ hw) (cs := ([qi4, qi5, qi6, qi7, qi8, qi9, qi10, qi11] : List Int32)) (bs := ([qi4, qi5, qi6, qi7, qi8, qi9, qi10, qi11] : List Int32).map (fun c => c.toInt8.toInt32)) (n := 8) g_b9 (Nat.le_trans (Nat.le_of_eq O100.1.symm) O100.2.1) E109_ F118_ F127_ A81_ (O2.ext O100.2) P5 rfl rfl (lE rfl) (lE rfl) hp83 rfl (lE rfl) (lE rfl)) (g := (mkF m 361 #[rv qa1, iv qi2] [.ref b13, .ref b9, .ref b9])) rfl hml.symm (Steps.refl _) (a := b9) (argsL := [.ref b13]) (rest := [.ref b9]) (lenOf pd1 rfl) rfl (own_hw rfl) (hb hby d0_361) (fun _ _ => ⟨rfl, e78, (lE rfl : 2 + 1 ≤ _), (lE rfl : 12 + 8 ≤ _)⟩)) rfl rfl
 obtain ⟨rfl, N82q, K82q, E82q, C82q, b128, c128_, u128, g128, ne128, V128_, A128_⟩ := hQ82
 have N82 := Fr.app N78_ N82q
 have sz_b9 : h0.size ≤ b9 := (Nat.le_of_eq g9.symm)
 have K129 := K79.trans K82q (allS (Or.inr sz_b9) all0)
 have sz_b128 : h0.size ≤ b128 := Nat.le_trans K79.1 g128
 have E130_ := E109_.keep K82q
 refine own_lvF X82 Bd (.ref b9) rfl ⟨b9, b128, c128_, rfl, N82, K129, sz_b9, sz_b128, (Ne.symm ne128), E130_, C82q, V128_, A128_⟩ rfl (fun fs hr => pre0 _ (by
  show Sx p e below s₁ m 0 #[rv qa1, iv qi2] [] _
  refine zj X0 Bd d0_0 rfl ?_
  refine zp (pc' := 15) X0 Bd d0_1 (XT.i0_ne_t (hc1 : ¬ (qi2 = (0 : Int32)))) rfl ?_
  refine zj X0 Bd d0_15 rfl ?_
  refine zc X0 Bd d0_16 ?_
  refine zy (pc' := 37) X0 Bd d0_17 (XT.ii_ne_t (hc2 : ¬ (qi2 = (1 : Int32)))) rfl ?_
  refine zj X0 Bd d0_37 rfl ?_
  refine zc X0 Bd d0_38 ?_
  refine zy (pc' := 65) X0 Bd d0_39 (XT.ii_ne_t (hc3 : ¬ (qi2 = (2 : Int32)))) rfl ?_
  refine zj X0 Bd d0_65 rfl ?_
  refine zc X0 Bd d0_66 ?_
  refine zy (pc' := 99) X0 Bd d0_67 (XT.ii_ne_t (hc4 : ¬ (qi2 = (3 : Int32)))) rfl ?_
  refine zj X0 Bd d0_99 rfl ?_
  refine zc X0 Bd d0_100 ?_
  refine zy (pc' := 139) X0 Bd d0_101 (XT.ii_ne_t (hc5 : ¬ (qi2 = (4 : Int32)))) rfl ?_
  refine zj X0 Bd d0_139 rfl ?_
  refine zc X0 Bd d0_140 ?_
  refine zy (pc' := 185) X0 Bd d0_141 (XT.ii_ne_t (hc6 : ¬ (qi2 = (5 : Int32)))) rfl ?_
  refine zj X0 Bd d0_185 rfl ?_
  refine zd X0 Bd d0_186 ?_
  refine zy (pc' := 239) X0 Bd d0_188 (XT.ii_ne_t (hc7 : ¬ (qi2 = (6 : Int32)))) rfl ?_
  refine zj X0 Bd d0_239 rfl ?_
  refine zd X0 Bd d0_240 ?_
  refine zy (pc' := 301) X0 Bd d0_242 (XT.ii_ne_t (hc8 : ¬ (qi2 = (7 : Int32)))) rfl ?_
  refine st9 _ ?_
  refine XS.dup X9.here hx rfl (hb hby d0_304) rfl rfl ?_
  show Sx p e below T9 m 305 #[rv qa1, iv qi2] [.ref b9, .ref b9] _
  refine zd X9 Bd d0_305 ?_
  refine st13 _ ?_
  refine XS.dup X13.here hx rfl (hb hby d0_309) rfl rfl ?_
  refine zc X13 Bd d0_310 ?_
  refine zb X13 Bd d0_311 rfl rfl ?_
  refine zc X13 Bd d0_312 ?_
  refine X13.caload hx (j := (0 : Int32)) (v := (.int qi4)) (by rw [e13]; exact Ar16.1) (State.isArrayOf_alike hZ.alike Ar16.2.1) Ar16.2.2 hin19 hat19 (g := (mkF m 313 #[rv qa1, iv qi2] [.int 0, .ref qa1, .int 0, .ref b13, .ref b13, .ref b9, .ref b9])) rfl rfl (hb hby d0_313) _ ?_
  refine st21 _ ?_
  refine XS.dup X21.here hx rfl (hb hby d0_315) rfl rfl ?_
  refine zc X21 Bd d0_316 ?_
  refine zb X21 Bd d0_317 rfl rfl ?_
  refine zc X21 Bd d0_318 ?_
  refine X21.caload hx (j := (1 : Int32)) (v := (.int qi5)) (by rw [e21]; exact Ar26.1) (State.isArrayOf_alike hZ.alike Ar26.2.1) Ar26.2.2 hin28 hat28 (g := (mkF m 319 #[rv qa1, iv qi2] [.int 1, .ref qa1, .int 1, .ref b13, .ref b13, .ref b9, .ref b9])) rfl rfl (hb hby d0_319) _ ?_
  refine st30 _ ?_
  refine XS.dup X30.here hx rfl (hb hby d0_321) rfl rfl ?_
  refine zc X30 Bd d0_322 ?_
  refine zb X30 Bd d0_323 rfl rfl ?_
  refine zc X30 Bd d0_324 ?_
  refine X30.caload hx (j := (2 : Int32)) (v := (.int qi6)) (by rw [e30]; exact Ar34.1) (State.isArrayOf_alike hZ.alike Ar34.2.1) Ar34.2.2 hin36 hat36 (g := (mkF m 325 #[rv qa1, iv qi2] [.int 2, .ref qa1, .int 2, .ref b13, .ref b13, .ref b9, .ref b9])) rfl rfl (hb hby d0_325) _ ?_
  refine st38 _ ?_
  refine XS.dup X38.here hx rfl (hb hby d0_327) rfl rfl ?_
  refine zc X38 Bd d0_328 ?_
  refine zb X38 Bd d0_329 rfl rfl ?_
  refine zc X38 Bd d0_330 ?_
  refine X38.caload hx (j := (3 : Int32)) (v := (.int qi7)) (by rw [e38]; exact Ar42.1) (State.isArrayOf_alike hZ.alike Ar42.2.1) Ar42.2.2 hin44 hat44 (g := (mkF m 331 #[rv qa1, iv qi2] [.int 3, .ref qa1, .int 3, .ref b13, .ref b13, .ref b9, .ref b9])) rfl rfl (hb hby d0_331) _ ?_
  show Sx p e below T38 m 332 #[rv qa1, iv qi2] [.int qi7, .int 3, .ref b13, .ref b13, .ref b9, .ref b9] _
  refine st46 _ ?_
  refine XS.dup X46.here hx rfl (hb hby d0_333) rfl rfl ?_
  refine zc X46 Bd d0_334 ?_
  refine zb X46 Bd d0_335 rfl rfl ?_
  refine zc X46 Bd d0_336 ?_
  refine X46.caload hx (j := (4 : Int32)) (v := (.int qi8)) (by rw [e46]; exact Ar50.1) (State.isArrayOf_alike hZ.alike Ar50.2.1) Ar50.2.2 hin52 hat52 (g := (mkF m 337 #[rv qa1, iv qi2] [.int 4, .ref qa1, .int 4, .ref b13, .ref b13, .ref b9, .ref b9])) rfl rfl (hb hby d0_337) _ ?_
  refine st54 _ ?_
  refine XS.dup X54.here hx rfl (hb hby d0_339) rfl rfl ?_
  refine zc X54 Bd d0_340 ?_
  refine zb X54 Bd d0_341 rfl rfl ?_
  refine zc X54 Bd d0_342 ?_
  refine X54.caload hx (j := (5 : Int32)) (v := (.int qi9)) (by rw [e54]; exact Ar58.1) (State.isArrayOf_alike hZ.alike Ar58.2.1) Ar58.2.2 hin60 hat60 (g := (mkF m 343 #[rv qa1, iv qi2] [.int 5, .ref qa1, .int 5, .ref b13, .ref b13, .ref b9, .ref b9])) rfl rfl (hb hby d0_343) _ ?_
  refine st62 _ ?_
  refine XS.dup X62.here hx rfl (hb hby d0_345) rfl rfl ?_
  refine zd X62 Bd d0_346 ?_
  refine zb X62 Bd d0_348 rfl rfl ?_
  refine zd X62 Bd d0_349 ?_
  refine X62.caload hx (j := (6 : Int32)) (v := (.int qi10)) (by rw [e62]; exact Ar66.1) (State.isArrayOf_alike hZ.alike Ar66.2.1) Ar66.2.2 hin68 hat68 (g := (mkF m 351 #[rv qa1, iv qi2] [.int 6, .ref qa1, .int 6, .ref b13, .ref b13, .ref b9, .ref b9])) rfl rfl (hb hby d0_351) _ ?_
  refine st70 _ ?_
  refine XS.dup X70.here hx rfl (hb hby d0_353) rfl rfl ?_
  refine zd X70 Bd d0_354 ?_
  refine zb X70 Bd d0_356 rfl rfl ?_
  refine zd X70 Bd d0_357 ?_
  refine X70.caload hx (j := (7 : Int32)) (v := (.int qi11)) (by rw [e70]; exact Ar74.1) (State.isArrayOf_alike hZ.alike Ar74.2.1) Ar74.2.2 hin76 hat76 (g := (mkF m 359 #[rv qa1, iv qi2] [.int 7, .ref qa1, .int 7, .ref b13, .ref b13, .ref b9, .ref b9])) rfl rfl (hb hby d0_359) _ ?_
  refine st78 _ ?_
  show Sx p e below T78 m 361 #[rv qa1, iv qi2] [.ref b13, .ref b9, .ref b9] _
  refine st82.trans ?_
  exact retOut X82 hx Bd.returns rfl (Or.inr (Or.inr (Or.inr (Or.inr ⟨rfl, rfl, rfl⟩)))) (hb hby d0_364) hr))
theorem d3_157 : decode method_4_code 157 = .ok (.aload_n 0, 1) := by decide +kernel
theorem d3_158 : decode method_4_code 158 = .ok (.iconst 0, 1) := by decide +kernel
theorem d3_159 : decode method_4_code 159 = .ok (.invokevirtual 32, 3) := by decide +kernel
theorem d3_162 : decode method_4_code 162 = .ok (.bipush 114, 2) := by decide +kernel
theorem d3_164 : decode method_4_code 164 = .ok (.if_icmp .ne 79, 3) := by decide +kernel
theorem d3_167 : decode method_4_code 167 = .ok (.aload_n 0, 1) := by decide +kernel
theorem d3_168 : decode method_4_code 168 = .ok (.iconst 1, 1) := by decide +kernel
theorem d3_169 : decode method_4_code 169 = .ok (.invokevirtual 32, 3) := by decide +kernel
theorem d3_172 : decode method_4_code 172 = .ok (.bipush 101, 2) := by decide +kernel
theorem d3_174 : decode method_4_code 174 = .ok (.if_icmp .ne 69, 3) := by decide +kernel
theorem d3_177 : decode method_4_code 177 = .ok (.aload_n 0, 1) := by decide +kernel
theorem d3_178 : decode method_4_code 178 = .ok (.iconst 2, 1) := by decide +kernel
theorem d3_179 : decode method_4_code 179 = .ok (.invokevirtual 32, 3) := by decide +kernel
theorem d3_182 : decode method_4_code 182 = .ok (.bipush 115, 2) := by decide +kernel
theorem d3_184 : decode method_4_code 184 = .ok (.if_icmp .ne 59, 3) := by decide +kernel
theorem d3_187 : decode method_4_code 187 = .ok (.aload_n 0, 1) := by decide +kernel
theorem d3_188 : decode method_4_code 188 = .ok (.iconst 3, 1) := by decide +kernel
theorem d3_189 : decode method_4_code 189 = .ok (.invokevirtual 32, 3) := by decide +kernel
theorem d3_192 : decode method_4_code 192 = .ok (.bipush 101, 2) := by decide +kernel
theorem d3_194 : decode method_4_code 194 = .ok (.if_icmp .ne 49, 3) := by decide +kernel
theorem d3_197 : decode method_4_code 197 = .ok (.aload_n 0, 1) := by decide +kernel
theorem d3_198 : decode method_4_code 198 = .ok (.iconst 4, 1) := by decide +kernel
theorem d3_199 : decode method_4_code 199 = .ok (.invokevirtual 32, 3) := by decide +kernel
theorem d3_202 : decode method_4_code 202 = .ok (.bipush 114, 2) := by decide +kernel
theorem d3_204 : decode method_4_code 204 = .ok (.if_icmp .ne 39, 3) := by decide +kernel
theorem d3_207 : decode method_4_code 207 = .ok (.aload_n 0, 1) := by decide +kernel
theorem d3_208 : decode method_4_code 208 = .ok (.iconst 5, 1) := by decide +kernel
theorem d3_209 : decode method_4_code 209 = .ok (.invokevirtual 32, 3) := by decide +kernel
theorem d3_212 : decode method_4_code 212 = .ok (.bipush 118, 2) := by decide +kernel
theorem d3_214 : decode method_4_code 214 = .ok (.if_icmp .ne 29, 3) := by decide +kernel
theorem d3_217 : decode method_4_code 217 = .ok (.aload_n 0, 1) := by decide +kernel
theorem d3_218 : decode method_4_code 218 = .ok (.bipush 6, 2) := by decide +kernel
theorem d3_220 : decode method_4_code 220 = .ok (.invokevirtual 32, 3) := by decide +kernel
theorem d3_223 : decode method_4_code 223 = .ok (.bipush 101, 2) := by decide +kernel
theorem d3_225 : decode method_4_code 225 = .ok (.if_icmp .ne 18, 3) := by decide +kernel
theorem d3_228 : decode method_4_code 228 = .ok (.aload_n 0, 1) := by decide +kernel
theorem d3_229 : decode method_4_code 229 = .ok (.bipush 7, 2) := by decide +kernel
theorem d3_231 : decode method_4_code 231 = .ok (.invokevirtual 32, 3) := by decide +kernel
theorem d3_234 : decode method_4_code 234 = .ok (.bipush 100, 2) := by decide +kernel
theorem d3_236 : decode method_4_code 236 = .ok (.if_icmp .ne 7, 3) := by decide +kernel
theorem d3_239 : decode method_4_code 239 = .ok (.getstatic 49, 3) := by decide +kernel
theorem d3_242 : decode method_4_code 242 = .ok (.areturn, 1) := by decide +kernel
theorem d3_243 : decode method_4_code 243 = .ok (.aconst_null, 1) := by decide +kernel
theorem d3_244 : decode method_4_code 244 = .ok (.areturn, 1) := by decide +kernel
-- com/example/hearthline/hearthline/session/SpecialValueOfPinLaw.ref(Ljava/lang/String;)Lcom/example/hearthline/hearthline/session/Session$Measurement$SpecialValue;
def Q22 (Z : State) (Gg0 : Addr) (Gg2 : Addr) (Gg3 : Addr) (Gg4 : Addr) (Gg5 : Addr) (qi3 : Int32) (qi4 : Int32) (qi5 : Int32) (qi6 : Int32) (qi7 : Int32) (qi8 : Int32) (qi9 : Int32) (qi10 : Int32) (h0 : Heap) (n0 : Nat) (v : Option Value) (h : Heap) (L : List Loc) : Prop := v = some (own_sv Gg0 Gg2 Gg3 Gg4 Gg5 ([qi3, qi4, qi5, qi6, qi7, qi8, qi9, qi10] : List Int32)) ∧ Fr n0 L ∧ h = h0
theorem rm22 (l : Launch) (Z : State) (a0 : Array Value) (hw : HW a0 Z) (G1 : Int32) (G3 : Value) (Gg0 : Addr) (Gg1 : Addr) (Gg2 : Addr) (Gg3 : Addr) (Gg4 : Addr) (Gg5 : Addr) (Gg6 : Addr) (Gg7 : Addr) (Gg8 : Addr) (Gg9 : Addr) (Gg10 : Addr) (Gg11 : Addr) (Gg12 : Addr) (Gg13 : Addr) (Gg14 : Addr) (Gg15 : Addr) (Kg16 : ClassId) (Kg17 : ClassId) (Kg18 : ClassId) (Kg19 : ClassId) (Kg20 : ClassId) (Kg21 : ClassId) (qa1 : Addr) (qa2 : Addr) (qi3 : Int32) (qi4 : Int32) (qi5 : Int32) (qi6 : Int32) (qi7 : Int32) (qi8 : Int32) (qi9 : Int32) (qi10 : Int32) (qk11 : ClassId) (h0 : Heap) (n0 : Nat) (X00 : Old Z n0 h0) (O2 : Sta Z Z.heap "java/lang/String" "COMPACT_STRINGS" "Z" (.int G1)) (P5 : ¬ (G1 = (0 : Int32))) (O4 : Sta Z Z.heap "jdk/internal/util/Preconditions" "SIOOBE_FORMATTER" "Ljava/util/function/BiFunction;" G3) (rG3 : G3.isRef = true) (hEN : OwnEN Z Gg0 Gg1 Gg2 Gg3 Gg4 Gg5 Gg6 Gg7 Gg8 Gg9 Gg10 Gg11 Gg12 Gg13 Gg14 Gg15 Kg16 Kg17 Kg18 Kg19 Kg20 Kg21) (E_qa1 : Exa Z h0 qa1 "java/lang/String") (F_qa1_coder : Fld Z h0 qa1 "java/lang/String" "coder" "B" (.int 0)) (F_qa1_value : Fld Z h0 qa1 "java/lang/String" "value" "[B" (.ref qa2)) (hp_qa1 : ∀ c ∈ ([qi3, qi4, qi5, qi6, qi7, qi8, qi9, qi10] : List Int32), ¬ c < 0 ∧ ¬ (255 : Int32) < c) (A_qa2 : Arv Z h0 qa2 qk11 .byte (8 : Int32) ((([qi3, qi4, qi5, qi6, qi7, qi8, qi9, qi10] : List Int32).map (fun c => c.toInt8.toInt32)).map Value.int) (.int 0)) :
    MF l Z Y3_ method_4_code 3 (some (.object "com/example/hearthline/hearthline/session/Session$Measurement$SpecialValue")) (Rm 4 0 0 53) #[.ref qa1] h0 (Q22 Z Gg0 Gg2 Gg3 Gg4 Gg5 qi3 qi4 qi5 qi6 qi7 qi8 qi9 qi10 h0 n0) := by
 refine own_sF pn0 rfl (fun m => ef4 m qa1) ?_
 intro p e s m below meth c s₁ Bd hZ hh hx hby hml hown hnm X0 e0 pre0
 have N0 := Fr.nil n0
 have hcd2 : StrChars.Road.CodA ([qi3, qi4, qi5, qi6, qi7, qi8, qi9, qi10] : List Int32) 0 (8 : Int32) ((([qi3, qi4, qi5, qi6, qi7, qi8, qi9, qi10] : List Int32).map (fun c => c.toInt8.toInt32)).map Value.int) := StrChars.Road.codOf (n := 8) rfl (fun x hx => (hp_qa1 x hx).2)
 have hbd2 : ∀ x ∈ ([qi3, qi4, qi5, qi6, qi7, qi8, qi9, qi10] : List Int32), ¬ x < 0 ∧ ¬ (65535 : Int32) < x := own_up _ hp_qa1
 obtain ⟨cq1, kq1, q1a, q1b, q1c⟩ := isOf hZ e0 E_qa1
 obtain ⟨_, T1, L1, X1, hQ1, st1⟩ := own_cb0 0 0 0 0 0 0 (X0.virtualBack hx (y := Y4_) (z := Y4_) hown (mvT hZ (w38_ hw)) (mvT hZ (w39_ hw)) (notFace_of_selects (args := #[]) (mvT hZ (w41_ hw))) (mvT hZ (w41_ hw)) (mvT hZ (w40_ hw)) (by decide) (StrChars.Road.lenW (W := 0) hZ (own_wl hw) (kI := 4) (w7_ hw) E_qa1 F_qa1_value F_qa1_coder A_qa2 hcd2 hbd2 (O2.ext X00.2) P5 (lE rfl) (lE rfl) (lE rfl)) q1a q1c (g := (mkF m 1 #[rv qa1, .unset, .unset] [.ref qa1])) rfl hml.symm (Steps.refl _) (argsL := []) (rest := []) (lenOf pd3 rfl) rfl (own_hw rfl) (hb hby d3_1) (fun _ _ => ⟨rfl, e0, (lE rfl : 0 + 0 ≤ _), (lE rfl : 0 + 0 ≤ _)⟩)) rfl rfl
 dsimp only [Pt.U, Pt.locs, Pt.cells, Pt.slots] at hQ1
 obtain ⟨rfl, rfl, e1q⟩ := hQ1
 have N1 := Fr.app N0 (Fr.nil n0)
 obtain ⟨cq3, kq3, q3a, q3b, q3c⟩ := isOf hZ e1q E_qa1
 obtain ⟨_, T3, L3, X3, hQ3, st3⟩ := own_cb0 0 0 0 0 0 0 (X1.virtualBack hx (y := Y8_) (z := Y8_) hown (mvT hZ (w48_ hw)) (mvT hZ (w49_ hw)) (notFace_of_selects (args := #[]) (mvT hZ (w51_ hw))) (mvT hZ (w51_ hw)) (mvT hZ (w50_ hw)) (by decide) (StrChars.Road.chN (W := 0) hZ (own_wc hw) (kI := 4) (w7_ hw) E_qa1 F_qa1_value F_qa1_coder A_qa2 hcd2 hbd2 (O2.ext X00.2) P5 (O4.ext X00.2) rG3 (lE rfl) (i := 0) (lE rfl) (j := (0 : Int32)) rfl (lE rfl) (lE rfl)) q3a q3c (g := (mkF m 159 #[rv qa1, iv 8, .unset] [.int 0, .ref qa1])) rfl hml.symm (Steps.refl _) (argsL := [.int 0]) (rest := []) (lenOf pd7 rfl) rfl (own_hw rfl) (hb hby d3_159) (fun _ _ => ⟨rfl, e1q, (lE rfl : 0 + 0 ≤ _), (lE rfl : 0 + 0 ≤ _)⟩)) rfl rfl
 dsimp only [Pt.U, Pt.locs, Pt.cells, Pt.slots] at hQ3
 obtain ⟨rfl, rfl, e3q⟩ := hQ3
 have N3 := Fr.app N1 (Fr.nil n0)
 have pr4 : Pr p e below T3 m 164 #[rv qa1, iv 8, .unset] [.int 114, .int qi3] s₁ (entryFrame m #[.ref qa1] 3) := fun t k => pre0 t (by
  show Sx p e below s₁ m 0 #[rv qa1, .unset, .unset] [] _
  refine zb X0 Bd d3_0 rfl rfl ?_
  refine st1.trans ?_
  refine zt X1 Bd d3_4 (l' := #[rv qa1, iv 8, .unset]) rfl ?_
  refine zj X1 Bd d3_5 rfl ?_
  refine zc X1 Bd d3_6 ?_
  refine zy (pc' := 46) X1 Bd d3_7 (XT.ii_ne_t ((by decide) : ¬ ((8 : Int32) = (3 : Int32)))) rfl ?_
  refine zj X1 Bd d3_46 rfl ?_
  refine zc X1 Bd d3_47 ?_
  refine zy (pc' := 151) X1 Bd d3_48 (XT.ii_ne_t ((by decide) : ¬ ((8 : Int32) = (4 : Int32)))) rfl ?_
  refine zj X1 Bd d3_151 rfl ?_
  refine zd X1 Bd d3_152 ?_
  refine zn X1 Bd d3_154 (XT.ii_ne_f ((by decide) : (8 : Int32) = (8 : Int32))) ?_
  refine zb X1 Bd d3_157 rfl rfl ?_
  refine zc X1 Bd d3_158 ?_
  refine st3.trans ?_
  refine zd X3 Bd d3_162 ?_
  exact k)
 by_cases hc5 : qi3 = (114 : Int32)
 ·
  skip
  obtain ⟨cq6, kq6, q6a, q6b, q6c⟩ := isOf hZ e3q E_qa1
  obtain ⟨_, T6, L6, X6, hQ6, st6⟩ := own_cb0 0 0 0 0 0 0 (X3.virtualBack hx (y := Y8_) (z := Y8_) hown (mvT hZ (w48_ hw)) (mvT hZ (w49_ hw)) (notFace_of_selects (args := #[]) (mvT hZ (w51_ hw))) (mvT hZ (w51_ hw)) (mvT hZ (w50_ hw)) (by decide) (StrChars.Road.chN (W := 0) hZ (own_wc hw) (kI := 4) (w7_ hw) E_qa1 F_qa1_value F_qa1_coder A_qa2 hcd2 hbd2 (O2.ext X00.2) P5 (O4.ext X00.2) rG3 (lE rfl) (i := 1) (lE rfl) (j := (1 : Int32)) rfl (lE rfl) (lE rfl)) q6a q6c (g := (mkF m 169 #[rv qa1, iv 8, .unset] [.int 1, .ref qa1])) rfl hml.symm (Steps.refl _) (argsL := [.int 1]) (rest := []) (lenOf pd7 rfl) rfl (own_hw rfl) (hb hby d3_169) (fun _ _ => ⟨rfl, e3q, (lE rfl : 0 + 0 ≤ _), (lE rfl : 0 + 0 ≤ _)⟩)) rfl rfl
  dsimp only [Pt.U, Pt.locs, Pt.cells, Pt.slots] at hQ6
  obtain ⟨rfl, rfl, e6q⟩ := hQ6
  have N6 := Fr.app N3 (Fr.nil n0)
  have pr7 : Pr p e below T6 m 174 #[rv qa1, iv 8, .unset] [.int 101, .int qi4] s₁ (entryFrame m #[.ref qa1] 3) := fun t k => pr4 t (by
   show Sx p e below T3 m 164 #[rv qa1, iv 8, .unset] [.int 114, .int qi3] _
   refine zn X3 Bd d3_164 (XT.ii_ne_f (hc5 : qi3 = (114 : Int32))) ?_
   refine zb X3 Bd d3_167 rfl rfl ?_
   refine zc X3 Bd d3_168 ?_
   refine st6.trans ?_
   refine zd X6 Bd d3_172 ?_
   exact k)
  by_cases hc8 : qi4 = (101 : Int32)
  ·
   skip
   obtain ⟨cq9, kq9, q9a, q9b, q9c⟩ := isOf hZ e6q E_qa1
   obtain ⟨_, T9, L9, X9, hQ9, st9⟩ := own_cb0 0 0 0 0 0 0 (X6.virtualBack hx (y := Y8_) (z := Y8_) hown (mvT hZ (w48_ hw)) (mvT hZ (w49_ hw)) (notFace_of_selects (args := #[]) (mvT hZ (w51_ hw))) (mvT hZ (w51_ hw)) (mvT hZ (w50_ hw)) (by decide) (StrChars.Road.chN (W := 0) hZ (own_wc hw) (kI := 4) (w7_ hw) E_qa1 F_qa1_value F_qa1_coder A_qa2 hcd2 hbd2 (O2.ext X00.2) P5 (O4.ext X00.2) rG3 (lE rfl) (i := 2) (lE rfl) (j := (2 : Int32)) rfl (lE rfl) (lE rfl)) q9a q9c (g := (mkF m 179 #[rv qa1, iv 8, .unset] [.int 2, .ref qa1])) rfl hml.symm (Steps.refl _) (argsL := [.int 2]) (rest := []) (lenOf pd7 rfl) rfl (own_hw rfl) (hb hby d3_179) (fun _ _ => ⟨rfl, e6q, (lE rfl : 0 + 0 ≤ _), (lE rfl : 0 + 0 ≤ _)⟩)) rfl rfl
   dsimp only [Pt.U, Pt.locs, Pt.cells, Pt.slots] at hQ9
   obtain ⟨rfl, rfl, e9q⟩ := hQ9
   have N9 := Fr.app N6 (Fr.nil n0)
   have pr10 : Pr p e below T9 m 184 #[rv qa1, iv 8, .unset] [.int 115, .int qi5] s₁ (entryFrame m #[.ref qa1] 3) := fun t k => pr7 t (by
    show Sx p e below T6 m 174 #[rv qa1, iv 8, .unset] [.int 101, .int qi4] _
    refine zn X6 Bd d3_174 (XT.ii_ne_f (hc8 : qi4 = (101 : Int32))) ?_
    refine zb X6 Bd d3_177 rfl rfl ?_
    refine zc X6 Bd d3_178 ?_
    refine st9.trans ?_
    refine zd X9 Bd d3_182 ?_
    exact k)
   by_cases hc11 : qi5 = (115 : Int32)
   ·
    skip
    obtain ⟨cq12, kq12, q12a, q12b, q12c⟩ := isOf hZ e9q E_qa1
    obtain ⟨_, T12, L12, X12, hQ12, st12⟩ := own_cb0 0 0 0 0 0 0 (X9.virtualBack hx (y := Y8_) (z := Y8_) hown (mvT hZ (w48_ hw)) (mvT hZ (w49_ hw)) (notFace_of_selects (args := #[]) (mvT hZ (w51_ hw))) (mvT hZ (w51_ hw)) (mvT hZ (w50_ hw)) (by decide) (StrChars.Road.chN (W := 0) hZ (own_wc hw) (kI := 4) (w7_ hw) E_qa1 F_qa1_value F_qa1_coder A_qa2 hcd2 hbd2 (O2.ext X00.2) P5 (O4.ext X00.2) rG3 (lE rfl) (i := 3) (lE rfl) (j := (3 : Int32)) rfl (lE rfl) (lE rfl)) q12a q12c (g := (mkF m 189 #[rv qa1, iv 8, .unset] [.int 3, .ref qa1])) rfl hml.symm (Steps.refl _) (argsL := [.int 3]) (rest := []) (lenOf pd7 rfl) rfl (own_hw rfl) (hb hby d3_189) (fun _ _ => ⟨rfl, e9q, (lE rfl : 0 + 0 ≤ _), (lE rfl : 0 + 0 ≤ _)⟩)) rfl rfl
    dsimp only [Pt.U, Pt.locs, Pt.cells, Pt.slots] at hQ12
    obtain ⟨rfl, rfl, e12q⟩ := hQ12
    have N12 := Fr.app N9 (Fr.nil n0)
    have pr13 : Pr p e below T12 m 194 #[rv qa1, iv 8, .unset] [.int 101, .int qi6] s₁ (entryFrame m #[.ref qa1] 3) := fun t k => pr10 t (by
     show Sx p e below T9 m 184 #[rv qa1, iv 8, .unset] [.int 115, .int qi5] _
     refine zn X9 Bd d3_184 (XT.ii_ne_f (hc11 : qi5 = (115 : Int32))) ?_
     refine zb X9 Bd d3_187 rfl rfl ?_
     refine zc X9 Bd d3_188 ?_
     refine st12.trans ?_
     refine zd X12 Bd d3_192 ?_
     exact k)
    by_cases hc14 : qi6 = (101 : Int32)
    ·
     skip
     obtain ⟨cq15, kq15, q15a, q15b, q15c⟩ := isOf hZ e12q E_qa1
     obtain ⟨_, T15, L15, X15, hQ15, st15⟩ := own_cb0 0 0 0 0 0 0 (X12.virtualBack hx (y := Y8_) (z := Y8_) hown (mvT hZ (w48_ hw)) (mvT hZ (w49_ hw)) (notFace_of_selects (args := #[]) (mvT hZ (w51_ hw))) (mvT hZ (w51_ hw)) (mvT hZ (w50_ hw)) (by decide) (StrChars.Road.chN (W := 0) hZ (own_wc hw) (kI := 4) (w7_ hw) E_qa1 F_qa1_value F_qa1_coder A_qa2 hcd2 hbd2 (O2.ext X00.2) P5 (O4.ext X00.2) rG3 (lE rfl) (i := 4) (lE rfl) (j := (4 : Int32)) rfl (lE rfl) (lE rfl)) q15a q15c (g := (mkF m 199 #[rv qa1, iv 8, .unset] [.int 4, .ref qa1])) rfl hml.symm (Steps.refl _) (argsL := [.int 4]) (rest := []) (lenOf pd7 rfl) rfl (own_hw rfl) (hb hby d3_199) (fun _ _ => ⟨rfl, e12q, (lE rfl : 0 + 0 ≤ _), (lE rfl : 0 + 0 ≤ _)⟩)) rfl rfl
     dsimp only [Pt.U, Pt.locs, Pt.cells, Pt.slots] at hQ15
     obtain ⟨rfl, rfl, e15q⟩ := hQ15
     have N15 := Fr.app N12 (Fr.nil n0)
     have pr16 : Pr p e below T15 m 204 #[rv qa1, iv 8, .unset] [.int 114, .int qi7] s₁ (entryFrame m #[.ref qa1] 3) := fun t k => pr13 t (by
      show Sx p e below T12 m 194 #[rv qa1, iv 8, .unset] [.int 101, .int qi6] _
      refine zn X12 Bd d3_194 (XT.ii_ne_f (hc14 : qi6 = (101 : Int32))) ?_
      refine zb X12 Bd d3_197 rfl rfl ?_
      refine zc X12 Bd d3_198 ?_
      refine st15.trans ?_
      refine zd X15 Bd d3_202 ?_
      exact k)
     by_cases hc17 : qi7 = (114 : Int32)
     ·
      skip
      obtain ⟨cq18, kq18, q18a, q18b, q18c⟩ := isOf hZ e15q E_qa1
      obtain ⟨_, T18, L18, X18, hQ18, st18⟩ := own_cb0 0 0 0 0 0 0 (X15.virtualBack hx (y := Y8_) (z := Y8_) hown (mvT hZ (w48_ hw)) (mvT hZ (w49_ hw)) (notFace_of_selects (args := #[]) (mvT hZ (w51_ hw))) (mvT hZ (w51_ hw)) (mvT hZ (w50_ hw)) (by decide) (StrChars.Road.chN (W := 0) hZ (own_wc hw) (kI := 4) (w7_ hw) E_qa1 F_qa1_value F_qa1_coder A_qa2 hcd2 hbd2 (O2.ext X00.2) P5 (O4.ext X00.2) rG3 (lE rfl) (i := 5) (lE rfl) (j := (5 : Int32)) rfl (lE rfl) (lE rfl)) q18a q18c (g := (mkF m 209 #[rv qa1, iv 8, .unset] [.int 5, .ref qa1])) rfl hml.symm (Steps.refl _) (argsL := [.int 5]) (rest := []) (lenOf pd7 rfl) rfl (own_hw rfl) (hb hby d3_209) (fun _ _ => ⟨rfl, e15q, (lE rfl : 0 + 0 ≤ _), (lE rfl : 0 + 0 ≤ _)⟩)) rfl rfl
      dsimp only [Pt.U, Pt.locs, Pt.cells, Pt.slots] at hQ18
      obtain ⟨rfl, rfl, e18q⟩ := hQ18
      have N18 := Fr.app N15 (Fr.nil n0)
      have pr19 : Pr p e below T18 m 214 #[rv qa1, iv 8, .unset] [.int 118, .int qi8] s₁ (entryFrame m #[.ref qa1] 3) := fun t k => pr16 t (by
       show Sx p e below T15 m 204 #[rv qa1, iv 8, .unset] [.int 114, .int qi7] _
       refine zn X15 Bd d3_204 (XT.ii_ne_f (hc17 : qi7 = (114 : Int32))) ?_
       refine zb X15 Bd d3_207 rfl rfl ?_
       refine zc X15 Bd d3_208 ?_
       refine st18.trans ?_
       refine zd X18 Bd d3_212 ?_
       exact k)
      by_cases hc20 : qi8 = (118 : Int32)
      ·
       skip
       obtain ⟨cq21, kq21, q21a, q21b, q21c⟩ := isOf hZ e18q E_qa1
       obtain ⟨_, T21, L21, X21, hQ21, st21⟩ := own_cb0 0 0 0 0 0 0 (X18.virtualBack hx (y := Y8_) (z := Y8_) hown (mvT hZ (w48_ hw)) (mvT hZ (w49_ hw)) (notFace_of_selects (args := #[]) (mvT hZ (w51_ hw))) (mvT hZ (w51_ hw)) (mvT hZ (w50_ hw)) (by decide) (StrChars.Road.chN (W := 0) hZ (own_wc hw) (kI := 4) (w7_ hw) E_qa1 F_qa1_value F_qa1_coder A_qa2 hcd2 hbd2 (O2.ext X00.2) P5 (O4.ext X00.2) rG3 (lE rfl) (i := 6) (lE rfl) (j := (6 : Int32)) rfl (lE rfl) (lE rfl)) q21a q21c (g := (mkF m 220 #[rv qa1, iv 8, .unset] [.int 6, .ref qa1])) rfl hml.symm (Steps.refl _) (argsL := [.int 6]) (rest := []) (lenOf pd7 rfl) rfl (own_hw rfl) (hb hby d3_220) (fun _ _ => ⟨rfl, e18q, (lE rfl : 0 + 0 ≤ _), (lE rfl : 0 + 0 ≤ _)⟩)) rfl rfl
       dsimp only [Pt.U, Pt.locs, Pt.cells, Pt.slots] at hQ21
       obtain ⟨rfl, rfl, e21q⟩ := hQ21
       have N21 := Fr.app N18 (Fr.nil n0)
       have pr22 : Pr p e below T21 m 225 #[rv qa1, iv 8, .unset] [.int 101, .int qi9] s₁ (entryFrame m #[.ref qa1] 3) := fun t k => pr19 t (by
        show Sx p e below T18 m 214 #[rv qa1, iv 8, .unset] [.int 118, .int qi8] _
        refine zn X18 Bd d3_214 (XT.ii_ne_f (hc20 : qi8 = (118 : Int32))) ?_
        refine zb X18 Bd d3_217 rfl rfl ?_
        refine zd X18 Bd d3_218 ?_
        refine st21.trans ?_
        refine zd X21 Bd d3_223 ?_
        exact k)
       by_cases hc23 : qi9 = (101 : Int32)
       ·
        skip
        obtain ⟨cq24, kq24, q24a, q24b, q24c⟩ := isOf hZ e21q E_qa1
        obtain ⟨_, T24, L24, X24, hQ24, st24⟩ := own_cb0 0 0 0 0 0 0 (X21.virtualBack hx (y := Y8_) (z := Y8_) hown (mvT hZ (w48_ hw)) (mvT hZ (w49_ hw)) (notFace_of_selects (args := #[]) (mvT hZ (w51_ hw))) (mvT hZ (w51_ hw)) (mvT hZ (w50_ hw)) (by decide) (StrChars.Road.chN (W := 0) hZ (own_wc hw) (kI := 4) (w7_ hw) E_qa1 F_qa1_value F_qa1_coder A_qa2 hcd2 hbd2 (O2.ext X00.2) P5 (O4.ext X00.2) rG3 (lE rfl) (i := 7) (lE rfl) (j := (7 : Int32)) rfl (lE rfl) (lE rfl)) q24a q24c (g := (mkF m 231 #[rv qa1, iv 8, .unset] [.int 7, .ref qa1])) rfl hml.symm (Steps.refl _) (argsL := [.int 7]) (rest := []) (lenOf pd7 rfl) rfl (own_hw rfl) (hb hby d3_231) (fun _ _ => ⟨rfl, e21q, (lE rfl : 0 + 0 ≤ _), (lE rfl : 0 + 0 ≤ _)⟩)) rfl rfl
        dsimp only [Pt.U, Pt.locs, Pt.cells, Pt.slots] at hQ24
        obtain ⟨rfl, rfl, e24q⟩ := hQ24
        have N24 := Fr.app N21 (Fr.nil n0)
        have pr25 : Pr p e below T24 m 236 #[rv qa1, iv 8, .unset] [.int 100, .int qi10] s₁ (entryFrame m #[.ref qa1] 3) := fun t k => pr22 t (by
         show Sx p e below T21 m 225 #[rv qa1, iv 8, .unset] [.int 101, .int qi9] _
         refine zn X21 Bd d3_225 (XT.ii_ne_f (hc23 : qi9 = (101 : Int32))) ?_
         refine zb X21 Bd d3_228 rfl rfl ?_
         refine zd X21 Bd d3_229 ?_
         refine st24.trans ?_
         refine zd X24 Bd d3_234 ?_
         exact k)
        by_cases hc26 : qi10 = (100 : Int32)
        ·
         skip
         obtain ⟨T27, X27, e27, st27⟩ := getS2 X24 hx hZ hown (host := "") (Or.inl (w112_ hw)) Via.refl e24q (hEN.2.2.2.2.2.2.2.2.2.2.1.ext X00.2) (g := (mkF m 239 #[rv qa1, iv 8, .unset] [])) rfl (hb hby d3_239)
         refine own_lvF X27 Bd (.ref Gg5) e27 ⟨(by simp [own_sv, hc5, hc8, hc11, hc14, hc17, hc20, hc23, hc26]), N24, rfl⟩ rfl (fun fs hr => pr25 _ (by
          show Sx p e below T24 m 236 #[rv qa1, iv 8, .unset] [.int 100, .int qi10] _
          refine zn X24 Bd d3_236 (XT.ii_ne_f (hc26 : qi10 = (100 : Int32))) ?_
          refine st27 _ ?_
          exact retOut X27 hx Bd.returns rfl (Or.inr (Or.inr (Or.inr (Or.inr ⟨rfl, rfl, rfl⟩)))) (hb hby d3_242) hr))
        ·
         skip
         refine own_lvF X24 Bd .null e24q ⟨(by simp [own_sv, hc5, hc8, hc11, hc14, hc17, hc20, hc23, hc26]), N24, rfl⟩ rfl (fun fs hr => pr25 _ (by
          show Sx p e below T24 m 236 #[rv qa1, iv 8, .unset] [.int 100, .int qi10] _
          refine zy (pc' := 243) X24 Bd d3_236 (XT.ii_ne_t (hc26 : ¬ (qi10 = (100 : Int32)))) rfl ?_
          refine XS.aconstNull X24.here hx rfl (hb hby d3_243) ?_
          exact retOut X24 hx Bd.returns rfl (Or.inr (Or.inr (Or.inr (Or.inr ⟨rfl, rfl, rfl⟩)))) (hb hby d3_244) hr))
       ·
        skip
        refine own_lvF X21 Bd .null e21q ⟨(by simp [own_sv, hc5, hc8, hc11, hc14, hc17, hc20, hc23]), N21, rfl⟩ rfl (fun fs hr => pr22 _ (by
         show Sx p e below T21 m 225 #[rv qa1, iv 8, .unset] [.int 101, .int qi9] _
         refine zy (pc' := 243) X21 Bd d3_225 (XT.ii_ne_t (hc23 : ¬ (qi9 = (101 : Int32)))) rfl ?_
         refine XS.aconstNull X21.here hx rfl (hb hby d3_243) ?_
         exact retOut X21 hx Bd.returns rfl (Or.inr (Or.inr (Or.inr (Or.inr ⟨rfl, rfl, rfl⟩)))) (hb hby d3_244) hr))
      ·
       skip
       refine own_lvF X18 Bd .null e18q ⟨(by simp [own_sv, hc5, hc8, hc11, hc14, hc17, hc20]), N18, rfl⟩ rfl (fun fs hr => pr19 _ (by
        show Sx p e below T18 m 214 #[rv qa1, iv 8, .unset] [.int 118, .int qi8] _
        refine zy (pc' := 243) X18 Bd d3_214 (XT.ii_ne_t (hc20 : ¬ (qi8 = (118 : Int32)))) rfl ?_
        refine XS.aconstNull X18.here hx rfl (hb hby d3_243) ?_
        exact retOut X18 hx Bd.returns rfl (Or.inr (Or.inr (Or.inr (Or.inr ⟨rfl, rfl, rfl⟩)))) (hb hby d3_244) hr))
     ·
      skip
      refine own_lvF X15 Bd .null e15q ⟨(by simp [own_sv, hc5, hc8, hc11, hc14, hc17]), N15, rfl⟩ rfl (fun fs hr => pr16 _ (by
       show Sx p e below T15 m 204 #[rv qa1, iv 8, .unset] [.int 114, .int qi7] _
       refine zy (pc' := 243) X15 Bd d3_204 (XT.ii_ne_t (hc17 : ¬ (qi7 = (114 : Int32)))) rfl ?_
       refine XS.aconstNull X15.here hx rfl (hb hby d3_243) ?_
       exact retOut X15 hx Bd.returns rfl (Or.inr (Or.inr (Or.inr (Or.inr ⟨rfl, rfl, rfl⟩)))) (hb hby d3_244) hr))
    ·
     skip
     refine own_lvF X12 Bd .null e12q ⟨(by simp [own_sv, hc5, hc8, hc11, hc14]), N12, rfl⟩ rfl (fun fs hr => pr13 _ (by
      show Sx p e below T12 m 194 #[rv qa1, iv 8, .unset] [.int 101, .int qi6] _
      refine zy (pc' := 243) X12 Bd d3_194 (XT.ii_ne_t (hc14 : ¬ (qi6 = (101 : Int32)))) rfl ?_
      refine XS.aconstNull X12.here hx rfl (hb hby d3_243) ?_
      exact retOut X12 hx Bd.returns rfl (Or.inr (Or.inr (Or.inr (Or.inr ⟨rfl, rfl, rfl⟩)))) (hb hby d3_244) hr))
   ·
    skip
    refine own_lvF X9 Bd .null e9q ⟨(by simp [own_sv, hc5, hc8, hc11]), N9, rfl⟩ rfl (fun fs hr => pr10 _ (by
     show Sx p e below T9 m 184 #[rv qa1, iv 8, .unset] [.int 115, .int qi5] _
     refine zy (pc' := 243) X9 Bd d3_184 (XT.ii_ne_t (hc11 : ¬ (qi5 = (115 : Int32)))) rfl ?_
     refine XS.aconstNull X9.here hx rfl (hb hby d3_243) ?_
     exact retOut X9 hx Bd.returns rfl (Or.inr (Or.inr (Or.inr (Or.inr ⟨rfl, rfl, rfl⟩)))) (hb hby d3_244) hr))
  ·
   skip
   refine own_lvF X6 Bd .null e6q ⟨(by simp [own_sv, hc5, hc8]), N6, rfl⟩ rfl (fun fs hr => pr7 _ (by
    show Sx p e below T6 m 174 #[rv qa1, iv 8, .unset] [.int 101, .int qi4] _
    refine zy (pc' := 243) X6 Bd d3_174 (XT.ii_ne_t (hc8 : ¬ (qi4 = (101 : Int32)))) rfl ?_
    refine XS.aconstNull X6.here hx rfl (hb hby d3_243) ?_
    exact retOut X6 hx Bd.returns rfl (Or.inr (Or.inr (Or.inr (Or.inr ⟨rfl, rfl, rfl⟩)))) (hb hby d3_244) hr))
 ·
  skip
  refine own_lvF X3 Bd .null e3q ⟨(by simp [own_sv, hc5]), N3, rfl⟩ rfl (fun fs hr => pr4 _ (by
   show Sx p e below T3 m 164 #[rv qa1, iv 8, .unset] [.int 114, .int qi3] _
   refine zy (pc' := 243) X3 Bd d3_164 (XT.ii_ne_t (hc5 : ¬ (qi3 = (114 : Int32)))) rfl ?_
   refine XS.aconstNull X3.here hx rfl (hb hby d3_243) ?_
   exact retOut X3 hx Bd.returns rfl (Or.inr (Or.inr (Or.inr (Or.inr ⟨rfl, rfl, rfl⟩)))) (hb hby d3_244) hr))
def Q0 (n0 : Nat) (v : Option Value) (h : Heap) (L : List Loc) : Prop := v = some (.int 1) ∧ Fr n0 L
theorem rm0 (l : Launch) (Z : State) (a0 : Array Value) (hw : ∀ d ∈ tables_1, d.before a0 Z = true) (ws : List Jvm.Cond) (G1 : Int32) (Gg0 : Addr) (Gg1 : Addr) (Gg2 : Addr) (Gg3 : Addr) (Gg4 : Addr) (Gg5 : Addr) (Gg6 : Addr) (Gg7 : Addr) (Gg8 : Addr) (Gg9 : Addr) (Gg10 : Addr) (Gg11 : Addr) (Gg12 : Addr) (Gg13 : Addr) (Gg14 : Addr) (Gg15 : Addr) (Kg16 : ClassId) (Kg17 : ClassId) (Kg18 : ClassId) (Kg19 : ClassId) (Kg20 : ClassId) (Kg21 : ClassId) (G3 : Value) (p1 : Int32) (p2 : Int32) (p3 : Int32) (p4 : Int32) (p5 : Int32) (h0 : Heap) (n0 : Nat) (X00 : Old Z n0 h0) (O2 : Sta Z Z.heap "java/lang/String" "COMPACT_STRINGS" "Z" (.int G1)) (P5 : ¬ (G1 = (0 : Int32))) (hEN : OwnEN Z Gg0 Gg1 Gg2 Gg3 Gg4 Gg5 Gg6 Gg7 Gg8 Gg9 Gg10 Gg11 Gg12 Gg13 Gg14 Gg15 Kg16 Kg17 Kg18 Kg19 Kg20 Kg21) (O4 : Sta Z Z.heap "jdk/internal/util/Preconditions" "SIOOBE_FORMATTER" "Ljava/util/function/BiFunction;" G3) (rG3 : G3.isRef = true) :
    MetFree l x (head1 (Jvm.Cond.code x code maxLocals ret :: ws) room_1) (fun a U => a = #[.int p1, .int p2, .int p3, .int p4, .int p5] ∧ Z.Warmed39 U.vm ∧ U.heap = h0 ∧ CHv Z consts_1 U.vm h0) (fun _ _ _ _ _ => True) (fun _ U o U' => ∃ v L, o = .returned v ∧ Q0 n0 v U'.heap L ∧ CHr Z consts_1 U.vm U.heap U'.vm U'.heap ∧ ReturnedEndW U o U' L room_1.cells room_1.slots) := by
 refine MetFree.of_bodySF (plainFor_of_name pn0) hisR ?_
 intro p e s m args below meth c s₁ Bd hml0 hP hK
 obtain ⟨rfl, hZ, hh, hC0⟩ := hP
 have hx := Bd.exec
 have hby := Bd.bytes
 have hml : c.maxLocals = 11 := hml0
 have hown : s.vm.findClass "com/example/hearthline/hearthline/session/SpecialValueOfPinLaw" = some m.cls := findClass_of_methodNamed Bd.named
 have hnm := (name_of_methodNamed Bd.named Bd.method).1
 have X0 : Stand p l e room_1 (s.setVm s.vm) m #[.int p1, .int p2, .int p3, .int p4, .int p5] below meth c s₁ [] 0 0 := Stand.of_body Bd
 have e0 : s₁.heap = h0 := by rw [← hh, Bd.state]; rfl
 have N0 := Fr.nil n0
 have pre0 : ∀ t, Steps p.tables e below (s₁.setTop (mkF m 0 #[iv p1, iv p2, iv p3, iv p4, iv p5, .unset, .unset, .unset, .unset, .unset, .unset] [])) t → Steps p.tables e below (s₁.setTop (entryFrame m #[.int p1, .int p2, .int p3, .int p4, .int p5] maxLocals)) t := fun t k => castTop (ef0 m p1 p2 p3 p4 p5) k
 obtain ⟨en, hen⟩ : ∃ f, f = (entryFrame m #[.int p1, .int p2, .int p3, .int p4, .int p5] maxLocals) := ⟨_, rfl⟩
 rw [← hen] at pre0 ⊢
 have hS0 : s.Since s.vm h0.size := (State.WarmedH.refl s).since _
 have hk0 : h0.size ≤ h0.size := Nat.le_refl _
 have hR0 : CHr Z consts_1 s.vm h0 s.vm h0 := CHr.refl hC0
 have hEL := own_EW hw
 have hwS := own_wS hw
 obtain ⟨T1, h1, c1, X1, e1, E1, A1, st1⟩ := newP (aty := .char) X0 hx hZ (w1_ hw) e0 (g := (mkF m 19 #[iv p1, iv p2, iv p3, iv p4, iv p5, iv (ab1_ p1), iv (ab0_ p1), .unset, .unset, .unset, .unset] [.int 8])) rfl (hb hby at_19) rfl (by decide) (cap := 8) (by decide) (lE rfl) (lE rfl) (lE rfl)
 obtain ⟨b1, g1⟩ : ∃ z, z = h0.size := ⟨_, rfl⟩
 rw [← g1] at A1 st1
 replace X1 : Stand p l e room_1 (s.setVm s.vm) m #[.int p1, .int p2, .int p3, .int p4, .int p5] below meth c T1 _ 1 8 := X1
 have K2 := (Keep.refl h0 []).ext E1
 have C3 : CHv Z consts_1 s.vm h1 := CHv.ext E1 hC0
 have R4 : CHr Z consts_1 s.vm h0 s.vm h1 := hR0.trans (CHr.ext E1 hC0)
 have A5_ : Arv Z h1 b1 c1 .char (8 : Int32) [.int 0, .int 0, .int 0, .int 0, .int 0, .int 0, .int 0, .int 0] (.int 0) := (Arv.new A1 (by decide)).pad (pad_rep [] (.int 0) 8)
 have av6 := A5_
 obtain ⟨cl6, Ar6, q6, S6, N6, H6, Gf6⟩ := av6
 have hin7 : ¬ ((0 : Int32) < 0 ∨ cl6.slots.size ≤ ((0 : Int32) : Int32).toNatClampNeg) := inb_of S6 (by decide)
 obtain ⟨T7, h7, X7, e7, W7, st7⟩ := stC X1 hx hZ e1 Ar6 (j := (0 : Int32)) hin7 (g := (mkF m 32 #[iv p1, iv p2, iv p3, iv p4, iv p5, iv (ab1_ p1), iv (ab0_ p1), rv b1, .unset, .unset, .unset] [(.int (ab11_ p3)), .int 0, .ref b1])) rfl rfl (hb hby at_32)
 have g_b1 : n0 ≤ b1 := Nat.le_trans (Nat.le_trans (Nat.le_of_eq X00.1.symm) X00.2.1) (Nat.le_of_eq g1.symm)
 have N7_ := Fr.snoc X7 N0 g_b1
 have sz_b1 : h0.size ≤ b1 := (Nat.le_of_eq g1.symm)
 have K8 := K2.wr W7 (Or.inr sz_b1)
 have C9 : CHv Z consts_1 s.vm h7 := CHv.wr W7 (Safe.arv hZ.alike A5_ (by simp)) C3
 have R10 : CHr Z consts_1 s.vm h0 s.vm h7 := R4.trans (CHr.wr W7 (Safe.arv hZ.alike A5_ (by simp)) C3)
 have A11_ : Arv Z h7 b1 c1 .char (8 : Int32) [(.int (ab11_ p3)), .int 0, .int 0, .int 0, .int 0, .int 0, .int 0, .int 0] (.int 0) := by have q := Arv.set (v := .int (nar .char (ab11_ p3))) Ar6 q6 S6 N6 H6 Gf6 (fits_nar_char _) W7 0 (by decide) (lE rfl); rw [((own_nar_i2c _) : nar .char (ab11_ p3) = (ab11_ p3))] at q; exact q
 have av12 := A11_
 obtain ⟨cl12, Ar12, q12, S12, N12, H12, Gf12⟩ := av12
 have hin13 : ¬ ((1 : Int32) < 0 ∨ cl12.slots.size ≤ ((1 : Int32) : Int32).toNatClampNeg) := inb_of S12 (by decide)
 obtain ⟨T13, h13, X13, e13, W13, st13⟩ := stC X7 hx hZ e7 Ar12 (j := (1 : Int32)) hin13 (g := (mkF m 45 #[iv p1, iv p2, iv p3, iv p4, iv p5, iv (ab1_ p1), iv (ab0_ p1), rv b1, .unset, .unset, .unset] [(.int (ab9_ p3)), .int 1, .ref b1])) rfl rfl (hb hby at_45)
 have N13_ := Fr.snoc X13 N7_ g_b1
 have K14 := K8.wr W13 (Or.inr sz_b1)
 have C15 : CHv Z consts_1 s.vm h13 := CHv.wr W13 (Safe.arv hZ.alike A11_ (by simp)) C9
 have R16 : CHr Z consts_1 s.vm h0 s.vm h13 := R10.trans (CHr.wr W13 (Safe.arv hZ.alike A11_ (by simp)) C9)
 have A17_ : Arv Z h13 b1 c1 .char (8 : Int32) [(.int (ab11_ p3)), (.int (ab9_ p3)), .int 0, .int 0, .int 0, .int 0, .int 0, .int 0] (.int 0) := by have q := Arv.set (v := .int (nar .char (ab9_ p3))) Ar12 q12 S12 N12 H12 Gf12 (fits_nar_char _) W13 1 (by decide) (lE rfl); rw [((own_nar_i2c _) : nar .char (ab9_ p3) = (ab9_ p3))] at q; exact q
 have av18 := A17_
 obtain ⟨cl18, Ar18, q18, S18, N18, H18, Gf18⟩ := av18
 have hin19 : ¬ ((2 : Int32) < 0 ∨ cl18.slots.size ≤ ((2 : Int32) : Int32).toNatClampNeg) := inb_of S18 (by decide)
 obtain ⟨T19, h19, X19, e19, W19, st19⟩ := stC X13 hx hZ e13 Ar18 (j := (2 : Int32)) hin19 (g := (mkF m 58 #[iv p1, iv p2, iv p3, iv p4, iv p5, iv (ab1_ p1), iv (ab0_ p1), rv b1, .unset, .unset, .unset] [(.int (ab8_ p3)), .int 2, .ref b1])) rfl rfl (hb hby at_58)
 have N19_ := Fr.snoc X19 N13_ g_b1
 have K20 := K14.wr W19 (Or.inr sz_b1)
 have C21 : CHv Z consts_1 s.vm h19 := CHv.wr W19 (Safe.arv hZ.alike A17_ (by simp)) C15
 have R22 : CHr Z consts_1 s.vm h0 s.vm h19 := R16.trans (CHr.wr W19 (Safe.arv hZ.alike A17_ (by simp)) C15)
 have A23_ : Arv Z h19 b1 c1 .char (8 : Int32) [(.int (ab11_ p3)), (.int (ab9_ p3)), (.int (ab8_ p3)), .int 0, .int 0, .int 0, .int 0, .int 0] (.int 0) := by have q := Arv.set (v := .int (nar .char (ab8_ p3))) Ar18 q18 S18 N18 H18 Gf18 (fits_nar_char _) W19 2 (by decide) (lE rfl); rw [((own_nar_i2c _) : nar .char (ab8_ p3) = (ab8_ p3))] at q; exact q
 have av24 := A23_
 obtain ⟨cl24, Ar24, q24, S24, N24, H24, Gf24⟩ := av24
 have hin25 : ¬ ((3 : Int32) < 0 ∨ cl24.slots.size ≤ ((3 : Int32) : Int32).toNatClampNeg) := inb_of S24 (by decide)
 obtain ⟨T25, h25, X25, e25, W25, st25⟩ := stC X19 hx hZ e19 Ar24 (j := (3 : Int32)) hin25 (g := (mkF m 71 #[iv p1, iv p2, iv p3, iv p4, iv p5, iv (ab1_ p1), iv (ab0_ p1), rv b1, .unset, .unset, .unset] [(.int (ab7_ p3)), .int 3, .ref b1])) rfl rfl (hb hby at_71)
 have N25_ := Fr.snoc X25 N19_ g_b1
 have K26 := K20.wr W25 (Or.inr sz_b1)
 have C27 : CHv Z consts_1 s.vm h25 := CHv.wr W25 (Safe.arv hZ.alike A23_ (by simp)) C21
 have R28 : CHr Z consts_1 s.vm h0 s.vm h25 := R22.trans (CHr.wr W25 (Safe.arv hZ.alike A23_ (by simp)) C21)
 have A29_ : Arv Z h25 b1 c1 .char (8 : Int32) [(.int (ab11_ p3)), (.int (ab9_ p3)), (.int (ab8_ p3)), (.int (ab7_ p3)), .int 0, .int 0, .int 0, .int 0] (.int 0) := by have q := Arv.set (v := .int (nar .char (ab7_ p3))) Ar24 q24 S24 N24 H24 Gf24 (fits_nar_char _) W25 3 (by decide) (lE rfl); rw [((own_nar_i2c _) : nar .char (ab7_ p3) = (ab7_ p3))] at q; exact q
 have av30 := A29_
 obtain ⟨cl30, Ar30, q30, S30, N30, H30, Gf30⟩ := av30
 have hin31 : ¬ ((4 : Int32) < 0 ∨ cl30.slots.size ≤ ((4 : Int32) : Int32).toNatClampNeg) := inb_of S30 (by decide)
 obtain ⟨T31, h31, X31, e31, W31, st31⟩ := stC X25 hx hZ e25 Ar30 (j := (4 : Int32)) hin31 (g := (mkF m 81 #[iv p1, iv p2, iv p3, iv p4, iv p5, iv (ab1_ p1), iv (ab0_ p1), rv b1, .unset, .unset, .unset] [(.int (ab10_ p4)), .int 4, .ref b1])) rfl rfl (hb hby at_81)
 have N31_ := Fr.snoc X31 N25_ g_b1
 have K32 := K26.wr W31 (Or.inr sz_b1)
 have C33 : CHv Z consts_1 s.vm h31 := CHv.wr W31 (Safe.arv hZ.alike A29_ (by simp)) C27
 have R34 : CHr Z consts_1 s.vm h0 s.vm h31 := R28.trans (CHr.wr W31 (Safe.arv hZ.alike A29_ (by simp)) C27)
 have A35_ : Arv Z h31 b1 c1 .char (8 : Int32) [(.int (ab11_ p3)), (.int (ab9_ p3)), (.int (ab8_ p3)), (.int (ab7_ p3)), (.int (ab10_ p4)), .int 0, .int 0, .int 0] (.int 0) := by have q := Arv.set (v := .int (nar .char (ab10_ p4))) Ar30 q30 S30 N30 H30 Gf30 (fits_nar_char _) W31 4 (by decide) (lE rfl); rw [((own_nar_i2c _) : nar .char (ab10_ p4) = (ab10_ p4))] at q; exact q
 have av36 := A35_
 obtain ⟨cl36, Ar36, q36, S36, N36, H36, Gf36⟩ := av36
 have hin37 : ¬ ((5 : Int32) < 0 ∨ cl36.slots.size ≤ ((5 : Int32) : Int32).toNatClampNeg) := inb_of S36 (by decide)
 obtain ⟨T37, h37, X37, e37, W37, st37⟩ := stC X31 hx hZ e31 Ar36 (j := (5 : Int32)) hin37 (g := (mkF m 94 #[iv p1, iv p2, iv p3, iv p4, iv p5, iv (ab1_ p1), iv (ab0_ p1), rv b1, .unset, .unset, .unset] [(.int (ab5_ p4)), .int 5, .ref b1])) rfl rfl (hb hby at_94)
 have N37_ := Fr.snoc X37 N31_ g_b1
 have K38 := K32.wr W37 (Or.inr sz_b1)
 have C39 : CHv Z consts_1 s.vm h37 := CHv.wr W37 (Safe.arv hZ.alike A35_ (by simp)) C33
 have R40 : CHr Z consts_1 s.vm h0 s.vm h37 := R34.trans (CHr.wr W37 (Safe.arv hZ.alike A35_ (by simp)) C33)
 have A41_ : Arv Z h37 b1 c1 .char (8 : Int32) [(.int (ab11_ p3)), (.int (ab9_ p3)), (.int (ab8_ p3)), (.int (ab7_ p3)), (.int (ab10_ p4)), (.int (ab5_ p4)), .int 0, .int 0] (.int 0) := by have q := Arv.set (v := .int (nar .char (ab5_ p4))) Ar36 q36 S36 N36 H36 Gf36 (fits_nar_char _) W37 5 (by decide) (lE rfl); rw [((own_nar_i2c _) : nar .char (ab5_ p4) = (ab5_ p4))] at q; exact q
 have av42 := A41_
 obtain ⟨cl42, Ar42, q42, S42, N42, H42, Gf42⟩ := av42
 have hin43 : ¬ ((6 : Int32) < 0 ∨ cl42.slots.size ≤ ((6 : Int32) : Int32).toNatClampNeg) := inb_of S42 (by decide)
 obtain ⟨T43, h43, X43, e43, W43, st43⟩ := stC X37 hx hZ e37 Ar42 (j := (6 : Int32)) hin43 (g := (mkF m 108 #[iv p1, iv p2, iv p3, iv p4, iv p5, iv (ab1_ p1), iv (ab0_ p1), rv b1, .unset, .unset, .unset] [(.int (ab3_ p4)), .int 6, .ref b1])) rfl rfl (hb hby at_108)
 have N43_ := Fr.snoc X43 N37_ g_b1
 have K44 := K38.wr W43 (Or.inr sz_b1)
 have C45 : CHv Z consts_1 s.vm h43 := CHv.wr W43 (Safe.arv hZ.alike A41_ (by simp)) C39
 have R46 : CHr Z consts_1 s.vm h0 s.vm h43 := R40.trans (CHr.wr W43 (Safe.arv hZ.alike A41_ (by simp)) C39)
 have A47_ : Arv Z h43 b1 c1 .char (8 : Int32) [(.int (ab11_ p3)), (.int (ab9_ p3)), (.int (ab8_ p3)), (.int (ab7_ p3)), (.int (ab10_ p4)), (.int (ab5_ p4)), (.int (ab3_ p4)), .int 0] (.int 0) := by have q := Arv.set (v := .int (nar .char (ab3_ p4))) Ar42 q42 S42 N42 H42 Gf42 (fits_nar_char _) W43 6 (by decide) (lE rfl); rw [((own_nar_i2c _) : nar .char (ab3_ p4) = (ab3_ p4))] at q; exact q
 have av48 := A47_
 obtain ⟨cl48, Ar48, q48, S48, N48, H48, Gf48⟩ := av48
 have hin49 : ¬ ((7 : Int32) < 0 ∨ cl48.slots.size ≤ ((7 : Int32) : Int32).toNatClampNeg) := inb_of S48 (by decide)
 obtain ⟨T49, h49, X49, e49, W49, st49⟩ := stC X43 hx hZ e43 Ar48 (j := (7 : Int32)) hin49 (g := (mkF m 122 #[iv p1, iv p2, iv p3, iv p4, iv p5, iv (ab1_ p1), iv (ab0_ p1), rv b1, .unset, .unset, .unset] [(.int (ab4_ p4)), .int 7, .ref b1])) rfl rfl (hb hby at_122)
 have N49_ := Fr.snoc X49 N43_ g_b1
 have K50 := K44.wr W49 (Or.inr sz_b1)
 have C51 : CHv Z consts_1 s.vm h49 := CHv.wr W49 (Safe.arv hZ.alike A47_ (by simp)) C45
 have R52 : CHr Z consts_1 s.vm h0 s.vm h49 := R46.trans (CHr.wr W49 (Safe.arv hZ.alike A47_ (by simp)) C45)
 have A53_ : Arv Z h49 b1 c1 .char (8 : Int32) [(.int (ab11_ p3)), (.int (ab9_ p3)), (.int (ab8_ p3)), (.int (ab7_ p3)), (.int (ab10_ p4)), (.int (ab5_ p4)), (.int (ab3_ p4)), (.int (ab4_ p4))] (.int 0) := by have q := Arv.set (v := .int (nar .char (ab4_ p4))) Ar48 q48 S48 N48 H48 Gf48 (fits_nar_char _) W49 7 (by decide) (lE rfl); rw [((own_nar_i2c _) : nar .char (ab4_ p4) = (ab4_ p4))] at q; exact q
 have pr54 : Pr p e below T49 m 123 #[iv p1, iv p2, iv p3, iv p4, iv p5, iv (ab1_ p1), iv (ab0_ p1), rv b1, .unset, .unset, .unset] [] s₁ en := fun t k => pre0 t (by
  show Sx p e below s₁ m 0 #[iv p1, iv p2, iv p3, iv p4, iv p5, .unset, .unset, .unset, .unset, .unset, .unset] [] _
  refine zj X0 Bd at_0 rfl ?_
  refine X0.ldcInt hx hown (mvT hZ (w0_ hw)) (g := (mkF m 1 #[iv p1, iv p2, iv p3, iv p4, iv p5, .unset, .unset, .unset, .unset, .unset, .unset] [.int p1])) rfl (hb hby at_1) _ ?_
  refine XS.iand X0.here hx rfl (hb hby at_3) rfl ?_
  refine zd X0 Bd at_4 ?_
  refine iremM X0 hx (g := (mkF m 6 #[iv p1, iv p2, iv p3, iv p4, iv p5, .unset, .unset, .unset, .unset, .unset, .unset] [.int 6, (.int (p1 &&& (2147483647 : Int32)))])) rfl (hb hby at_6) rfl (by decide) ?_
  refine zs X0 Bd at_7 (l' := #[iv p1, iv p2, iv p3, iv p4, iv p5, iv (ab1_ p1), .unset, .unset, .unset, .unset, .unset]) rfl ?_
  refine zj X0 Bd at_9 rfl ?_
  refine zd X0 Bd at_10 ?_
  refine XS.iushr X0.here hx rfl (hb hby at_12) rfl ?_
  refine zc X0 Bd at_13 ?_
  refine XS.iand X0.here hx rfl (hb hby at_14) rfl ?_
  refine zs X0 Bd at_15 (l' := #[iv p1, iv p2, iv p3, iv p4, iv p5, iv (ab1_ p1), iv (ab0_ p1), .unset, .unset, .unset, .unset]) rfl ?_
  refine zd X0 Bd at_17 ?_
  refine st1 _ ?_
  refine XS.astore X1.here hx rfl (hb hby at_21) rfl rfl (l' := #[iv p1, iv p2, iv p3, iv p4, iv p5, iv (ab1_ p1), iv (ab0_ p1), rv b1, .unset, .unset, .unset]) rfl ?_
  refine za X1 Bd at_23 rfl rfl ?_
  refine zc X1 Bd at_25 ?_
  refine zj X1 Bd at_26 rfl ?_
  refine XS.sipush X1.here hx rfl (hb hby at_27) ?_
  refine XS.iand X1.here hx rfl (hb hby at_30) rfl ?_
  refine XS.i2c X1.here hx rfl (hb hby at_31) rfl ?_
  refine st7 _ ?_
  refine za X7 Bd at_33 rfl rfl ?_
  refine zc X7 Bd at_35 ?_
  refine zj X7 Bd at_36 rfl ?_
  show Sx p e below T7 m 37 #[iv p1, iv p2, iv p3, iv p4, iv p5, iv (ab1_ p1), iv (ab0_ p1), rv b1, .unset, .unset, .unset] [.int p3, .int 1, .ref b1] _
  refine zd X7 Bd at_37 ?_
  refine XS.iushr X7.here hx rfl (hb hby at_39) rfl ?_
  refine XS.sipush X7.here hx rfl (hb hby at_40) ?_
  refine XS.iand X7.here hx rfl (hb hby at_43) rfl ?_
  refine XS.i2c X7.here hx rfl (hb hby at_44) rfl ?_
  refine st13 _ ?_
  refine za X13 Bd at_46 rfl rfl ?_
  refine zc X13 Bd at_48 ?_
  refine zj X13 Bd at_49 rfl ?_
  refine zd X13 Bd at_50 ?_
  refine XS.iushr X13.here hx rfl (hb hby at_52) rfl ?_
  refine XS.sipush X13.here hx rfl (hb hby at_53) ?_
  refine XS.iand X13.here hx rfl (hb hby at_56) rfl ?_
  refine XS.i2c X13.here hx rfl (hb hby at_57) rfl ?_
  refine st19 _ ?_
  refine za X19 Bd at_59 rfl rfl ?_
  refine zc X19 Bd at_61 ?_
  refine zj X19 Bd at_62 rfl ?_
  refine zd X19 Bd at_63 ?_
  refine XS.iushr X19.here hx rfl (hb hby at_65) rfl ?_
  refine XS.sipush X19.here hx rfl (hb hby at_66) ?_
  refine XS.iand X19.here hx rfl (hb hby at_69) rfl ?_
  refine XS.i2c X19.here hx rfl (hb hby at_70) rfl ?_
  refine st25 _ ?_
  refine za X25 Bd at_72 rfl rfl ?_
  show Sx p e below T25 m 74 #[iv p1, iv p2, iv p3, iv p4, iv p5, iv (ab1_ p1), iv (ab0_ p1), rv b1, .unset, .unset, .unset] [.ref b1] _
  refine zc X25 Bd at_74 ?_
  refine zj X25 Bd at_75 rfl ?_
  refine XS.sipush X25.here hx rfl (hb hby at_76) ?_
  refine XS.iand X25.here hx rfl (hb hby at_79) rfl ?_
  refine XS.i2c X25.here hx rfl (hb hby at_80) rfl ?_
  refine st31 _ ?_
  refine za X31 Bd at_82 rfl rfl ?_
  refine zc X31 Bd at_84 ?_
  refine zj X31 Bd at_85 rfl ?_
  refine zd X31 Bd at_86 ?_
  refine XS.iushr X31.here hx rfl (hb hby at_88) rfl ?_
  refine XS.sipush X31.here hx rfl (hb hby at_89) ?_
  refine XS.iand X31.here hx rfl (hb hby at_92) rfl ?_
  refine XS.i2c X31.here hx rfl (hb hby at_93) rfl ?_
  refine st37 _ ?_
  refine za X37 Bd at_95 rfl rfl ?_
  refine zd X37 Bd at_97 ?_
  refine zj X37 Bd at_99 rfl ?_
  refine zd X37 Bd at_100 ?_
  refine XS.iushr X37.here hx rfl (hb hby at_102) rfl ?_
  refine XS.sipush X37.here hx rfl (hb hby at_103) ?_
  refine XS.iand X37.here hx rfl (hb hby at_106) rfl ?_
  refine XS.i2c X37.here hx rfl (hb hby at_107) rfl ?_
  refine st43 _ ?_
  refine za X43 Bd at_109 rfl rfl ?_
  show Sx p e below T43 m 111 #[iv p1, iv p2, iv p3, iv p4, iv p5, iv (ab1_ p1), iv (ab0_ p1), rv b1, .unset, .unset, .unset] [.ref b1] _
  refine zd X43 Bd at_111 ?_
  refine zj X43 Bd at_113 rfl ?_
  refine zd X43 Bd at_114 ?_
  refine XS.iushr X43.here hx rfl (hb hby at_116) rfl ?_
  refine XS.sipush X43.here hx rfl (hb hby at_117) ?_
  refine XS.iand X43.here hx rfl (hb hby at_120) rfl ?_
  refine XS.i2c X43.here hx rfl (hb hby at_121) rfl ?_
  refine st49 _ ?_
  exact k)
 refine cps (A := ∃ T55 : State, ∃ L55 : List Loc, ∃ h55 : Heap, ∃ len1 : Int32, ∃ x0_ : Int32, ∃ x1_ : Int32, ∃ x2_ : Int32, ∃ x3_ : Int32, ∃ x4_ : Int32, ∃ x5_ : Int32, ∃ x6_ : Int32, ∃ x7_ : Int32, Stand p l e room_1 (s.setVm s.vm) m #[.int p1, .int p2, .int p3, .int p4, .int p5] below meth c T55 L55 1 8 ∧ T55.heap = h55 ∧ Fr n0 L55 ∧ Keep h49 h55 [b1] ∧ Arv Z h55 b1 c1 .char (8 : Int32) [.int x0_, .int x1_, .int x2_, .int x3_, .int x4_, .int x5_, .int x6_, .int x7_] (.int 0) ∧ (¬ x0_ < 0 ∧ ¬ (255 : Int32) < x0_) ∧ (¬ x1_ < 0 ∧ ¬ (255 : Int32) < x1_) ∧ (¬ x2_ < 0 ∧ ¬ (255 : Int32) < x2_) ∧ (¬ x3_ < 0 ∧ ¬ (255 : Int32) < x3_) ∧ (¬ x4_ < 0 ∧ ¬ (255 : Int32) < x4_) ∧ (¬ x5_ < 0 ∧ ¬ (255 : Int32) < x5_) ∧ (¬ x6_ < 0 ∧ ¬ (255 : Int32) < x6_) ∧ (¬ x7_ < 0 ∧ ¬ (255 : Int32) < x7_) ∧ Pr p e below T55 m 333 #[iv p1, iv p2, iv p3, iv p4, iv p5, iv (ab1_ p1), iv (ab0_ p1), rv b1, iv len1, .unset, .unset] [] s₁ en) (fun kont55 => ?_) (fun hA55 => ?_)
 ·
  skip
  have pr56 : Pr p e below T49 m 125 #[iv p1, iv p2, iv p3, iv p4, iv p5, iv (ab1_ p1), iv (ab0_ p1), rv b1, .unset, .unset, .unset] [(.int (ab1_ p1))] s₁ en := fun t k => pr54 t (by
   show Sx p e below T49 m 123 #[iv p1, iv p2, iv p3, iv p4, iv p5, iv (ab1_ p1), iv (ab0_ p1), rv b1, .unset, .unset, .unset] [] _
   refine zi X49 Bd at_123 rfl ?_
   exact k)
  by_cases hc57 : (ab1_ p1) = (0 : Int32)
  ·
   skip
   have av58 := A53_
   obtain ⟨cl58, Ar58, q58, S58, N58, H58, Gf58⟩ := av58
   have hin59 : ¬ ((0 : Int32) < 0 ∨ cl58.slots.size ≤ ((0 : Int32) : Int32).toNatClampNeg) := inb_of S58 (by decide)
   obtain ⟨T59, h59, X59, e59, W59, st59⟩ := stC X49 hx hZ e49 Ar58 (j := (0 : Int32)) hin59 (g := (mkF m 133 #[iv p1, iv p2, iv p3, iv p4, iv p5, iv (ab1_ p1), iv (ab0_ p1), rv b1, .unset, .unset, .unset] [.int 78, .int 0, .ref b1])) rfl rfl (hb hby at_133)
   have N59_ := Fr.snoc X59 N49_ g_b1
   have K60 := K50.wr W59 (Or.inr sz_b1)
   have C61 : CHv Z consts_1 s.vm h59 := CHv.wr W59 (Safe.arv hZ.alike A53_ (by simp)) C51
   have R62 : CHr Z consts_1 s.vm h0 s.vm h59 := R52.trans (CHr.wr W59 (Safe.arv hZ.alike A53_ (by simp)) C51)
   have A63_ : Arv Z h59 b1 c1 .char (8 : Int32) [.int 78, (.int (ab9_ p3)), (.int (ab8_ p3)), (.int (ab7_ p3)), (.int (ab10_ p4)), (.int (ab5_ p4)), (.int (ab3_ p4)), (.int (ab4_ p4))] (.int 0) := Arv.set Ar58 q58 S58 N58 H58 Gf58 (fits_nar_char _) W59 0 (by decide) (lE rfl)
   have av64 := A63_
   obtain ⟨cl64, Ar64, q64, S64, N64, H64, Gf64⟩ := av64
   have hin65 : ¬ ((1 : Int32) < 0 ∨ cl64.slots.size ≤ ((1 : Int32) : Int32).toNatClampNeg) := inb_of S64 (by decide)
   obtain ⟨T65, h65, X65, e65, W65, st65⟩ := stC X59 hx hZ e59 Ar64 (j := (1 : Int32)) hin65 (g := (mkF m 139 #[iv p1, iv p2, iv p3, iv p4, iv p5, iv (ab1_ p1), iv (ab0_ p1), rv b1, .unset, .unset, .unset] [.int 97, .int 1, .ref b1])) rfl rfl (hb hby at_139)
   have N65_ := Fr.snoc X65 N59_ g_b1
   have K66 := K60.wr W65 (Or.inr sz_b1)
   have C67 : CHv Z consts_1 s.vm h65 := CHv.wr W65 (Safe.arv hZ.alike A63_ (by simp)) C61
   have R68 : CHr Z consts_1 s.vm h0 s.vm h65 := R62.trans (CHr.wr W65 (Safe.arv hZ.alike A63_ (by simp)) C61)
   have A69_ : Arv Z h65 b1 c1 .char (8 : Int32) [.int 78, .int 97, (.int (ab8_ p3)), (.int (ab7_ p3)), (.int (ab10_ p4)), (.int (ab5_ p4)), (.int (ab3_ p4)), (.int (ab4_ p4))] (.int 0) := Arv.set Ar64 q64 S64 N64 H64 Gf64 (fits_nar_char _) W65 1 (by decide) (lE rfl)
   have av70 := A69_
   obtain ⟨cl70, Ar70, q70, S70, N70, H70, Gf70⟩ := av70
   have hin71 : ¬ ((2 : Int32) < 0 ∨ cl70.slots.size ≤ ((2 : Int32) : Int32).toNatClampNeg) := inb_of S70 (by decide)
   obtain ⟨T71, h71, X71, e71, W71, st71⟩ := stC X65 hx hZ e65 Ar70 (j := (2 : Int32)) hin71 (g := (mkF m 145 #[iv p1, iv p2, iv p3, iv p4, iv p5, iv (ab1_ p1), iv (ab0_ p1), rv b1, .unset, .unset, .unset] [.int 78, .int 2, .ref b1])) rfl rfl (hb hby at_145)
   have N71_ := Fr.snoc X71 N65_ g_b1
   have K72 := K66.wr W71 (Or.inr sz_b1)
   have C73 : CHv Z consts_1 s.vm h71 := CHv.wr W71 (Safe.arv hZ.alike A69_ (by simp)) C67
   have R74 : CHr Z consts_1 s.vm h0 s.vm h71 := R68.trans (CHr.wr W71 (Safe.arv hZ.alike A69_ (by simp)) C67)
   have A75_ : Arv Z h71 b1 c1 .char (8 : Int32) [.int 78, .int 97, .int 78, (.int (ab7_ p3)), (.int (ab10_ p4)), (.int (ab5_ p4)), (.int (ab3_ p4)), (.int (ab4_ p4))] (.int 0) := Arv.set Ar70 q70 S70 N70 H70 Gf70 (fits_nar_char _) W71 2 (by decide) (lE rfl)
   have pr76 : Pr p e below T71 m 333 #[iv p1, iv p2, iv p3, iv p4, iv p5, iv (ab1_ p1), iv (ab0_ p1), rv b1, iv 3, .unset, .unset] [] s₁ en := fun t k => pr56 t (by
    show Sx p e below T49 m 125 #[iv p1, iv p2, iv p3, iv p4, iv p5, iv (ab1_ p1), iv (ab0_ p1), rv b1, .unset, .unset, .unset] [(.int (ab1_ p1))] _
    refine zo X49 Bd at_125 (XT.i0_ne_f (hc57 : (ab1_ p1) = (0 : Int32))) ?_
    refine za X49 Bd at_128 rfl rfl ?_
    refine zc X49 Bd at_130 ?_
    refine zd X49 Bd at_131 ?_
    refine st59 _ ?_
    refine za X59 Bd at_134 rfl rfl ?_
    refine zc X59 Bd at_136 ?_
    refine zd X59 Bd at_137 ?_
    refine st65 _ ?_
    refine za X65 Bd at_140 rfl rfl ?_
    refine zc X65 Bd at_142 ?_
    refine zd X65 Bd at_143 ?_
    refine st71 _ ?_
    refine zc X71 Bd at_146 ?_
    refine zs X71 Bd at_147 (l' := #[iv p1, iv p2, iv p3, iv p4, iv p5, iv (ab1_ p1), iv (ab0_ p1), rv b1, iv 3, .unset, .unset]) rfl ?_
    refine zg (pc' := 333) X71 Bd at_149 rfl ?_
    exact k)
   exact kont55 ⟨T71, _, h71, (3 : Int32), (78 : Int32), (97 : Int32), (78 : Int32), (ab7_ p3), (ab10_ p4), (ab5_ p4), (ab3_ p4), (ab4_ p4), (X71.mono (lE rfl) (lE rfl)), e71, N71_, ((((Keep.refl h49 [b1]).wr W59 (Or.inl (mI 0 rfl))).wr W65 (Or.inl (mI 0 rfl))).wr W71 (Or.inl (mI 0 rfl))), A75_, (by decide), (by decide), (by decide), (own_lat (((p3).toUInt32 >>> ((24 : Int32) &&& 31).toUInt32).toInt32)), (own_lat p4), (own_lat (((p4).toUInt32 >>> ((8 : Int32) &&& 31).toUInt32).toInt32)), (own_lat (((p4).toUInt32 >>> ((16 : Int32) &&& 31).toUInt32).toInt32)), (own_lat (((p4).toUInt32 >>> ((24 : Int32) &&& 31).toUInt32).toInt32)), (fun t k => pr76 t k)⟩
  ·
   skip
   have pr77 : Pr p e below T49 m 155 #[iv p1, iv p2, iv p3, iv p4, iv p5, iv (ab1_ p1), iv (ab0_ p1), rv b1, .unset, .unset, .unset] [.int 1, (.int (ab1_ p1))] s₁ en := fun t k => pr56 t (by
    show Sx p e below T49 m 125 #[iv p1, iv p2, iv p3, iv p4, iv p5, iv (ab1_ p1), iv (ab0_ p1), rv b1, .unset, .unset, .unset] [(.int (ab1_ p1))] _
    refine zp (pc' := 152) X49 Bd at_125 (XT.i0_ne_t (hc57 : ¬ ((ab1_ p1) = (0 : Int32)))) rfl ?_
    refine zi X49 Bd at_152 rfl ?_
    refine zc X49 Bd at_154 ?_
    exact k)
   by_cases hc78 : (ab1_ p1) = (1 : Int32)
   ·
    skip
    have av79 := A53_
    obtain ⟨cl79, Ar79, q79, S79, N79, H79, Gf79⟩ := av79
    have hin80 : ¬ ((0 : Int32) < 0 ∨ cl79.slots.size ≤ ((0 : Int32) : Int32).toNatClampNeg) := inb_of S79 (by decide)
    obtain ⟨T80, h80, X80, e80, W80, st80⟩ := stC X49 hx hZ e49 Ar79 (j := (0 : Int32)) hin80 (g := (mkF m 163 #[iv p1, iv p2, iv p3, iv p4, iv p5, iv (ab1_ p1), iv (ab0_ p1), rv b1, .unset, .unset, .unset] [.int 78, .int 0, .ref b1])) rfl rfl (hb hby at_163)
    have N80_ := Fr.snoc X80 N49_ g_b1
    have K81 := K50.wr W80 (Or.inr sz_b1)
    have C82 : CHv Z consts_1 s.vm h80 := CHv.wr W80 (Safe.arv hZ.alike A53_ (by simp)) C51
    have R83 : CHr Z consts_1 s.vm h0 s.vm h80 := R52.trans (CHr.wr W80 (Safe.arv hZ.alike A53_ (by simp)) C51)
    have A84_ : Arv Z h80 b1 c1 .char (8 : Int32) [.int 78, (.int (ab9_ p3)), (.int (ab8_ p3)), (.int (ab7_ p3)), (.int (ab10_ p4)), (.int (ab5_ p4)), (.int (ab3_ p4)), (.int (ab4_ p4))] (.int 0) := Arv.set Ar79 q79 S79 N79 H79 Gf79 (fits_nar_char _) W80 0 (by decide) (lE rfl)
    have av85 := A84_
    obtain ⟨cl85, Ar85, q85, S85, N85, H85, Gf85⟩ := av85
    have hin86 : ¬ ((1 : Int32) < 0 ∨ cl85.slots.size ≤ ((1 : Int32) : Int32).toNatClampNeg) := inb_of S85 (by decide)
    obtain ⟨T86, h86, X86, e86, W86, st86⟩ := stC X80 hx hZ e80 Ar85 (j := (1 : Int32)) hin86 (g := (mkF m 169 #[iv p1, iv p2, iv p3, iv p4, iv p5, iv (ab1_ p1), iv (ab0_ p1), rv b1, .unset, .unset, .unset] [.int 82, .int 1, .ref b1])) rfl rfl (hb hby at_169)
    have N86_ := Fr.snoc X86 N80_ g_b1
    have K87 := K81.wr W86 (Or.inr sz_b1)
    have C88 : CHv Z consts_1 s.vm h86 := CHv.wr W86 (Safe.arv hZ.alike A84_ (by simp)) C82
    have R89 : CHr Z consts_1 s.vm h0 s.vm h86 := R83.trans (CHr.wr W86 (Safe.arv hZ.alike A84_ (by simp)) C82)
    have A90_ : Arv Z h86 b1 c1 .char (8 : Int32) [.int 78, .int 82, (.int (ab8_ p3)), (.int (ab7_ p3)), (.int (ab10_ p4)), (.int (ab5_ p4)), (.int (ab3_ p4)), (.int (ab4_ p4))] (.int 0) := Arv.set Ar85 q85 S85 N85 H85 Gf85 (fits_nar_char _) W86 1 (by decide) (lE rfl)
    have av91 := A90_
    obtain ⟨cl91, Ar91, q91, S91, N91, H91, Gf91⟩ := av91
    have hin92 : ¬ ((2 : Int32) < 0 ∨ cl91.slots.size ≤ ((2 : Int32) : Int32).toNatClampNeg) := inb_of S91 (by decide)
    obtain ⟨T92, h92, X92, e92, W92, st92⟩ := stC X86 hx hZ e86 Ar91 (j := (2 : Int32)) hin92 (g := (mkF m 175 #[iv p1, iv p2, iv p3, iv p4, iv p5, iv (ab1_ p1), iv (ab0_ p1), rv b1, .unset, .unset, .unset] [.int 101, .int 2, .ref b1])) rfl rfl (hb hby at_175)
    have N92_ := Fr.snoc X92 N86_ g_b1
    have K93 := K87.wr W92 (Or.inr sz_b1)
    have C94 : CHv Z consts_1 s.vm h92 := CHv.wr W92 (Safe.arv hZ.alike A90_ (by simp)) C88
    have R95 : CHr Z consts_1 s.vm h0 s.vm h92 := R89.trans (CHr.wr W92 (Safe.arv hZ.alike A90_ (by simp)) C88)
    have A96_ : Arv Z h92 b1 c1 .char (8 : Int32) [.int 78, .int 82, .int 101, (.int (ab7_ p3)), (.int (ab10_ p4)), (.int (ab5_ p4)), (.int (ab3_ p4)), (.int (ab4_ p4))] (.int 0) := Arv.set Ar91 q91 S91 N91 H91 Gf91 (fits_nar_char _) W92 2 (by decide) (lE rfl)
    have av97 := A96_
    obtain ⟨cl97, Ar97, q97, S97, N97, H97, Gf97⟩ := av97
    have hin98 : ¬ ((3 : Int32) < 0 ∨ cl97.slots.size ≤ ((3 : Int32) : Int32).toNatClampNeg) := inb_of S97 (by decide)
    obtain ⟨T98, h98, X98, e98, W98, st98⟩ := stC X92 hx hZ e92 Ar97 (j := (3 : Int32)) hin98 (g := (mkF m 181 #[iv p1, iv p2, iv p3, iv p4, iv p5, iv (ab1_ p1), iv (ab0_ p1), rv b1, .unset, .unset, .unset] [.int 115, .int 3, .ref b1])) rfl rfl (hb hby at_181)
    have N98_ := Fr.snoc X98 N92_ g_b1
    have K99 := K93.wr W98 (Or.inr sz_b1)
    have C100 : CHv Z consts_1 s.vm h98 := CHv.wr W98 (Safe.arv hZ.alike A96_ (by simp)) C94
    have R101 : CHr Z consts_1 s.vm h0 s.vm h98 := R95.trans (CHr.wr W98 (Safe.arv hZ.alike A96_ (by simp)) C94)
    have A102_ : Arv Z h98 b1 c1 .char (8 : Int32) [.int 78, .int 82, .int 101, .int 115, (.int (ab10_ p4)), (.int (ab5_ p4)), (.int (ab3_ p4)), (.int (ab4_ p4))] (.int 0) := Arv.set Ar97 q97 S97 N97 H97 Gf97 (fits_nar_char _) W98 3 (by decide) (lE rfl)
    have pr103 : Pr p e below T98 m 333 #[iv p1, iv p2, iv p3, iv p4, iv p5, iv (ab1_ p1), iv (ab0_ p1), rv b1, iv 4, .unset, .unset] [] s₁ en := fun t k => pr77 t (by
     show Sx p e below T49 m 155 #[iv p1, iv p2, iv p3, iv p4, iv p5, iv (ab1_ p1), iv (ab0_ p1), rv b1, .unset, .unset, .unset] [.int 1, (.int (ab1_ p1))] _
     refine zn X49 Bd at_155 (XT.ii_ne_f (hc78 : (ab1_ p1) = (1 : Int32))) ?_
     refine za X49 Bd at_158 rfl rfl ?_
     refine zc X49 Bd at_160 ?_
     refine zd X49 Bd at_161 ?_
     refine st80 _ ?_
     refine za X80 Bd at_164 rfl rfl ?_
     refine zc X80 Bd at_166 ?_
     refine zd X80 Bd at_167 ?_
     refine st86 _ ?_
     refine za X86 Bd at_170 rfl rfl ?_
     refine zc X86 Bd at_172 ?_
     refine zd X86 Bd at_173 ?_
     refine st92 _ ?_
     refine za X92 Bd at_176 rfl rfl ?_
     refine zc X92 Bd at_178 ?_
     refine zd X92 Bd at_179 ?_
     refine st98 _ ?_
     refine zc X98 Bd at_182 ?_
     refine zs X98 Bd at_183 (l' := #[iv p1, iv p2, iv p3, iv p4, iv p5, iv (ab1_ p1), iv (ab0_ p1), rv b1, iv 4, .unset, .unset]) rfl ?_
     refine zg (pc' := 333) X98 Bd at_185 rfl ?_
     exact k)
    exact kont55 ⟨T98, _, h98, (4 : Int32), (78 : Int32), (82 : Int32), (101 : Int32), (115 : Int32), (ab10_ p4), (ab5_ p4), (ab3_ p4), (ab4_ p4), (X98.mono (lE rfl) (lE rfl)), e98, N98_, (((((Keep.refl h49 [b1]).wr W80 (Or.inl (mI 0 rfl))).wr W86 (Or.inl (mI 0 rfl))).wr W92 (Or.inl (mI 0 rfl))).wr W98 (Or.inl (mI 0 rfl))), A102_, (by decide), (by decide), (by decide), (by decide), (own_lat p4), (own_lat (((p4).toUInt32 >>> ((8 : Int32) &&& 31).toUInt32).toInt32)), (own_lat (((p4).toUInt32 >>> ((16 : Int32) &&& 31).toUInt32).toInt32)), (own_lat (((p4).toUInt32 >>> ((24 : Int32) &&& 31).toUInt32).toInt32)), (fun t k => pr103 t k)⟩
   ·
    skip
    have pr104 : Pr p e below T49 m 191 #[iv p1, iv p2, iv p3, iv p4, iv p5, iv (ab1_ p1), iv (ab0_ p1), rv b1, .unset, .unset, .unset] [.int 2, (.int (ab1_ p1))] s₁ en := fun t k => pr77 t (by
     show Sx p e below T49 m 155 #[iv p1, iv p2, iv p3, iv p4, iv p5, iv (ab1_ p1), iv (ab0_ p1), rv b1, .unset, .unset, .unset] [.int 1, (.int (ab1_ p1))] _
     refine zy (pc' := 188) X49 Bd at_155 (XT.ii_ne_t (hc78 : ¬ ((ab1_ p1) = (1 : Int32)))) rfl ?_
     refine zi X49 Bd at_188 rfl ?_
     refine zc X49 Bd at_190 ?_
     exact k)
    by_cases hc105 : (ab1_ p1) = (2 : Int32)
    ·
     skip
     have av106 := A53_
     obtain ⟨cl106, Ar106, q106, S106, N106, H106, Gf106⟩ := av106
     have hin107 : ¬ ((0 : Int32) < 0 ∨ cl106.slots.size ≤ ((0 : Int32) : Int32).toNatClampNeg) := inb_of S106 (by decide)
     obtain ⟨T107, h107, X107, e107, W107, st107⟩ := stC X49 hx hZ e49 Ar106 (j := (0 : Int32)) hin107 (g := (mkF m 199 #[iv p1, iv p2, iv p3, iv p4, iv p5, iv (ab1_ p1), iv (ab0_ p1), rv b1, .unset, .unset, .unset] [.int 43, .int 0, .ref b1])) rfl rfl (hb hby at_199)
     have N107_ := Fr.snoc X107 N49_ g_b1
     have K108 := K50.wr W107 (Or.inr sz_b1)
     have C109 : CHv Z consts_1 s.vm h107 := CHv.wr W107 (Safe.arv hZ.alike A53_ (by simp)) C51
     have R110 : CHr Z consts_1 s.vm h0 s.vm h107 := R52.trans (CHr.wr W107 (Safe.arv hZ.alike A53_ (by simp)) C51)
     have A111_ : Arv Z h107 b1 c1 .char (8 : Int32) [.int 43, (.int (ab9_ p3)), (.int (ab8_ p3)), (.int (ab7_ p3)), (.int (ab10_ p4)), (.int (ab5_ p4)), (.int (ab3_ p4)), (.int (ab4_ p4))] (.int 0) := Arv.set Ar106 q106 S106 N106 H106 Gf106 (fits_nar_char _) W107 0 (by decide) (lE rfl)
     have av112 := A111_
     obtain ⟨cl112, Ar112, q112, S112, N112, H112, Gf112⟩ := av112
     have hin113 : ¬ ((1 : Int32) < 0 ∨ cl112.slots.size ≤ ((1 : Int32) : Int32).toNatClampNeg) := inb_of S112 (by decide)
     obtain ⟨T113, h113, X113, e113, W113, st113⟩ := stC X107 hx hZ e107 Ar112 (j := (1 : Int32)) hin113 (g := (mkF m 205 #[iv p1, iv p2, iv p3, iv p4, iv p5, iv (ab1_ p1), iv (ab0_ p1), rv b1, .unset, .unset, .unset] [.int 73, .int 1, .ref b1])) rfl rfl (hb hby at_205)
     have N113_ := Fr.snoc X113 N107_ g_b1
     have K114 := K108.wr W113 (Or.inr sz_b1)
     have C115 : CHv Z consts_1 s.vm h113 := CHv.wr W113 (Safe.arv hZ.alike A111_ (by simp)) C109
     have R116 : CHr Z consts_1 s.vm h0 s.vm h113 := R110.trans (CHr.wr W113 (Safe.arv hZ.alike A111_ (by simp)) C109)
     have A117_ : Arv Z h113 b1 c1 .char (8 : Int32) [.int 43, .int 73, (.int (ab8_ p3)), (.int (ab7_ p3)), (.int (ab10_ p4)), (.int (ab5_ p4)), (.int (ab3_ p4)), (.int (ab4_ p4))] (.int 0) := Arv.set Ar112 q112 S112 N112 H112 Gf112 (fits_nar_char _) W113 1 (by decide) (lE rfl)
     have av118 := A117_
     obtain ⟨cl118, Ar118, q118, S118, N118, H118, Gf118⟩ := av118
     have hin119 : ¬ ((2 : Int32) < 0 ∨ cl118.slots.size ≤ ((2 : Int32) : Int32).toNatClampNeg) := inb_of S118 (by decide)
     obtain ⟨T119, h119, X119, e119, W119, st119⟩ := stC X113 hx hZ e113 Ar118 (j := (2 : Int32)) hin119 (g := (mkF m 211 #[iv p1, iv p2, iv p3, iv p4, iv p5, iv (ab1_ p1), iv (ab0_ p1), rv b1, .unset, .unset, .unset] [.int 78, .int 2, .ref b1])) rfl rfl (hb hby at_211)
     have N119_ := Fr.snoc X119 N113_ g_b1
     have K120 := K114.wr W119 (Or.inr sz_b1)
     have C121 : CHv Z consts_1 s.vm h119 := CHv.wr W119 (Safe.arv hZ.alike A117_ (by simp)) C115
     have R122 : CHr Z consts_1 s.vm h0 s.vm h119 := R116.trans (CHr.wr W119 (Safe.arv hZ.alike A117_ (by simp)) C115)
     have A123_ : Arv Z h119 b1 c1 .char (8 : Int32) [.int 43, .int 73, .int 78, (.int (ab7_ p3)), (.int (ab10_ p4)), (.int (ab5_ p4)), (.int (ab3_ p4)), (.int (ab4_ p4))] (.int 0) := Arv.set Ar118 q118 S118 N118 H118 Gf118 (fits_nar_char _) W119 2 (by decide) (lE rfl)
     have av124 := A123_
     obtain ⟨cl124, Ar124, q124, S124, N124, H124, Gf124⟩ := av124
     have hin125 : ¬ ((3 : Int32) < 0 ∨ cl124.slots.size ≤ ((3 : Int32) : Int32).toNatClampNeg) := inb_of S124 (by decide)
     obtain ⟨T125, h125, X125, e125, W125, st125⟩ := stC X119 hx hZ e119 Ar124 (j := (3 : Int32)) hin125 (g := (mkF m 217 #[iv p1, iv p2, iv p3, iv p4, iv p5, iv (ab1_ p1), iv (ab0_ p1), rv b1, .unset, .unset, .unset] [.int 70, .int 3, .ref b1])) rfl rfl (hb hby at_217)
     have N125_ := Fr.snoc X125 N119_ g_b1
     have K126 := K120.wr W125 (Or.inr sz_b1)
     have C127 : CHv Z consts_1 s.vm h125 := CHv.wr W125 (Safe.arv hZ.alike A123_ (by simp)) C121
     have R128 : CHr Z consts_1 s.vm h0 s.vm h125 := R122.trans (CHr.wr W125 (Safe.arv hZ.alike A123_ (by simp)) C121)
     have A129_ : Arv Z h125 b1 c1 .char (8 : Int32) [.int 43, .int 73, .int 78, .int 70, (.int (ab10_ p4)), (.int (ab5_ p4)), (.int (ab3_ p4)), (.int (ab4_ p4))] (.int 0) := Arv.set Ar124 q124 S124 N124 H124 Gf124 (fits_nar_char _) W125 3 (by decide) (lE rfl)
     have pr130 : Pr p e below T125 m 333 #[iv p1, iv p2, iv p3, iv p4, iv p5, iv (ab1_ p1), iv (ab0_ p1), rv b1, iv 4, .unset, .unset] [] s₁ en := fun t k => pr104 t (by
      show Sx p e below T49 m 191 #[iv p1, iv p2, iv p3, iv p4, iv p5, iv (ab1_ p1), iv (ab0_ p1), rv b1, .unset, .unset, .unset] [.int 2, (.int (ab1_ p1))] _
      refine zn X49 Bd at_191 (XT.ii_ne_f (hc105 : (ab1_ p1) = (2 : Int32))) ?_
      refine za X49 Bd at_194 rfl rfl ?_
      refine zc X49 Bd at_196 ?_
      refine zd X49 Bd at_197 ?_
      refine st107 _ ?_
      refine za X107 Bd at_200 rfl rfl ?_
      refine zc X107 Bd at_202 ?_
      refine zd X107 Bd at_203 ?_
      refine st113 _ ?_
      refine za X113 Bd at_206 rfl rfl ?_
      refine zc X113 Bd at_208 ?_
      refine zd X113 Bd at_209 ?_
      refine st119 _ ?_
      refine za X119 Bd at_212 rfl rfl ?_
      refine zc X119 Bd at_214 ?_
      refine zd X119 Bd at_215 ?_
      refine st125 _ ?_
      refine zc X125 Bd at_218 ?_
      refine zs X125 Bd at_219 (l' := #[iv p1, iv p2, iv p3, iv p4, iv p5, iv (ab1_ p1), iv (ab0_ p1), rv b1, iv 4, .unset, .unset]) rfl ?_
      refine zg (pc' := 333) X125 Bd at_221 rfl ?_
      exact k)
     exact kont55 ⟨T125, _, h125, (4 : Int32), (43 : Int32), (73 : Int32), (78 : Int32), (70 : Int32), (ab10_ p4), (ab5_ p4), (ab3_ p4), (ab4_ p4), (X125.mono (lE rfl) (lE rfl)), e125, N125_, (((((Keep.refl h49 [b1]).wr W107 (Or.inl (mI 0 rfl))).wr W113 (Or.inl (mI 0 rfl))).wr W119 (Or.inl (mI 0 rfl))).wr W125 (Or.inl (mI 0 rfl))), A129_, (by decide), (by decide), (by decide), (by decide), (own_lat p4), (own_lat (((p4).toUInt32 >>> ((8 : Int32) &&& 31).toUInt32).toInt32)), (own_lat (((p4).toUInt32 >>> ((16 : Int32) &&& 31).toUInt32).toInt32)), (own_lat (((p4).toUInt32 >>> ((24 : Int32) &&& 31).toUInt32).toInt32)), (fun t k => pr130 t k)⟩
    ·
     skip
     have pr131 : Pr p e below T49 m 227 #[iv p1, iv p2, iv p3, iv p4, iv p5, iv (ab1_ p1), iv (ab0_ p1), rv b1, .unset, .unset, .unset] [.int 3, (.int (ab1_ p1))] s₁ en := fun t k => pr104 t (by
      show Sx p e below T49 m 191 #[iv p1, iv p2, iv p3, iv p4, iv p5, iv (ab1_ p1), iv (ab0_ p1), rv b1, .unset, .unset, .unset] [.int 2, (.int (ab1_ p1))] _
      refine zy (pc' := 224) X49 Bd at_191 (XT.ii_ne_t (hc105 : ¬ ((ab1_ p1) = (2 : Int32)))) rfl ?_
      refine zi X49 Bd at_224 rfl ?_
      refine zc X49 Bd at_226 ?_
      exact k)
     by_cases hc132 : (ab1_ p1) = (3 : Int32)
     ·
      skip
      have av133 := A53_
      obtain ⟨cl133, Ar133, q133, S133, N133, H133, Gf133⟩ := av133
      have hin134 : ¬ ((0 : Int32) < 0 ∨ cl133.slots.size ≤ ((0 : Int32) : Int32).toNatClampNeg) := inb_of S133 (by decide)
      obtain ⟨T134, h134, X134, e134, W134, st134⟩ := stC X49 hx hZ e49 Ar133 (j := (0 : Int32)) hin134 (g := (mkF m 235 #[iv p1, iv p2, iv p3, iv p4, iv p5, iv (ab1_ p1), iv (ab0_ p1), rv b1, .unset, .unset, .unset] [.int 45, .int 0, .ref b1])) rfl rfl (hb hby at_235)
      have N134_ := Fr.snoc X134 N49_ g_b1
      have K135 := K50.wr W134 (Or.inr sz_b1)
      have C136 : CHv Z consts_1 s.vm h134 := CHv.wr W134 (Safe.arv hZ.alike A53_ (by simp)) C51
      have R137 : CHr Z consts_1 s.vm h0 s.vm h134 := R52.trans (CHr.wr W134 (Safe.arv hZ.alike A53_ (by simp)) C51)
      have A138_ : Arv Z h134 b1 c1 .char (8 : Int32) [.int 45, (.int (ab9_ p3)), (.int (ab8_ p3)), (.int (ab7_ p3)), (.int (ab10_ p4)), (.int (ab5_ p4)), (.int (ab3_ p4)), (.int (ab4_ p4))] (.int 0) := Arv.set Ar133 q133 S133 N133 H133 Gf133 (fits_nar_char _) W134 0 (by decide) (lE rfl)
      have av139 := A138_
      obtain ⟨cl139, Ar139, q139, S139, N139, H139, Gf139⟩ := av139
      have hin140 : ¬ ((1 : Int32) < 0 ∨ cl139.slots.size ≤ ((1 : Int32) : Int32).toNatClampNeg) := inb_of S139 (by decide)
      obtain ⟨T140, h140, X140, e140, W140, st140⟩ := stC X134 hx hZ e134 Ar139 (j := (1 : Int32)) hin140 (g := (mkF m 241 #[iv p1, iv p2, iv p3, iv p4, iv p5, iv (ab1_ p1), iv (ab0_ p1), rv b1, .unset, .unset, .unset] [.int 73, .int 1, .ref b1])) rfl rfl (hb hby at_241)
      have N140_ := Fr.snoc X140 N134_ g_b1
      have K141 := K135.wr W140 (Or.inr sz_b1)
      have C142 : CHv Z consts_1 s.vm h140 := CHv.wr W140 (Safe.arv hZ.alike A138_ (by simp)) C136
      have R143 : CHr Z consts_1 s.vm h0 s.vm h140 := R137.trans (CHr.wr W140 (Safe.arv hZ.alike A138_ (by simp)) C136)
      have A144_ : Arv Z h140 b1 c1 .char (8 : Int32) [.int 45, .int 73, (.int (ab8_ p3)), (.int (ab7_ p3)), (.int (ab10_ p4)), (.int (ab5_ p4)), (.int (ab3_ p4)), (.int (ab4_ p4))] (.int 0) := Arv.set Ar139 q139 S139 N139 H139 Gf139 (fits_nar_char _) W140 1 (by decide) (lE rfl)
      have av145 := A144_
      obtain ⟨cl145, Ar145, q145, S145, N145, H145, Gf145⟩ := av145
      have hin146 : ¬ ((2 : Int32) < 0 ∨ cl145.slots.size ≤ ((2 : Int32) : Int32).toNatClampNeg) := inb_of S145 (by decide)
      obtain ⟨T146, h146, X146, e146, W146, st146⟩ := stC X140 hx hZ e140 Ar145 (j := (2 : Int32)) hin146 (g := (mkF m 247 #[iv p1, iv p2, iv p3, iv p4, iv p5, iv (ab1_ p1), iv (ab0_ p1), rv b1, .unset, .unset, .unset] [.int 78, .int 2, .ref b1])) rfl rfl (hb hby at_247)
      have N146_ := Fr.snoc X146 N140_ g_b1
      have K147 := K141.wr W146 (Or.inr sz_b1)
      have C148 : CHv Z consts_1 s.vm h146 := CHv.wr W146 (Safe.arv hZ.alike A144_ (by simp)) C142
      have R149 : CHr Z consts_1 s.vm h0 s.vm h146 := R143.trans (CHr.wr W146 (Safe.arv hZ.alike A144_ (by simp)) C142)
      have A150_ : Arv Z h146 b1 c1 .char (8 : Int32) [.int 45, .int 73, .int 78, (.int (ab7_ p3)), (.int (ab10_ p4)), (.int (ab5_ p4)), (.int (ab3_ p4)), (.int (ab4_ p4))] (.int 0) := Arv.set Ar145 q145 S145 N145 H145 Gf145 (fits_nar_char _) W146 2 (by decide) (lE rfl)
      have av151 := A150_
      obtain ⟨cl151, Ar151, q151, S151, N151, H151, Gf151⟩ := av151
      have hin152 : ¬ ((3 : Int32) < 0 ∨ cl151.slots.size ≤ ((3 : Int32) : Int32).toNatClampNeg) := inb_of S151 (by decide)
      obtain ⟨T152, h152, X152, e152, W152, st152⟩ := stC X146 hx hZ e146 Ar151 (j := (3 : Int32)) hin152 (g := (mkF m 253 #[iv p1, iv p2, iv p3, iv p4, iv p5, iv (ab1_ p1), iv (ab0_ p1), rv b1, .unset, .unset, .unset] [.int 70, .int 3, .ref b1])) rfl rfl (hb hby at_253)
      have N152_ := Fr.snoc X152 N146_ g_b1
      have K153 := K147.wr W152 (Or.inr sz_b1)
      have C154 : CHv Z consts_1 s.vm h152 := CHv.wr W152 (Safe.arv hZ.alike A150_ (by simp)) C148
      have R155 : CHr Z consts_1 s.vm h0 s.vm h152 := R149.trans (CHr.wr W152 (Safe.arv hZ.alike A150_ (by simp)) C148)
      have A156_ : Arv Z h152 b1 c1 .char (8 : Int32) [.int 45, .int 73, .int 78, .int 70, (.int (ab10_ p4)), (.int (ab5_ p4)), (.int (ab3_ p4)), (.int (ab4_ p4))] (.int 0) := Arv.set Ar151 q151 S151 N151 H151 Gf151 (fits_nar_char _) W152 3 (by decide) (lE rfl)
      have pr157 : Pr p e below T152 m 333 #[iv p1, iv p2, iv p3, iv p4, iv p5, iv (ab1_ p1), iv (ab0_ p1), rv b1, iv 4, .unset, .unset] [] s₁ en := fun t k => pr131 t (by
       show Sx p e below T49 m 227 #[iv p1, iv p2, iv p3, iv p4, iv p5, iv (ab1_ p1), iv (ab0_ p1), rv b1, .unset, .unset, .unset] [.int 3, (.int (ab1_ p1))] _
       refine zn X49 Bd at_227 (XT.ii_ne_f (hc132 : (ab1_ p1) = (3 : Int32))) ?_
       refine za X49 Bd at_230 rfl rfl ?_
       refine zc X49 Bd at_232 ?_
       refine zd X49 Bd at_233 ?_
       refine st134 _ ?_
       refine za X134 Bd at_236 rfl rfl ?_
       refine zc X134 Bd at_238 ?_
       refine zd X134 Bd at_239 ?_
       refine st140 _ ?_
       refine za X140 Bd at_242 rfl rfl ?_
       refine zc X140 Bd at_244 ?_
       refine zd X140 Bd at_245 ?_
       refine st146 _ ?_
       refine za X146 Bd at_248 rfl rfl ?_
       refine zc X146 Bd at_250 ?_
       refine zd X146 Bd at_251 ?_
       refine st152 _ ?_
       refine zc X152 Bd at_254 ?_
       refine zs X152 Bd at_255 (l' := #[iv p1, iv p2, iv p3, iv p4, iv p5, iv (ab1_ p1), iv (ab0_ p1), rv b1, iv 4, .unset, .unset]) rfl ?_
       refine zg (pc' := 333) X152 Bd at_257 rfl ?_
       exact k)
      exact kont55 ⟨T152, _, h152, (4 : Int32), (45 : Int32), (73 : Int32), (78 : Int32), (70 : Int32), (ab10_ p4), (ab5_ p4), (ab3_ p4), (ab4_ p4), (X152.mono (lE rfl) (lE rfl)), e152, N152_, (((((Keep.refl h49 [b1]).wr W134 (Or.inl (mI 0 rfl))).wr W140 (Or.inl (mI 0 rfl))).wr W146 (Or.inl (mI 0 rfl))).wr W152 (Or.inl (mI 0 rfl))), A156_, (by decide), (by decide), (by decide), (by decide), (own_lat p4), (own_lat (((p4).toUInt32 >>> ((8 : Int32) &&& 31).toUInt32).toInt32)), (own_lat (((p4).toUInt32 >>> ((16 : Int32) &&& 31).toUInt32).toInt32)), (own_lat (((p4).toUInt32 >>> ((24 : Int32) &&& 31).toUInt32).toInt32)), (fun t k => pr157 t k)⟩
     ·
      skip
      have pr158 : Pr p e below T49 m 263 #[iv p1, iv p2, iv p3, iv p4, iv p5, iv (ab1_ p1), iv (ab0_ p1), rv b1, .unset, .unset, .unset] [.int 4, (.int (ab1_ p1))] s₁ en := fun t k => pr131 t (by
       show Sx p e below T49 m 227 #[iv p1, iv p2, iv p3, iv p4, iv p5, iv (ab1_ p1), iv (ab0_ p1), rv b1, .unset, .unset, .unset] [.int 3, (.int (ab1_ p1))] _
       refine zy (pc' := 260) X49 Bd at_227 (XT.ii_ne_t (hc132 : ¬ ((ab1_ p1) = (3 : Int32)))) rfl ?_
       refine zi X49 Bd at_260 rfl ?_
       refine zc X49 Bd at_262 ?_
       exact k)
      by_cases hc159 : (ab1_ p1) = (4 : Int32)
      ·
       skip
       have av160 := A53_
       obtain ⟨cl160, Ar160, q160, S160, N160, H160, Gf160⟩ := av160
       have hin161 : ¬ ((0 : Int32) < 0 ∨ cl160.slots.size ≤ ((0 : Int32) : Int32).toNatClampNeg) := inb_of S160 (by decide)
       obtain ⟨T161, h161, X161, e161, W161, st161⟩ := stC X49 hx hZ e49 Ar160 (j := (0 : Int32)) hin161 (g := (mkF m 271 #[iv p1, iv p2, iv p3, iv p4, iv p5, iv (ab1_ p1), iv (ab0_ p1), rv b1, .unset, .unset, .unset] [.int 114, .int 0, .ref b1])) rfl rfl (hb hby at_271)
       have N161_ := Fr.snoc X161 N49_ g_b1
       have K162 := K50.wr W161 (Or.inr sz_b1)
       have C163 : CHv Z consts_1 s.vm h161 := CHv.wr W161 (Safe.arv hZ.alike A53_ (by simp)) C51
       have R164 : CHr Z consts_1 s.vm h0 s.vm h161 := R52.trans (CHr.wr W161 (Safe.arv hZ.alike A53_ (by simp)) C51)
       have A165_ : Arv Z h161 b1 c1 .char (8 : Int32) [.int 114, (.int (ab9_ p3)), (.int (ab8_ p3)), (.int (ab7_ p3)), (.int (ab10_ p4)), (.int (ab5_ p4)), (.int (ab3_ p4)), (.int (ab4_ p4))] (.int 0) := Arv.set Ar160 q160 S160 N160 H160 Gf160 (fits_nar_char _) W161 0 (by decide) (lE rfl)
       have av166 := A165_
       obtain ⟨cl166, Ar166, q166, S166, N166, H166, Gf166⟩ := av166
       have hin167 : ¬ ((1 : Int32) < 0 ∨ cl166.slots.size ≤ ((1 : Int32) : Int32).toNatClampNeg) := inb_of S166 (by decide)
       obtain ⟨T167, h167, X167, e167, W167, st167⟩ := stC X161 hx hZ e161 Ar166 (j := (1 : Int32)) hin167 (g := (mkF m 277 #[iv p1, iv p2, iv p3, iv p4, iv p5, iv (ab1_ p1), iv (ab0_ p1), rv b1, .unset, .unset, .unset] [.int 101, .int 1, .ref b1])) rfl rfl (hb hby at_277)
       have N167_ := Fr.snoc X167 N161_ g_b1
       have K168 := K162.wr W167 (Or.inr sz_b1)
       have C169 : CHv Z consts_1 s.vm h167 := CHv.wr W167 (Safe.arv hZ.alike A165_ (by simp)) C163
       have R170 : CHr Z consts_1 s.vm h0 s.vm h167 := R164.trans (CHr.wr W167 (Safe.arv hZ.alike A165_ (by simp)) C163)
       have A171_ : Arv Z h167 b1 c1 .char (8 : Int32) [.int 114, .int 101, (.int (ab8_ p3)), (.int (ab7_ p3)), (.int (ab10_ p4)), (.int (ab5_ p4)), (.int (ab3_ p4)), (.int (ab4_ p4))] (.int 0) := Arv.set Ar166 q166 S166 N166 H166 Gf166 (fits_nar_char _) W167 1 (by decide) (lE rfl)
       have av172 := A171_
       obtain ⟨cl172, Ar172, q172, S172, N172, H172, Gf172⟩ := av172
       have hin173 : ¬ ((2 : Int32) < 0 ∨ cl172.slots.size ≤ ((2 : Int32) : Int32).toNatClampNeg) := inb_of S172 (by decide)
       obtain ⟨T173, h173, X173, e173, W173, st173⟩ := stC X167 hx hZ e167 Ar172 (j := (2 : Int32)) hin173 (g := (mkF m 283 #[iv p1, iv p2, iv p3, iv p4, iv p5, iv (ab1_ p1), iv (ab0_ p1), rv b1, .unset, .unset, .unset] [.int 115, .int 2, .ref b1])) rfl rfl (hb hby at_283)
       have N173_ := Fr.snoc X173 N167_ g_b1
       have K174 := K168.wr W173 (Or.inr sz_b1)
       have C175 : CHv Z consts_1 s.vm h173 := CHv.wr W173 (Safe.arv hZ.alike A171_ (by simp)) C169
       have R176 : CHr Z consts_1 s.vm h0 s.vm h173 := R170.trans (CHr.wr W173 (Safe.arv hZ.alike A171_ (by simp)) C169)
       have A177_ : Arv Z h173 b1 c1 .char (8 : Int32) [.int 114, .int 101, .int 115, (.int (ab7_ p3)), (.int (ab10_ p4)), (.int (ab5_ p4)), (.int (ab3_ p4)), (.int (ab4_ p4))] (.int 0) := Arv.set Ar172 q172 S172 N172 H172 Gf172 (fits_nar_char _) W173 2 (by decide) (lE rfl)
       have av178 := A177_
       obtain ⟨cl178, Ar178, q178, S178, N178, H178, Gf178⟩ := av178
       have hin179 : ¬ ((3 : Int32) < 0 ∨ cl178.slots.size ≤ ((3 : Int32) : Int32).toNatClampNeg) := inb_of S178 (by decide)
       obtain ⟨T179, h179, X179, e179, W179, st179⟩ := stC X173 hx hZ e173 Ar178 (j := (3 : Int32)) hin179 (g := (mkF m 289 #[iv p1, iv p2, iv p3, iv p4, iv p5, iv (ab1_ p1), iv (ab0_ p1), rv b1, .unset, .unset, .unset] [.int 101, .int 3, .ref b1])) rfl rfl (hb hby at_289)
       have N179_ := Fr.snoc X179 N173_ g_b1
       have K180 := K174.wr W179 (Or.inr sz_b1)
       have C181 : CHv Z consts_1 s.vm h179 := CHv.wr W179 (Safe.arv hZ.alike A177_ (by simp)) C175
       have R182 : CHr Z consts_1 s.vm h0 s.vm h179 := R176.trans (CHr.wr W179 (Safe.arv hZ.alike A177_ (by simp)) C175)
       have A183_ : Arv Z h179 b1 c1 .char (8 : Int32) [.int 114, .int 101, .int 115, .int 101, (.int (ab10_ p4)), (.int (ab5_ p4)), (.int (ab3_ p4)), (.int (ab4_ p4))] (.int 0) := Arv.set Ar178 q178 S178 N178 H178 Gf178 (fits_nar_char _) W179 3 (by decide) (lE rfl)
       have av184 := A183_
       obtain ⟨cl184, Ar184, q184, S184, N184, H184, Gf184⟩ := av184
       have hin185 : ¬ ((4 : Int32) < 0 ∨ cl184.slots.size ≤ ((4 : Int32) : Int32).toNatClampNeg) := inb_of S184 (by decide)
       obtain ⟨T185, h185, X185, e185, W185, st185⟩ := stC X179 hx hZ e179 Ar184 (j := (4 : Int32)) hin185 (g := (mkF m 295 #[iv p1, iv p2, iv p3, iv p4, iv p5, iv (ab1_ p1), iv (ab0_ p1), rv b1, .unset, .unset, .unset] [.int 114, .int 4, .ref b1])) rfl rfl (hb hby at_295)
       have N185_ := Fr.snoc X185 N179_ g_b1
       have K186 := K180.wr W185 (Or.inr sz_b1)
       have C187 : CHv Z consts_1 s.vm h185 := CHv.wr W185 (Safe.arv hZ.alike A183_ (by simp)) C181
       have R188 : CHr Z consts_1 s.vm h0 s.vm h185 := R182.trans (CHr.wr W185 (Safe.arv hZ.alike A183_ (by simp)) C181)
       have A189_ : Arv Z h185 b1 c1 .char (8 : Int32) [.int 114, .int 101, .int 115, .int 101, .int 114, (.int (ab5_ p4)), (.int (ab3_ p4)), (.int (ab4_ p4))] (.int 0) := Arv.set Ar184 q184 S184 N184 H184 Gf184 (fits_nar_char _) W185 4 (by decide) (lE rfl)
       have av190 := A189_
       obtain ⟨cl190, Ar190, q190, S190, N190, H190, Gf190⟩ := av190
       have hin191 : ¬ ((5 : Int32) < 0 ∨ cl190.slots.size ≤ ((5 : Int32) : Int32).toNatClampNeg) := inb_of S190 (by decide)
       obtain ⟨T191, h191, X191, e191, W191, st191⟩ := stC X185 hx hZ e185 Ar190 (j := (5 : Int32)) hin191 (g := (mkF m 301 #[iv p1, iv p2, iv p3, iv p4, iv p5, iv (ab1_ p1), iv (ab0_ p1), rv b1, .unset, .unset, .unset] [.int 118, .int 5, .ref b1])) rfl rfl (hb hby at_301)
       have N191_ := Fr.snoc X191 N185_ g_b1
       have K192 := K186.wr W191 (Or.inr sz_b1)
       have C193 : CHv Z consts_1 s.vm h191 := CHv.wr W191 (Safe.arv hZ.alike A189_ (by simp)) C187
       have R194 : CHr Z consts_1 s.vm h0 s.vm h191 := R188.trans (CHr.wr W191 (Safe.arv hZ.alike A189_ (by simp)) C187)
       have A195_ : Arv Z h191 b1 c1 .char (8 : Int32) [.int 114, .int 101, .int 115, .int 101, .int 114, .int 118, (.int (ab3_ p4)), (.int (ab4_ p4))] (.int 0) := Arv.set Ar190 q190 S190 N190 H190 Gf190 (fits_nar_char _) W191 5 (by decide) (lE rfl)
       have av196 := A195_
       obtain ⟨cl196, Ar196, q196, S196, N196, H196, Gf196⟩ := av196
       have hin197 : ¬ ((6 : Int32) < 0 ∨ cl196.slots.size ≤ ((6 : Int32) : Int32).toNatClampNeg) := inb_of S196 (by decide)
       obtain ⟨T197, h197, X197, e197, W197, st197⟩ := stC X191 hx hZ e191 Ar196 (j := (6 : Int32)) hin197 (g := (mkF m 308 #[iv p1, iv p2, iv p3, iv p4, iv p5, iv (ab1_ p1), iv (ab0_ p1), rv b1, .unset, .unset, .unset] [.int 101, .int 6, .ref b1])) rfl rfl (hb hby at_308)
       have N197_ := Fr.snoc X197 N191_ g_b1
       have K198 := K192.wr W197 (Or.inr sz_b1)
       have C199 : CHv Z consts_1 s.vm h197 := CHv.wr W197 (Safe.arv hZ.alike A195_ (by simp)) C193
       have R200 : CHr Z consts_1 s.vm h0 s.vm h197 := R194.trans (CHr.wr W197 (Safe.arv hZ.alike A195_ (by simp)) C193)
       have A201_ : Arv Z h197 b1 c1 .char (8 : Int32) [.int 114, .int 101, .int 115, .int 101, .int 114, .int 118, .int 101, (.int (ab4_ p4))] (.int 0) := Arv.set Ar196 q196 S196 N196 H196 Gf196 (fits_nar_char _) W197 6 (by decide) (lE rfl)
       have av202 := A201_
       obtain ⟨cl202, Ar202, q202, S202, N202, H202, Gf202⟩ := av202
       have hin203 : ¬ ((7 : Int32) < 0 ∨ cl202.slots.size ≤ ((7 : Int32) : Int32).toNatClampNeg) := inb_of S202 (by decide)
       obtain ⟨T203, h203, X203, e203, W203, st203⟩ := stC X197 hx hZ e197 Ar202 (j := (7 : Int32)) hin203 (g := (mkF m 315 #[iv p1, iv p2, iv p3, iv p4, iv p5, iv (ab1_ p1), iv (ab0_ p1), rv b1, .unset, .unset, .unset] [.int 100, .int 7, .ref b1])) rfl rfl (hb hby at_315)
       have N203_ := Fr.snoc X203 N197_ g_b1
       have K204 := K198.wr W203 (Or.inr sz_b1)
       have C205 : CHv Z consts_1 s.vm h203 := CHv.wr W203 (Safe.arv hZ.alike A201_ (by simp)) C199
       have R206 : CHr Z consts_1 s.vm h0 s.vm h203 := R200.trans (CHr.wr W203 (Safe.arv hZ.alike A201_ (by simp)) C199)
       have A207_ : Arv Z h203 b1 c1 .char (8 : Int32) [.int 114, .int 101, .int 115, .int 101, .int 114, .int 118, .int 101, .int 100] (.int 0) := Arv.set Ar202 q202 S202 N202 H202 Gf202 (fits_nar_char _) W203 7 (by decide) (lE rfl)
       have pr208 : Pr p e below T203 m 333 #[iv p1, iv p2, iv p3, iv p4, iv p5, iv (ab1_ p1), iv (ab0_ p1), rv b1, iv 8, .unset, .unset] [] s₁ en := fun t k => pr158 t (by
        show Sx p e below T49 m 263 #[iv p1, iv p2, iv p3, iv p4, iv p5, iv (ab1_ p1), iv (ab0_ p1), rv b1, .unset, .unset, .unset] [.int 4, (.int (ab1_ p1))] _
        refine zn X49 Bd at_263 (XT.ii_ne_f (hc159 : (ab1_ p1) = (4 : Int32))) ?_
        refine za X49 Bd at_266 rfl rfl ?_
        refine zc X49 Bd at_268 ?_
        refine zd X49 Bd at_269 ?_
        refine st161 _ ?_
        refine za X161 Bd at_272 rfl rfl ?_
        refine zc X161 Bd at_274 ?_
        refine zd X161 Bd at_275 ?_
        refine st167 _ ?_
        refine za X167 Bd at_278 rfl rfl ?_
        refine zc X167 Bd at_280 ?_
        refine zd X167 Bd at_281 ?_
        refine st173 _ ?_
        refine za X173 Bd at_284 rfl rfl ?_
        refine zc X173 Bd at_286 ?_
        refine zd X173 Bd at_287 ?_
        refine st179 _ ?_
        refine za X179 Bd at_290 rfl rfl ?_
        refine zc X179 Bd at_292 ?_
        refine zd X179 Bd at_293 ?_
        refine st185 _ ?_
        refine za X185 Bd at_296 rfl rfl ?_
        refine zc X185 Bd at_298 ?_
        refine zd X185 Bd at_299 ?_
        refine st191 _ ?_
        show Sx p e below T191 m 302 #[iv p1, iv p2, iv p3, iv p4, iv p5, iv (ab1_ p1), iv (ab0_ p1), rv b1, .unset, .unset, .unset] [] _
        refine za X191 Bd at_302 rfl rfl ?_
        refine zd X191 Bd at_304 ?_
        refine zd X191 Bd at_306 ?_
        refine st197 _ ?_
        refine za X197 Bd at_309 rfl rfl ?_
        refine zd X197 Bd at_311 ?_
        refine zd X197 Bd at_313 ?_
        refine st203 _ ?_
        refine zd X203 Bd at_316 ?_
        refine zs X203 Bd at_318 (l' := #[iv p1, iv p2, iv p3, iv p4, iv p5, iv (ab1_ p1), iv (ab0_ p1), rv b1, iv 8, .unset, .unset]) rfl ?_
        refine zg (pc' := 333) X203 Bd at_320 rfl ?_
        exact k)
       exact kont55 ⟨T203, _, h203, (8 : Int32), (114 : Int32), (101 : Int32), (115 : Int32), (101 : Int32), (114 : Int32), (118 : Int32), (101 : Int32), (100 : Int32), (X203.mono (lE rfl) (lE rfl)), e203, N203_, (((((((((Keep.refl h49 [b1]).wr W161 (Or.inl (mI 0 rfl))).wr W167 (Or.inl (mI 0 rfl))).wr W173 (Or.inl (mI 0 rfl))).wr W179 (Or.inl (mI 0 rfl))).wr W185 (Or.inl (mI 0 rfl))).wr W191 (Or.inl (mI 0 rfl))).wr W197 (Or.inl (mI 0 rfl))).wr W203 (Or.inl (mI 0 rfl))), A207_, (by decide), (by decide), (by decide), (by decide), (by decide), (by decide), (by decide), (by decide), (fun t k => pr208 t k)⟩
      ·
       skip
       have pr209 : Pr p e below T49 m 333 #[iv p1, iv p2, iv p3, iv p4, iv p5, iv (ab1_ p1), iv (ab0_ p1), rv b1, iv ((p5 &&& (2147483647 : Int32)) % (9 : Int32)), .unset, .unset] [] s₁ en := fun t k => pr158 t (by
        show Sx p e below T49 m 263 #[iv p1, iv p2, iv p3, iv p4, iv p5, iv (ab1_ p1), iv (ab0_ p1), rv b1, .unset, .unset, .unset] [.int 4, (.int (ab1_ p1))] _
        refine zy (pc' := 323) X49 Bd at_263 (XT.ii_ne_t (hc159 : ¬ ((ab1_ p1) = (4 : Int32)))) rfl ?_
        refine zi X49 Bd at_323 rfl ?_
        refine X49.ldcInt hx hown (mvT hZ (w0_ hw)) (g := (mkF m 325 #[iv p1, iv p2, iv p3, iv p4, iv p5, iv (ab1_ p1), iv (ab0_ p1), rv b1, .unset, .unset, .unset] [.int p5])) rfl (hb hby at_325) _ ?_
        refine XS.iand X49.here hx rfl (hb hby at_327) rfl ?_
        refine zd X49 Bd at_328 ?_
        refine iremM X49 hx (g := (mkF m 330 #[iv p1, iv p2, iv p3, iv p4, iv p5, iv (ab1_ p1), iv (ab0_ p1), rv b1, .unset, .unset, .unset] [.int 9, (.int (p5 &&& (2147483647 : Int32)))])) rfl (hb hby at_330) rfl (by decide) ?_
        refine zs X49 Bd at_331 (l' := #[iv p1, iv p2, iv p3, iv p4, iv p5, iv (ab1_ p1), iv (ab0_ p1), rv b1, iv ((p5 &&& (2147483647 : Int32)) % (9 : Int32)), .unset, .unset]) rfl ?_
        exact k)
       exact kont55 ⟨T49, _, h49, ((p5 &&& (2147483647 : Int32)) % (9 : Int32)), (ab11_ p3), (ab9_ p3), (ab8_ p3), (ab7_ p3), (ab10_ p4), (ab5_ p4), (ab3_ p4), (ab4_ p4), (X49.mono (lE rfl) (lE rfl)), e49, N49_, (Keep.refl h49 [b1]), A53_, (own_lat p3), (own_lat (((p3).toUInt32 >>> ((8 : Int32) &&& 31).toUInt32).toInt32)), (own_lat (((p3).toUInt32 >>> ((16 : Int32) &&& 31).toUInt32).toInt32)), (own_lat (((p3).toUInt32 >>> ((24 : Int32) &&& 31).toUInt32).toInt32)), (own_lat p4), (own_lat (((p4).toUInt32 >>> ((8 : Int32) &&& 31).toUInt32).toInt32)), (own_lat (((p4).toUInt32 >>> ((16 : Int32) &&& 31).toUInt32).toInt32)), (own_lat (((p4).toUInt32 >>> ((24 : Int32) &&& 31).toUInt32).toInt32)), (fun t k => pr209 t k)⟩
 ·
  obtain ⟨T55, L55, h55, len1, x0_, x1_, x2_, x3_, x4_, x5_, x6_, x7_, X55, e55, N55, K55j, A210_, hp55_0, hp55_1, hp55_2, hp55_3, hp55_4, hp55_5, hp55_6, hp55_7, pr55⟩ := hA55
  have K211 := K50.trans K55j (allS (Or.inr sz_b1) all0)
  have C212 : CHv Z consts_1 s.vm h55 := CHv.keep K55j (sfS (Safe.arv hZ.alike A53_ (by simp)) sf0) C51
  have R213 : CHr Z consts_1 s.vm h0 s.vm h55 := R52.trans (CHr.keep K55j (sfS (Safe.arv hZ.alike A53_ (by simp)) sf0) C51)
  refine cps (A := ∃ T214 : State, ∃ L214 : List Loc, ∃ h214 : Heap, ∃ sl214_9 : Slot, ∃ y0_ : Int32, ∃ y1_ : Int32, ∃ y2_ : Int32, ∃ y3_ : Int32, ∃ y4_ : Int32, ∃ y5_ : Int32, ∃ y6_ : Int32, ∃ y7_ : Int32, Stand p l e room_1 (s.setVm s.vm) m #[.int p1, .int p2, .int p3, .int p4, .int p5] below meth c T214 L214 1 8 ∧ T214.heap = h214 ∧ Fr n0 L214 ∧ Keep h55 h214 [b1] ∧ Arv Z h214 b1 c1 .char (8 : Int32) [.int y0_, .int y1_, .int y2_, .int y3_, .int y4_, .int y5_, .int y6_, .int y7_] (.int 0) ∧ (sl214_9 = .unset ∨ ∃ w, sl214_9 = .val w ∧ w.category = 1) ∧ (¬ y0_ < 0 ∧ ¬ (255 : Int32) < y0_) ∧ (¬ y1_ < 0 ∧ ¬ (255 : Int32) < y1_) ∧ (¬ y2_ < 0 ∧ ¬ (255 : Int32) < y2_) ∧ (¬ y3_ < 0 ∧ ¬ (255 : Int32) < y3_) ∧ (¬ y4_ < 0 ∧ ¬ (255 : Int32) < y4_) ∧ (¬ y5_ < 0 ∧ ¬ (255 : Int32) < y5_) ∧ (¬ y6_ < 0 ∧ ¬ (255 : Int32) < y6_) ∧ (¬ y7_ < 0 ∧ ¬ (255 : Int32) < y7_) ∧ Pr p e below T214 m 363 #[iv p1, iv p2, iv p3, iv p4, iv p5, iv (ab1_ p1), iv (ab0_ p1), rv b1, iv len1, sl214_9, .unset] [] s₁ en) (fun kont214 => ?_) (fun hA214 => ?_)
  ·
   skip
   have pr215 : Pr p e below T55 m 337 #[iv p1, iv p2, iv p3, iv p4, iv p5, iv (ab1_ p1), iv (ab0_ p1), rv b1, iv len1, .unset, .unset] [(.int ((ab0_ p1) &&& (1 : Int32)))] s₁ en := fun t k => pr55 t (by
    show Sx p e below T55 m 333 #[iv p1, iv p2, iv p3, iv p4, iv p5, iv (ab1_ p1), iv (ab0_ p1), rv b1, iv len1, .unset, .unset] [] _
    refine zi X55 Bd at_333 rfl ?_
    refine zc X55 Bd at_335 ?_
    refine XS.iand X55.here hx rfl (hb hby at_336) rfl ?_
    exact k)
   by_cases hc216 : ((ab0_ p1) &&& (1 : Int32)) = (0 : Int32)
   ·
    skip
    have pr217 : Pr p e below T55 m 363 #[iv p1, iv p2, iv p3, iv p4, iv p5, iv (ab1_ p1), iv (ab0_ p1), rv b1, iv len1, .unset, .unset] [] s₁ en := fun t k => pr215 t (by
     show Sx p e below T55 m 337 #[iv p1, iv p2, iv p3, iv p4, iv p5, iv (ab1_ p1), iv (ab0_ p1), rv b1, iv len1, .unset, .unset] [(.int ((ab0_ p1) &&& (1 : Int32)))] _
     refine zp (pc' := 363) X55 Bd at_337 (XT.i0_eq_t (hc216 : ((ab0_ p1) &&& (1 : Int32)) = (0 : Int32))) rfl ?_
     exact k)
    exact kont214 ⟨T55, _, h55, .unset, x0_, x1_, x2_, x3_, x4_, x5_, x6_, x7_, (X55.mono (lE rfl) (lE rfl)), e55, N55, (Keep.refl h55 [b1]), A210_, (Or.inl rfl), hp55_0, hp55_1, hp55_2, hp55_3, hp55_4, hp55_5, hp55_6, hp55_7, (fun t k => pr217 t k)⟩
   ·
    skip
    have pr218 : Pr p e below T55 m 362 #[iv p1, iv p2, iv p3, iv p4, iv p5, iv (ab1_ p1), iv (ab0_ p1), rv b1, iv len1, iv (ab6_ p2), .unset] [(.int (ab2_ p2)), (.int (ab6_ p2)), .ref b1] s₁ en := fun t k => pr215 t (by
     show Sx p e below T55 m 337 #[iv p1, iv p2, iv p3, iv p4, iv p5, iv (ab1_ p1), iv (ab0_ p1), rv b1, iv len1, .unset, .unset] [(.int ((ab0_ p1) &&& (1 : Int32)))] _
     refine zo X55 Bd at_337 (XT.i0_eq_f (hc216 : ¬ (((ab0_ p1) &&& (1 : Int32)) = (0 : Int32)))) ?_
     refine zj X55 Bd at_340 rfl ?_
     refine X55.ldcInt hx hown (mvT hZ (w0_ hw)) (g := (mkF m 341 #[iv p1, iv p2, iv p3, iv p4, iv p5, iv (ab1_ p1), iv (ab0_ p1), rv b1, iv len1, .unset, .unset] [.int p2])) rfl (hb hby at_341) _ ?_
     refine XS.iand X55.here hx rfl (hb hby at_343) rfl ?_
     refine zd X55 Bd at_344 ?_
     refine iremM X55 hx (g := (mkF m 346 #[iv p1, iv p2, iv p3, iv p4, iv p5, iv (ab1_ p1), iv (ab0_ p1), rv b1, iv len1, .unset, .unset] [.int 8, (.int (p2 &&& (2147483647 : Int32)))])) rfl (hb hby at_346) rfl (by decide) ?_
     refine zs X55 Bd at_347 (l' := #[iv p1, iv p2, iv p3, iv p4, iv p5, iv (ab1_ p1), iv (ab0_ p1), rv b1, iv len1, iv (ab6_ p2), .unset]) rfl ?_
     refine za X55 Bd at_349 rfl rfl ?_
     refine zi X55 Bd at_351 rfl ?_
     refine zj X55 Bd at_353 rfl ?_
     refine zd X55 Bd at_354 ?_
     refine XS.iushr X55.here hx rfl (hb hby at_356) rfl ?_
     refine XS.sipush X55.here hx rfl (hb hby at_357) ?_
     refine XS.iand X55.here hx rfl (hb hby at_360) rfl ?_
     refine XS.i2c X55.here hx rfl (hb hby at_361) rfl ?_
     exact k)
    by_cases hc219 : (ab6_ p2) = (0 : Int32)
    ·
     skip
     have av220 := A210_
     obtain ⟨cl220, Ar220, q220, S220, N220, H220, Gf220⟩ := av220
     have hin221 : ¬ ((ab6_ p2) < 0 ∨ cl220.slots.size ≤ ((ab6_ p2) : Int32).toNatClampNeg) := inb_of S220 (by have e_ : (ab6_ p2) = (0 : Int32) := hc219; rw [e_]; decide)
     obtain ⟨T221, h221, X221, e221, W221, st221⟩ := stC X55 hx hZ e55 Ar220 (j := (ab6_ p2)) hin221 (g := (mkF m 362 #[iv p1, iv p2, iv p3, iv p4, iv p5, iv (ab1_ p1), iv (ab0_ p1), rv b1, iv len1, iv (ab6_ p2), .unset] [(.int (ab2_ p2)), (.int (ab6_ p2)), .ref b1])) rfl rfl (hb hby at_362)
     have N221_ := Fr.snoc X221 N55 g_b1
     have K222 := K211.wr W221 (Or.inr sz_b1)
     have C223 : CHv Z consts_1 s.vm h221 := CHv.wr W221 (Safe.arv hZ.alike A210_ (by simp)) C212
     have R224 : CHr Z consts_1 s.vm h0 s.vm h221 := R213.trans (CHr.wr W221 (Safe.arv hZ.alike A210_ (by simp)) C212)
     have A225_ : Arv Z h221 b1 c1 .char (8 : Int32) [(.int (ab2_ p2)), .int x1_, .int x2_, .int x3_, .int x4_, .int x5_, .int x6_, .int x7_] (.int 0) := by have q := Arv.set (v := .int (nar .char (ab2_ p2))) Ar220 q220 S220 N220 H220 Gf220 (fits_nar_char _) W221 0 (by have e_ : (ab6_ p2) = (0 : Int32) := hc219; rw [e_]; decide) (lE rfl); rw [((own_nar_i2c _) : nar .char (ab2_ p2) = (ab2_ p2))] at q; exact q
     have pr226 : Pr p e below T221 m 363 #[iv p1, iv p2, iv p3, iv p4, iv p5, iv (ab1_ p1), iv (ab0_ p1), rv b1, iv len1, iv (ab6_ p2), .unset] [] s₁ en := fun t k => pr218 t (by
      show Sx p e below T55 m 362 #[iv p1, iv p2, iv p3, iv p4, iv p5, iv (ab1_ p1), iv (ab0_ p1), rv b1, iv len1, iv (ab6_ p2), .unset] [(.int (ab2_ p2)), (.int (ab6_ p2)), .ref b1] _
      refine st221 _ ?_
      exact k)
     exact kont214 ⟨T221, _, h221, iv (ab6_ p2), (ab2_ p2), x1_, x2_, x3_, x4_, x5_, x6_, x7_, (X221.mono (lE rfl) (lE rfl)), e221, N221_, ((Keep.refl h55 [b1]).wr W221 (Or.inl (mI 0 rfl))), A225_, (Or.inr ⟨_, rfl, rfl⟩), (own_lat (((p2).toUInt32 >>> ((8 : Int32) &&& 31).toUInt32).toInt32)), hp55_1, hp55_2, hp55_3, hp55_4, hp55_5, hp55_6, hp55_7, (fun t k => pr226 t k)⟩
    ·
     skip
     by_cases hc227 : (ab6_ p2) = (1 : Int32)
     ·
      skip
      have av228 := A210_
      obtain ⟨cl228, Ar228, q228, S228, N228, H228, Gf228⟩ := av228
      have hin229 : ¬ ((ab6_ p2) < 0 ∨ cl228.slots.size ≤ ((ab6_ p2) : Int32).toNatClampNeg) := inb_of S228 (by have e_ : (ab6_ p2) = (1 : Int32) := hc227; rw [e_]; decide)
      obtain ⟨T229, h229, X229, e229, W229, st229⟩ := stC X55 hx hZ e55 Ar228 (j := (ab6_ p2)) hin229 (g := (mkF m 362 #[iv p1, iv p2, iv p3, iv p4, iv p5, iv (ab1_ p1), iv (ab0_ p1), rv b1, iv len1, iv (ab6_ p2), .unset] [(.int (ab2_ p2)), (.int (ab6_ p2)), .ref b1])) rfl rfl (hb hby at_362)
      have N229_ := Fr.snoc X229 N55 g_b1
      have K230 := K211.wr W229 (Or.inr sz_b1)
      have C231 : CHv Z consts_1 s.vm h229 := CHv.wr W229 (Safe.arv hZ.alike A210_ (by simp)) C212
      have R232 : CHr Z consts_1 s.vm h0 s.vm h229 := R213.trans (CHr.wr W229 (Safe.arv hZ.alike A210_ (by simp)) C212)
      have A233_ : Arv Z h229 b1 c1 .char (8 : Int32) [.int x0_, (.int (ab2_ p2)), .int x2_, .int x3_, .int x4_, .int x5_, .int x6_, .int x7_] (.int 0) := by have q := Arv.set (v := .int (nar .char (ab2_ p2))) Ar228 q228 S228 N228 H228 Gf228 (fits_nar_char _) W229 1 (by have e_ : (ab6_ p2) = (1 : Int32) := hc227; rw [e_]; decide) (lE rfl); rw [((own_nar_i2c _) : nar .char (ab2_ p2) = (ab2_ p2))] at q; exact q
      have pr234 : Pr p e below T229 m 363 #[iv p1, iv p2, iv p3, iv p4, iv p5, iv (ab1_ p1), iv (ab0_ p1), rv b1, iv len1, iv (ab6_ p2), .unset] [] s₁ en := fun t k => pr218 t (by
       show Sx p e below T55 m 362 #[iv p1, iv p2, iv p3, iv p4, iv p5, iv (ab1_ p1), iv (ab0_ p1), rv b1, iv len1, iv (ab6_ p2), .unset] [(.int (ab2_ p2)), (.int (ab6_ p2)), .ref b1] _
       refine st229 _ ?_
       exact k)
      exact kont214 ⟨T229, _, h229, iv (ab6_ p2), x0_, (ab2_ p2), x2_, x3_, x4_, x5_, x6_, x7_, (X229.mono (lE rfl) (lE rfl)), e229, N229_, ((Keep.refl h55 [b1]).wr W229 (Or.inl (mI 0 rfl))), A233_, (Or.inr ⟨_, rfl, rfl⟩), hp55_0, (own_lat (((p2).toUInt32 >>> ((8 : Int32) &&& 31).toUInt32).toInt32)), hp55_2, hp55_3, hp55_4, hp55_5, hp55_6, hp55_7, (fun t k => pr234 t k)⟩
     ·
      skip
      by_cases hc235 : (ab6_ p2) = (2 : Int32)
      ·
       skip
       have av236 := A210_
       obtain ⟨cl236, Ar236, q236, S236, N236, H236, Gf236⟩ := av236
       have hin237 : ¬ ((ab6_ p2) < 0 ∨ cl236.slots.size ≤ ((ab6_ p2) : Int32).toNatClampNeg) := inb_of S236 (by have e_ : (ab6_ p2) = (2 : Int32) := hc235; rw [e_]; decide)
       obtain ⟨T237, h237, X237, e237, W237, st237⟩ := stC X55 hx hZ e55 Ar236 (j := (ab6_ p2)) hin237 (g := (mkF m 362 #[iv p1, iv p2, iv p3, iv p4, iv p5, iv (ab1_ p1), iv (ab0_ p1), rv b1, iv len1, iv (ab6_ p2), .unset] [(.int (ab2_ p2)), (.int (ab6_ p2)), .ref b1])) rfl rfl (hb hby at_362)
       have N237_ := Fr.snoc X237 N55 g_b1
       have K238 := K211.wr W237 (Or.inr sz_b1)
       have C239 : CHv Z consts_1 s.vm h237 := CHv.wr W237 (Safe.arv hZ.alike A210_ (by simp)) C212
       have R240 : CHr Z consts_1 s.vm h0 s.vm h237 := R213.trans (CHr.wr W237 (Safe.arv hZ.alike A210_ (by simp)) C212)
       have A241_ : Arv Z h237 b1 c1 .char (8 : Int32) [.int x0_, .int x1_, (.int (ab2_ p2)), .int x3_, .int x4_, .int x5_, .int x6_, .int x7_] (.int 0) := by have q := Arv.set (v := .int (nar .char (ab2_ p2))) Ar236 q236 S236 N236 H236 Gf236 (fits_nar_char _) W237 2 (by have e_ : (ab6_ p2) = (2 : Int32) := hc235; rw [e_]; decide) (lE rfl); rw [((own_nar_i2c _) : nar .char (ab2_ p2) = (ab2_ p2))] at q; exact q
       have pr242 : Pr p e below T237 m 363 #[iv p1, iv p2, iv p3, iv p4, iv p5, iv (ab1_ p1), iv (ab0_ p1), rv b1, iv len1, iv (ab6_ p2), .unset] [] s₁ en := fun t k => pr218 t (by
        show Sx p e below T55 m 362 #[iv p1, iv p2, iv p3, iv p4, iv p5, iv (ab1_ p1), iv (ab0_ p1), rv b1, iv len1, iv (ab6_ p2), .unset] [(.int (ab2_ p2)), (.int (ab6_ p2)), .ref b1] _
        refine st237 _ ?_
        exact k)
       exact kont214 ⟨T237, _, h237, iv (ab6_ p2), x0_, x1_, (ab2_ p2), x3_, x4_, x5_, x6_, x7_, (X237.mono (lE rfl) (lE rfl)), e237, N237_, ((Keep.refl h55 [b1]).wr W237 (Or.inl (mI 0 rfl))), A241_, (Or.inr ⟨_, rfl, rfl⟩), hp55_0, hp55_1, (own_lat (((p2).toUInt32 >>> ((8 : Int32) &&& 31).toUInt32).toInt32)), hp55_3, hp55_4, hp55_5, hp55_6, hp55_7, (fun t k => pr242 t k)⟩
      ·
       skip
       by_cases hc243 : (ab6_ p2) = (3 : Int32)
       ·
        skip
        have av244 := A210_
        obtain ⟨cl244, Ar244, q244, S244, N244, H244, Gf244⟩ := av244
        have hin245 : ¬ ((ab6_ p2) < 0 ∨ cl244.slots.size ≤ ((ab6_ p2) : Int32).toNatClampNeg) := inb_of S244 (by have e_ : (ab6_ p2) = (3 : Int32) := hc243; rw [e_]; decide)
        obtain ⟨T245, h245, X245, e245, W245, st245⟩ := stC X55 hx hZ e55 Ar244 (j := (ab6_ p2)) hin245 (g := (mkF m 362 #[iv p1, iv p2, iv p3, iv p4, iv p5, iv (ab1_ p1), iv (ab0_ p1), rv b1, iv len1, iv (ab6_ p2), .unset] [(.int (ab2_ p2)), (.int (ab6_ p2)), .ref b1])) rfl rfl (hb hby at_362)
        have N245_ := Fr.snoc X245 N55 g_b1
        have K246 := K211.wr W245 (Or.inr sz_b1)
        have C247 : CHv Z consts_1 s.vm h245 := CHv.wr W245 (Safe.arv hZ.alike A210_ (by simp)) C212
        have R248 : CHr Z consts_1 s.vm h0 s.vm h245 := R213.trans (CHr.wr W245 (Safe.arv hZ.alike A210_ (by simp)) C212)
        have A249_ : Arv Z h245 b1 c1 .char (8 : Int32) [.int x0_, .int x1_, .int x2_, (.int (ab2_ p2)), .int x4_, .int x5_, .int x6_, .int x7_] (.int 0) := by have q := Arv.set (v := .int (nar .char (ab2_ p2))) Ar244 q244 S244 N244 H244 Gf244 (fits_nar_char _) W245 3 (by have e_ : (ab6_ p2) = (3 : Int32) := hc243; rw [e_]; decide) (lE rfl); rw [((own_nar_i2c _) : nar .char (ab2_ p2) = (ab2_ p2))] at q; exact q
        have pr250 : Pr p e below T245 m 363 #[iv p1, iv p2, iv p3, iv p4, iv p5, iv (ab1_ p1), iv (ab0_ p1), rv b1, iv len1, iv (ab6_ p2), .unset] [] s₁ en := fun t k => pr218 t (by
         show Sx p e below T55 m 362 #[iv p1, iv p2, iv p3, iv p4, iv p5, iv (ab1_ p1), iv (ab0_ p1), rv b1, iv len1, iv (ab6_ p2), .unset] [(.int (ab2_ p2)), (.int (ab6_ p2)), .ref b1] _
         refine st245 _ ?_
         exact k)
        exact kont214 ⟨T245, _, h245, iv (ab6_ p2), x0_, x1_, x2_, (ab2_ p2), x4_, x5_, x6_, x7_, (X245.mono (lE rfl) (lE rfl)), e245, N245_, ((Keep.refl h55 [b1]).wr W245 (Or.inl (mI 0 rfl))), A249_, (Or.inr ⟨_, rfl, rfl⟩), hp55_0, hp55_1, hp55_2, (own_lat (((p2).toUInt32 >>> ((8 : Int32) &&& 31).toUInt32).toInt32)), hp55_4, hp55_5, hp55_6, hp55_7, (fun t k => pr250 t k)⟩
       ·
        skip
        by_cases hc251 : (ab6_ p2) = (4 : Int32)
        ·
         skip
         have av252 := A210_
         obtain ⟨cl252, Ar252, q252, S252, N252, H252, Gf252⟩ := av252
         have hin253 : ¬ ((ab6_ p2) < 0 ∨ cl252.slots.size ≤ ((ab6_ p2) : Int32).toNatClampNeg) := inb_of S252 (by have e_ : (ab6_ p2) = (4 : Int32) := hc251; rw [e_]; decide)
         obtain ⟨T253, h253, X253, e253, W253, st253⟩ := stC X55 hx hZ e55 Ar252 (j := (ab6_ p2)) hin253 (g := (mkF m 362 #[iv p1, iv p2, iv p3, iv p4, iv p5, iv (ab1_ p1), iv (ab0_ p1), rv b1, iv len1, iv (ab6_ p2), .unset] [(.int (ab2_ p2)), (.int (ab6_ p2)), .ref b1])) rfl rfl (hb hby at_362)
         have N253_ := Fr.snoc X253 N55 g_b1
         have K254 := K211.wr W253 (Or.inr sz_b1)
         have C255 : CHv Z consts_1 s.vm h253 := CHv.wr W253 (Safe.arv hZ.alike A210_ (by simp)) C212
         have R256 : CHr Z consts_1 s.vm h0 s.vm h253 := R213.trans (CHr.wr W253 (Safe.arv hZ.alike A210_ (by simp)) C212)
         have A257_ : Arv Z h253 b1 c1 .char (8 : Int32) [.int x0_, .int x1_, .int x2_, .int x3_, (.int (ab2_ p2)), .int x5_, .int x6_, .int x7_] (.int 0) := by have q := Arv.set (v := .int (nar .char (ab2_ p2))) Ar252 q252 S252 N252 H252 Gf252 (fits_nar_char _) W253 4 (by have e_ : (ab6_ p2) = (4 : Int32) := hc251; rw [e_]; decide) (lE rfl); rw [((own_nar_i2c _) : nar .char (ab2_ p2) = (ab2_ p2))] at q; exact q
         have pr258 : Pr p e below T253 m 363 #[iv p1, iv p2, iv p3, iv p4, iv p5, iv (ab1_ p1), iv (ab0_ p1), rv b1, iv len1, iv (ab6_ p2), .unset] [] s₁ en := fun t k => pr218 t (by
          show Sx p e below T55 m 362 #[iv p1, iv p2, iv p3, iv p4, iv p5, iv (ab1_ p1), iv (ab0_ p1), rv b1, iv len1, iv (ab6_ p2), .unset] [(.int (ab2_ p2)), (.int (ab6_ p2)), .ref b1] _
          refine st253 _ ?_
          exact k)
         exact kont214 ⟨T253, _, h253, iv (ab6_ p2), x0_, x1_, x2_, x3_, (ab2_ p2), x5_, x6_, x7_, (X253.mono (lE rfl) (lE rfl)), e253, N253_, ((Keep.refl h55 [b1]).wr W253 (Or.inl (mI 0 rfl))), A257_, (Or.inr ⟨_, rfl, rfl⟩), hp55_0, hp55_1, hp55_2, hp55_3, (own_lat (((p2).toUInt32 >>> ((8 : Int32) &&& 31).toUInt32).toInt32)), hp55_5, hp55_6, hp55_7, (fun t k => pr258 t k)⟩
        ·
         skip
         by_cases hc259 : (ab6_ p2) = (5 : Int32)
         ·
          skip
          have av260 := A210_
          obtain ⟨cl260, Ar260, q260, S260, N260, H260, Gf260⟩ := av260
          have hin261 : ¬ ((ab6_ p2) < 0 ∨ cl260.slots.size ≤ ((ab6_ p2) : Int32).toNatClampNeg) := inb_of S260 (by have e_ : (ab6_ p2) = (5 : Int32) := hc259; rw [e_]; decide)
          obtain ⟨T261, h261, X261, e261, W261, st261⟩ := stC X55 hx hZ e55 Ar260 (j := (ab6_ p2)) hin261 (g := (mkF m 362 #[iv p1, iv p2, iv p3, iv p4, iv p5, iv (ab1_ p1), iv (ab0_ p1), rv b1, iv len1, iv (ab6_ p2), .unset] [(.int (ab2_ p2)), (.int (ab6_ p2)), .ref b1])) rfl rfl (hb hby at_362)
          have N261_ := Fr.snoc X261 N55 g_b1
          have K262 := K211.wr W261 (Or.inr sz_b1)
          have C263 : CHv Z consts_1 s.vm h261 := CHv.wr W261 (Safe.arv hZ.alike A210_ (by simp)) C212
          have R264 : CHr Z consts_1 s.vm h0 s.vm h261 := R213.trans (CHr.wr W261 (Safe.arv hZ.alike A210_ (by simp)) C212)
          have A265_ : Arv Z h261 b1 c1 .char (8 : Int32) [.int x0_, .int x1_, .int x2_, .int x3_, .int x4_, (.int (ab2_ p2)), .int x6_, .int x7_] (.int 0) := by have q := Arv.set (v := .int (nar .char (ab2_ p2))) Ar260 q260 S260 N260 H260 Gf260 (fits_nar_char _) W261 5 (by have e_ : (ab6_ p2) = (5 : Int32) := hc259; rw [e_]; decide) (lE rfl); rw [((own_nar_i2c _) : nar .char (ab2_ p2) = (ab2_ p2))] at q; exact q
          have pr266 : Pr p e below T261 m 363 #[iv p1, iv p2, iv p3, iv p4, iv p5, iv (ab1_ p1), iv (ab0_ p1), rv b1, iv len1, iv (ab6_ p2), .unset] [] s₁ en := fun t k => pr218 t (by
           show Sx p e below T55 m 362 #[iv p1, iv p2, iv p3, iv p4, iv p5, iv (ab1_ p1), iv (ab0_ p1), rv b1, iv len1, iv (ab6_ p2), .unset] [(.int (ab2_ p2)), (.int (ab6_ p2)), .ref b1] _
           refine st261 _ ?_
           exact k)
          exact kont214 ⟨T261, _, h261, iv (ab6_ p2), x0_, x1_, x2_, x3_, x4_, (ab2_ p2), x6_, x7_, (X261.mono (lE rfl) (lE rfl)), e261, N261_, ((Keep.refl h55 [b1]).wr W261 (Or.inl (mI 0 rfl))), A265_, (Or.inr ⟨_, rfl, rfl⟩), hp55_0, hp55_1, hp55_2, hp55_3, hp55_4, (own_lat (((p2).toUInt32 >>> ((8 : Int32) &&& 31).toUInt32).toInt32)), hp55_6, hp55_7, (fun t k => pr266 t k)⟩
         ·
          skip
          by_cases hc267 : (ab6_ p2) = (6 : Int32)
          ·
           skip
           have av268 := A210_
           obtain ⟨cl268, Ar268, q268, S268, N268, H268, Gf268⟩ := av268
           have hin269 : ¬ ((ab6_ p2) < 0 ∨ cl268.slots.size ≤ ((ab6_ p2) : Int32).toNatClampNeg) := inb_of S268 (by have e_ : (ab6_ p2) = (6 : Int32) := hc267; rw [e_]; decide)
           obtain ⟨T269, h269, X269, e269, W269, st269⟩ := stC X55 hx hZ e55 Ar268 (j := (ab6_ p2)) hin269 (g := (mkF m 362 #[iv p1, iv p2, iv p3, iv p4, iv p5, iv (ab1_ p1), iv (ab0_ p1), rv b1, iv len1, iv (ab6_ p2), .unset] [(.int (ab2_ p2)), (.int (ab6_ p2)), .ref b1])) rfl rfl (hb hby at_362)
           have N269_ := Fr.snoc X269 N55 g_b1
           have K270 := K211.wr W269 (Or.inr sz_b1)
           have C271 : CHv Z consts_1 s.vm h269 := CHv.wr W269 (Safe.arv hZ.alike A210_ (by simp)) C212
           have R272 : CHr Z consts_1 s.vm h0 s.vm h269 := R213.trans (CHr.wr W269 (Safe.arv hZ.alike A210_ (by simp)) C212)
           have A273_ : Arv Z h269 b1 c1 .char (8 : Int32) [.int x0_, .int x1_, .int x2_, .int x3_, .int x4_, .int x5_, (.int (ab2_ p2)), .int x7_] (.int 0) := by have q := Arv.set (v := .int (nar .char (ab2_ p2))) Ar268 q268 S268 N268 H268 Gf268 (fits_nar_char _) W269 6 (by have e_ : (ab6_ p2) = (6 : Int32) := hc267; rw [e_]; decide) (lE rfl); rw [((own_nar_i2c _) : nar .char (ab2_ p2) = (ab2_ p2))] at q; exact q
           have pr274 : Pr p e below T269 m 363 #[iv p1, iv p2, iv p3, iv p4, iv p5, iv (ab1_ p1), iv (ab0_ p1), rv b1, iv len1, iv (ab6_ p2), .unset] [] s₁ en := fun t k => pr218 t (by
            show Sx p e below T55 m 362 #[iv p1, iv p2, iv p3, iv p4, iv p5, iv (ab1_ p1), iv (ab0_ p1), rv b1, iv len1, iv (ab6_ p2), .unset] [(.int (ab2_ p2)), (.int (ab6_ p2)), .ref b1] _
            refine st269 _ ?_
            exact k)
           exact kont214 ⟨T269, _, h269, iv (ab6_ p2), x0_, x1_, x2_, x3_, x4_, x5_, (ab2_ p2), x7_, (X269.mono (lE rfl) (lE rfl)), e269, N269_, ((Keep.refl h55 [b1]).wr W269 (Or.inl (mI 0 rfl))), A273_, (Or.inr ⟨_, rfl, rfl⟩), hp55_0, hp55_1, hp55_2, hp55_3, hp55_4, hp55_5, (own_lat (((p2).toUInt32 >>> ((8 : Int32) &&& 31).toUInt32).toInt32)), hp55_7, (fun t k => pr274 t k)⟩
          ·
           skip
           have av275 := A210_
           obtain ⟨cl275, Ar275, q275, S275, N275, H275, Gf275⟩ := av275
           have hin276 : ¬ ((ab6_ p2) < 0 ∨ cl275.slots.size ≤ ((ab6_ p2) : Int32).toNatClampNeg) := inb_of S275 (by have e_ : (ab6_ p2) = (7 : Int32) := (own_rem8 p2 hc219 hc227 hc235 hc243 hc251 hc259 hc267); rw [e_]; decide)
           obtain ⟨T276, h276, X276, e276, W276, st276⟩ := stC X55 hx hZ e55 Ar275 (j := (ab6_ p2)) hin276 (g := (mkF m 362 #[iv p1, iv p2, iv p3, iv p4, iv p5, iv (ab1_ p1), iv (ab0_ p1), rv b1, iv len1, iv (ab6_ p2), .unset] [(.int (ab2_ p2)), (.int (ab6_ p2)), .ref b1])) rfl rfl (hb hby at_362)
           have N276_ := Fr.snoc X276 N55 g_b1
           have K277 := K211.wr W276 (Or.inr sz_b1)
           have C278 : CHv Z consts_1 s.vm h276 := CHv.wr W276 (Safe.arv hZ.alike A210_ (by simp)) C212
           have R279 : CHr Z consts_1 s.vm h0 s.vm h276 := R213.trans (CHr.wr W276 (Safe.arv hZ.alike A210_ (by simp)) C212)
           have A280_ : Arv Z h276 b1 c1 .char (8 : Int32) [.int x0_, .int x1_, .int x2_, .int x3_, .int x4_, .int x5_, .int x6_, (.int (ab2_ p2))] (.int 0) := by have q := Arv.set (v := .int (nar .char (ab2_ p2))) Ar275 q275 S275 N275 H275 Gf275 (fits_nar_char _) W276 7 (by have e_ : (ab6_ p2) = (7 : Int32) := (own_rem8 p2 hc219 hc227 hc235 hc243 hc251 hc259 hc267); rw [e_]; decide) (lE rfl); rw [((own_nar_i2c _) : nar .char (ab2_ p2) = (ab2_ p2))] at q; exact q
           have pr281 : Pr p e below T276 m 363 #[iv p1, iv p2, iv p3, iv p4, iv p5, iv (ab1_ p1), iv (ab0_ p1), rv b1, iv len1, iv (ab6_ p2), .unset] [] s₁ en := fun t k => pr218 t (by
            show Sx p e below T55 m 362 #[iv p1, iv p2, iv p3, iv p4, iv p5, iv (ab1_ p1), iv (ab0_ p1), rv b1, iv len1, iv (ab6_ p2), .unset] [(.int (ab2_ p2)), (.int (ab6_ p2)), .ref b1] _
            refine st276 _ ?_
            exact k)
           exact kont214 ⟨T276, _, h276, iv (ab6_ p2), x0_, x1_, x2_, x3_, x4_, x5_, x6_, (ab2_ p2), (X276.mono (lE rfl) (lE rfl)), e276, N276_, ((Keep.refl h55 [b1]).wr W276 (Or.inl (mI 0 rfl))), A280_, (Or.inr ⟨_, rfl, rfl⟩), hp55_0, hp55_1, hp55_2, hp55_3, hp55_4, hp55_5, hp55_6, (own_lat (((p2).toUInt32 >>> ((8 : Int32) &&& 31).toUInt32).toInt32)), (fun t k => pr281 t k)⟩
  ·
   obtain ⟨T214, L214, h214, sl214_9, y0_, y1_, y2_, y3_, y4_, y5_, y6_, y7_, X214, e214, N214, K214j, A282_, one214_9, hp214_0, hp214_1, hp214_2, hp214_3, hp214_4, hp214_5, hp214_6, hp214_7, pr214⟩ := hA214
   have K283 := K211.trans K214j (allS (Or.inr sz_b1) all0)
   have C284 : CHv Z consts_1 s.vm h214 := CHv.keep K214j (sfS (Safe.arv hZ.alike A210_ (by simp)) sf0) C212
   have R285 : CHr Z consts_1 s.vm h0 s.vm h214 := R213.trans (CHr.keep K214j (sfS (Safe.arv hZ.alike A210_ (by simp)) sf0) C212)
   refine cps (A := ∃ T286 : State, ∃ L286 : List Loc, ∃ h286 : Heap, ∃ len2 : Int32, Stand p l e room_1 (s.setVm s.vm) m #[.int p1, .int p2, .int p3, .int p4, .int p5] below meth c T286 L286 1 8 ∧ T286.heap = h286 ∧ Fr n0 L286 ∧ Keep h214 h286 [] ∧ Pr p e below T286 m 380 #[iv p1, iv p2, iv p3, iv p4, iv p5, iv (ab1_ p1), iv (ab0_ p1), rv b1, iv len2, sl214_9, .unset] [] s₁ en) (fun kont286 => ?_) (fun hA286 => ?_)
   ·
    skip
    have pr287 : Pr p e below T214 m 367 #[iv p1, iv p2, iv p3, iv p4, iv p5, iv (ab1_ p1), iv (ab0_ p1), rv b1, iv len1, sl214_9, .unset] [(.int ((ab0_ p1) &&& (2 : Int32)))] s₁ en := fun t k => pr214 t (by
     show Sx p e below T214 m 363 #[iv p1, iv p2, iv p3, iv p4, iv p5, iv (ab1_ p1), iv (ab0_ p1), rv b1, iv len1, sl214_9, .unset] [] _
     refine zi X214 Bd at_363 rfl ?_
     refine zc X214 Bd at_365 ?_
     refine XS.iand X214.here hx rfl (hb hby at_366) rfl ?_
     exact k)
    by_cases hc288 : ((ab0_ p1) &&& (2 : Int32)) = (0 : Int32)
    ·
     skip
     have pr289 : Pr p e below T214 m 380 #[iv p1, iv p2, iv p3, iv p4, iv p5, iv (ab1_ p1), iv (ab0_ p1), rv b1, iv len1, sl214_9, .unset] [] s₁ en := fun t k => pr287 t (by
      show Sx p e below T214 m 367 #[iv p1, iv p2, iv p3, iv p4, iv p5, iv (ab1_ p1), iv (ab0_ p1), rv b1, iv len1, sl214_9, .unset] [(.int ((ab0_ p1) &&& (2 : Int32)))] _
      refine zp (pc' := 380) X214 Bd at_367 (XT.i0_eq_t (hc288 : ((ab0_ p1) &&& (2 : Int32)) = (0 : Int32))) rfl ?_
      exact k)
     exact kont286 ⟨T214, _, h214, len1, (X214.mono (lE rfl) (lE rfl)), e214, N214, (Keep.refl h214 []), (fun t k => pr289 t k)⟩
    ·
     skip
     have pr290 : Pr p e below T214 m 380 #[iv p1, iv p2, iv p3, iv p4, iv p5, iv (ab1_ p1), iv (ab0_ p1), rv b1, iv ((p5 &&& (2147483647 : Int32)) % (9 : Int32)), sl214_9, .unset] [] s₁ en := fun t k => pr287 t (by
      show Sx p e below T214 m 367 #[iv p1, iv p2, iv p3, iv p4, iv p5, iv (ab1_ p1), iv (ab0_ p1), rv b1, iv len1, sl214_9, .unset] [(.int ((ab0_ p1) &&& (2 : Int32)))] _
      refine zo X214 Bd at_367 (XT.i0_eq_f (hc288 : ¬ (((ab0_ p1) &&& (2 : Int32)) = (0 : Int32)))) ?_
      refine zi X214 Bd at_370 rfl ?_
      refine X214.ldcInt hx hown (mvT hZ (w0_ hw)) (g := (mkF m 372 #[iv p1, iv p2, iv p3, iv p4, iv p5, iv (ab1_ p1), iv (ab0_ p1), rv b1, iv len1, sl214_9, .unset] [.int p5])) rfl (hb hby at_372) _ ?_
      refine XS.iand X214.here hx rfl (hb hby at_374) rfl ?_
      refine zd X214 Bd at_375 ?_
      refine iremM X214 hx (g := (mkF m 377 #[iv p1, iv p2, iv p3, iv p4, iv p5, iv (ab1_ p1), iv (ab0_ p1), rv b1, iv len1, sl214_9, .unset] [.int 9, (.int (p5 &&& (2147483647 : Int32)))])) rfl (hb hby at_377) rfl (by decide) ?_
      refine zs X214 Bd at_378 (l' := #[iv p1, iv p2, iv p3, iv p4, iv p5, iv (ab1_ p1), iv (ab0_ p1), rv b1, iv ((p5 &&& (2147483647 : Int32)) % (9 : Int32)), sl214_9, .unset]) rfl ?_
      exact k)
     exact kont286 ⟨T214, _, h214, ((p5 &&& (2147483647 : Int32)) % (9 : Int32)), (X214.mono (lE rfl) (lE rfl)), e214, N214, (Keep.refl h214 []), (fun t k => pr290 t k)⟩
   ·
    obtain ⟨T286, L286, h286, len2, X286, e286, N286, K286j, pr286⟩ := hA286
    have K291 := K283.trans K286j (fun x q => nomatch q)
    have C292 : CHv Z consts_1 s.vm h286 := CHv.keep K286j sf0 C284
    have R293 : CHr Z consts_1 s.vm h0 s.vm h286 := R285.trans (CHr.keep K286j sf0 C284)
    have pr295 : Pr p e below T286 m 384 #[iv p1, iv p2, iv p3, iv p4, iv p5, iv (ab1_ p1), iv (ab0_ p1), rv b1, iv len2, sl214_9, .unset] [.int len2, .ref b1] s₁ en := fun t k => pr286 t (by
     show Sx p e below T286 m 380 #[iv p1, iv p2, iv p3, iv p4, iv p5, iv (ab1_ p1), iv (ab0_ p1), rv b1, iv len2, sl214_9, .unset] [] _
     refine za X286 Bd at_380 rfl rfl ?_
     refine zi X286 Bd at_382 rfl ?_
     exact k)
    by_cases hc296 : len2 = (0 : Int32)
    ·
     skip
     have O298 := X00.ext E1
     have O299 := O298.wr W7 g_b1
     have O300 := O299.wr W13 g_b1
     have O301 := O300.wr W19 g_b1
     have O302 := O301.wr W25 g_b1
     have O303 := O302.wr W31 g_b1
     have O304 := O303.wr W37 g_b1
     have O305 := O304.wr W43 g_b1
     have O306 := O305.wr W49 g_b1
     have O307 := O306.keep K55j (allS g_b1 all0)
     have O308 := O307.keep K214j (allS g_b1 all0)
     have O309 := O308.keep K286j all0
     have hk310' : _ ≤ h286.size := (Nat.le_trans (Nat.le_trans (Nat.le_trans (Nat.le_trans (Nat.le_trans (Nat.le_trans (Nat.le_trans (Nat.le_trans (Nat.le_trans (Nat.le_trans (Nat.le_trans (Nat.le_trans hk0 E1.1) (Nat.le_of_eq W7.size.symm)) (Nat.le_of_eq W13.size.symm)) (Nat.le_of_eq W19.size.symm)) (Nat.le_of_eq W25.size.symm)) (Nat.le_of_eq W31.size.symm)) (Nat.le_of_eq W37.size.symm)) (Nat.le_of_eq W43.size.symm)) (Nat.le_of_eq W49.size.symm)) K55j.1) K214j.1) K286j.1)
     obtain ⟨_, T297, L297, X297, hQ297, hS297, hZ297, ho297, CR297, st297⟩ := own_cbS 1 8 6 12 7 20 (callSS X286 hx (y := Y2_) hown (mvT hZ (w2_ hw)) (mvT hZ (w3_ hw)) (mvT hZ (w4_ hw)) (mvT hZ (w5_ hw)) (by decide) (backOfSH (W := 0) (EL := consts_1) (s := s) (rm3 l Z a0 hw  b1 len2 h286 n0 O309 hc296) hZ (w5_ hw) (w4_ hw) (lE rfl) (lE rfl) hEL C292) (g := (mkF m 384 #[iv p1, iv p2, iv p3, iv p4, iv p5, iv (ab1_ p1), iv (ab0_ p1), rv b1, iv len2, sl214_9, .unset] [.int len2, .ref b1])) rfl hml.symm (argsL := [.ref b1, .int len2]) (rest := []) (lenOf pd2 rfl) rfl (own_hw rfl) (hb hby at_384) (fun _ _ => ⟨rfl, e286, (lE rfl : 1 + 6 ≤ _), (lE rfl : 8 + 12 ≤ _)⟩)) rfl rfl hS0 (by rw [e286]; exact hk310') hZ hown
     obtain ⟨b311, b312, c313_, rfl, N297q, K297q, w314, w315, w316, w317, w318⟩ := hQ297
     have N297 := Fr.app N286 N297q
     have hk297 : T297.heap.size ≤ T297.heap.size := Nat.le_refl _
     have K319 := K291.trans K297q (fun x q => nomatch q)
     have R321 := R293.trans CR297
     have hp323 : ∀ c ∈ ([] : List Int32), ¬ c < 0 ∧ ¬ (255 : Int32) < c := (fun _ q => nomatch q)
     have O324 := O309.keep K297q all0
     obtain ⟨_, T322, L322, X322, hQ322, st322⟩ := own_cS 7 20 [] 391 #[iv p1, iv p2, iv p3, iv p4, iv p5, iv (ab1_ p1), iv (ab0_ p1), rv b1, iv len2, rv b311, .unset] X297 hx hZ297 ho297 (w35_ hw) (w36_ hw) (w4_ hw) (w37_ hw) (rm4 l Z a0 hw G1 Gg0 Gg1 Gg2 Gg3 Gg4 Gg5 Gg6 Gg7 Gg8 Gg9 Gg10 Gg11 Gg12 Gg13 Gg14 Gg15 Kg16 Kg17 Kg18 Kg19 Kg20 Kg21 b311 b312 c313_ T297.heap n0 O324 O2 P5 hEN w315 w317 w316 w318) pd4 hml.symm (hb hby at_391) rfl rfl rfl rfl rfl (by decide)
     obtain ⟨rfl, N322q, e322q⟩ := hQ322
     have N322 := Fr.app N297 N322q
     have hcd326 : StrChars.Road.CodA ([] : List Int32) 0 (0 : Int32) [] := StrChars.Road.codOf (n := 0) rfl (fun x hx => (hp323 x hx).2)
     have hbd326 : ∀ x ∈ ([] : List Int32), ¬ x < 0 ∧ ¬ (65535 : Int32) < x := own_up _ hp323
     obtain ⟨_, T325, L325, X325, hQ325, st325⟩ := own_cS 8 25 [] 398 #[iv p1, iv p2, iv p3, iv p4, iv p5, iv (ab1_ p1), iv (ab0_ p1), rv b1, iv len2, rv b311, .val (own_sv Gg0 Gg2 Gg3 Gg4 Gg5 ([] : List Int32))] X322 hx hZ297 ho297 (w73_ hw) (w74_ hw) (w71_ hw) (w75_ hw) (rm6 l Z a0 hw Gg0 Gg1 Gg2 Gg3 Gg4 Gg5 Gg6 Gg7 Gg8 Gg9 Gg10 Gg11 Gg12 Gg13 Gg14 Gg15 Kg16 Kg17 Kg18 Kg19 Kg20 Kg21 G1 b311 b312 ([] : List Int32) c313_ (0 : Int32) T297.heap n0 O324 hEN O2 P5 w316 w318 hcd326 hbd326 (lE rfl) w315 w317) pd4 hml.symm (hb hby at_398) e322q rfl rfl rfl rfl (by decide)
     obtain ⟨rfl, N325q, K325q⟩ := hQ325
     have N325 := Fr.app N322 N325q
     have K327 := K319.trans K325q (fun x q => nomatch q)
     have C328 : CHv Z consts_1 T297.vm T325.heap := CHv.keep K325q sf0 CR297.1
     have R329 : CHr Z consts_1 s.vm h0 T297.vm T325.heap := R321.trans (CHr.keep K325q sf0 CR297.1)
     have hk330' : _ ≤ T325.heap.size := (Nat.le_trans hk297 K325q.1)
     refine own_lvW X325 Bd.notSynchronized hS297 hk330' (v := (some (.int 1))) (fun h => by rw [Bd.returns] at h; cases h) rfl hh ⟨rfl, N325⟩ (R329.trans (CHv.at X325 hZ297 hEL C328)) (lE rfl) (lE rfl) (fun fs hr => pr295 _ (by
      show Sx p e below T286 m 384 #[iv p1, iv p2, iv p3, iv p4, iv p5, iv (ab1_ p1), iv (ab0_ p1), rv b1, iv len2, sl214_9, .unset] [.int len2, .ref b1] _
      refine st297.trans ?_
      refine XS.astoreS X297.here hx rfl (hb hby at_387) rfl rfl rfl rfl one214_9 ?_
      refine za X297 Bd at_389 rfl rfl ?_
      refine st322 _ ?_
      refine XS.astoreS X322.here hx rfl (hb hby at_394) rfl (own_svR _ _ _ _ _ _) (own_cat (own_svR _ _ _ _ _ _)) rfl (Or.inl rfl) ?_
      refine za X322 Bd at_396 rfl rfl ?_
      refine st325 _ ?_
      refine za X325 Bd at_401 rfl (own_svR _ _ _ _ _ _) ?_
      refine Jvm.RoadKit.acmp (g := (mkF m 403 #[iv p1, iv p2, iv p3, iv p4, iv p5, iv (ab1_ p1), iv (ab0_ p1), rv b1, iv len2, rv b311, .val (own_sv Gg0 Gg2 Gg3 Gg4 Gg5 ([] : List Int32))] [(own_sv Gg0 Gg2 Gg3 Gg4 Gg5 ([] : List Int32)), (own_sv Gg0 Gg2 Gg3 Gg4 Gg5 ([] : List Int32))])) X325 hx rfl (own_svR _ _ _ _ _ _) (own_svR _ _ _ _ _ _) (pc0 := 403) (pc' := 406) (same := true) rfl (hb hby at_403) rfl (decide_eq_true rfl) (by decide) (by decide) ?_
      refine zc X325 Bd at_406 ?_
      refine zg (pc' := 411) X325 Bd at_407 rfl ?_
      exact retN X325 hx (t := .boolean) Bd.returns (by simp) (hb hby at_411) hr))
    ·
     skip
     by_cases hc332 : len2 = (1 : Int32)
     ·
      skip
      have A334_ := A282_.keep K286j nin0
      have O335 := X00.ext E1
      have O336 := O335.wr W7 g_b1
      have O337 := O336.wr W13 g_b1
      have O338 := O337.wr W19 g_b1
      have O339 := O338.wr W25 g_b1
      have O340 := O339.wr W31 g_b1
      have O341 := O340.wr W37 g_b1
      have O342 := O341.wr W43 g_b1
      have O343 := O342.wr W49 g_b1
      have O344 := O343.keep K55j (allS g_b1 all0)
      have O345 := O344.keep K214j (allS g_b1 all0)
      have O346 := O345.keep K286j all0
      obtain ⟨_, T333, L333, X333, hQ333, st333⟩ := own_cS 4 14 [] 384 #[iv p1, iv p2, iv p3, iv p4, iv p5, iv (ab1_ p1), iv (ab0_ p1), rv b1, iv len2, sl214_9, .unset] X286 hx hZ hown (w2_ hw) (w3_ hw) (w4_ hw) (w5_ hw) (rm7 l Z a0 hw G1 b1 len2 c1 y0_ y1_ y2_ y3_ y4_ y5_ y6_ y7_ h286 n0 O346 O2 P5 hc296 hc332 A334_ hp214_0) pd2 hml.symm (hb hby at_384) e286 rfl rfl rfl rfl (by decide)
      obtain ⟨b347, b348, c349_, rfl, N333q, K333q, w350, w351, w352, w353, w354, w355, w356⟩ := hQ333
      have N333 := Fr.app N286 N333q
      have K357 := K291.trans K333q (fun x q => nomatch q)
      have C358 : CHv Z consts_1 s.vm T333.heap := CHv.keep K333q sf0 C292
      have R359 : CHr Z consts_1 s.vm h0 s.vm T333.heap := R293.trans (CHr.keep K333q sf0 C292)
      have hp361 : ∀ c ∈ ([y0_] : List Int32), ¬ c < 0 ∧ ¬ (255 : Int32) < c := (List.forall_mem_cons.mpr ⟨hp214_0, (fun _ q => nomatch q)⟩)
      have O362 := O346.keep K333q all0
      obtain ⟨_, T360, L360, X360, hQ360, st360⟩ := own_cS 4 14 [] 391 #[iv p1, iv p2, iv p3, iv p4, iv p5, iv (ab1_ p1), iv (ab0_ p1), rv b1, iv len2, rv b347, .unset] X333 hx hZ hown (w35_ hw) (w36_ hw) (w4_ hw) (w37_ hw) (rm8 l Z a0 hw G1 Gg0 Gg1 Gg2 Gg3 Gg4 Gg5 Gg6 Gg7 Gg8 Gg9 Gg10 Gg11 Gg12 Gg13 Gg14 Gg15 Kg16 Kg17 Kg18 Kg19 Kg20 Kg21 b347 b348 y0_ c349_ T333.heap n0 O362 O2 P5 hEN w353 w354 w355 hp361 w356) pd4 hml.symm (hb hby at_391) rfl rfl rfl rfl rfl (by decide)
      obtain ⟨rfl, N360q, e360q⟩ := hQ360
      have N360 := Fr.app N333 N360q
      have hcd364 : StrChars.Road.CodA ([y0_] : List Int32) 0 (1 : Int32) ((([y0_] : List Int32).map (fun c => c.toInt8.toInt32)).map Value.int) := StrChars.Road.codOf (n := 1) rfl (fun x hx => (hp361 x hx).2)
      have hbd364 : ∀ x ∈ ([y0_] : List Int32), ¬ x < 0 ∧ ¬ (65535 : Int32) < x := own_up _ hp361
      obtain ⟨_, T363, L363, X363, hQ363, st363⟩ := own_cS 5 19 [] 398 #[iv p1, iv p2, iv p3, iv p4, iv p5, iv (ab1_ p1), iv (ab0_ p1), rv b1, iv len2, rv b347, .val (own_sv Gg0 Gg2 Gg3 Gg4 Gg5 ([y0_] : List Int32))] X360 hx hZ hown (w73_ hw) (w74_ hw) (w71_ hw) (w75_ hw) (rm6 l Z a0 hw Gg0 Gg1 Gg2 Gg3 Gg4 Gg5 Gg6 Gg7 Gg8 Gg9 Gg10 Gg11 Gg12 Gg13 Gg14 Gg15 Kg16 Kg17 Kg18 Kg19 Kg20 Kg21 G1 b347 b348 ([y0_] : List Int32) c349_ (1 : Int32) T333.heap n0 O362 hEN O2 P5 w355 w356 hcd364 hbd364 (lE rfl) w353 w354) pd4 hml.symm (hb hby at_398) e360q rfl rfl rfl rfl (by decide)
      obtain ⟨rfl, N363q, K363q⟩ := hQ363
      have N363 := Fr.app N360 N363q
      have K365 := K357.trans K363q (fun x q => nomatch q)
      have C366 : CHv Z consts_1 s.vm T363.heap := CHv.keep K363q sf0 C358
      have R367 : CHr Z consts_1 s.vm h0 s.vm T363.heap := R359.trans (CHr.keep K363q sf0 C358)
      have hk368' : _ ≤ T363.heap.size := (Nat.le_trans (Nat.le_trans (Nat.le_trans (Nat.le_trans (Nat.le_trans (Nat.le_trans (Nat.le_trans (Nat.le_trans (Nat.le_trans (Nat.le_trans (Nat.le_trans (Nat.le_trans (Nat.le_trans (Nat.le_trans hk0 E1.1) (Nat.le_of_eq W7.size.symm)) (Nat.le_of_eq W13.size.symm)) (Nat.le_of_eq W19.size.symm)) (Nat.le_of_eq W25.size.symm)) (Nat.le_of_eq W31.size.symm)) (Nat.le_of_eq W37.size.symm)) (Nat.le_of_eq W43.size.symm)) (Nat.le_of_eq W49.size.symm)) K55j.1) K214j.1) K286j.1) K333q.1) K363q.1)
      refine own_lvW X363 Bd.notSynchronized hS0 hk368' (v := (some (.int 1))) (fun h => by rw [Bd.returns] at h; cases h) rfl hh ⟨rfl, N363⟩ (R367.trans (CHv.at X363 hZ hEL C366)) (lE rfl) (lE rfl) (fun fs hr => pr295 _ (by
       show Sx p e below T286 m 384 #[iv p1, iv p2, iv p3, iv p4, iv p5, iv (ab1_ p1), iv (ab0_ p1), rv b1, iv len2, sl214_9, .unset] [.int len2, .ref b1] _
       refine st333 _ ?_
       refine XS.astoreS X333.here hx rfl (hb hby at_387) rfl rfl rfl rfl one214_9 ?_
       refine za X333 Bd at_389 rfl rfl ?_
       refine st360 _ ?_
       refine XS.astoreS X360.here hx rfl (hb hby at_394) rfl (own_svR _ _ _ _ _ _) (own_cat (own_svR _ _ _ _ _ _)) rfl (Or.inl rfl) ?_
       refine za X360 Bd at_396 rfl rfl ?_
       refine st363 _ ?_
       refine za X363 Bd at_401 rfl (own_svR _ _ _ _ _ _) ?_
       refine Jvm.RoadKit.acmp (g := (mkF m 403 #[iv p1, iv p2, iv p3, iv p4, iv p5, iv (ab1_ p1), iv (ab0_ p1), rv b1, iv len2, rv b347, .val (own_sv Gg0 Gg2 Gg3 Gg4 Gg5 ([y0_] : List Int32))] [(own_sv Gg0 Gg2 Gg3 Gg4 Gg5 ([y0_] : List Int32)), (own_sv Gg0 Gg2 Gg3 Gg4 Gg5 ([y0_] : List Int32))])) X363 hx rfl (own_svR _ _ _ _ _ _) (own_svR _ _ _ _ _ _) (pc0 := 403) (pc' := 406) (same := true) rfl (hb hby at_403) rfl (decide_eq_true rfl) (by decide) (by decide) ?_
       refine zc X363 Bd at_406 ?_
       refine zg (pc' := 411) X363 Bd at_407 rfl ?_
       exact retN X363 hx (t := .boolean) Bd.returns (by simp) (hb hby at_411) hr))
     ·
      skip
      by_cases hc370 : len2 = (2 : Int32)
      ·
       skip
       have A372_ := A282_.keep K286j nin0
       have O373 := X00.ext E1
       have O374 := O373.wr W7 g_b1
       have O375 := O374.wr W13 g_b1
       have O376 := O375.wr W19 g_b1
       have O377 := O376.wr W25 g_b1
       have O378 := O377.wr W31 g_b1
       have O379 := O378.wr W37 g_b1
       have O380 := O379.wr W43 g_b1
       have O381 := O380.wr W49 g_b1
       have O382 := O381.keep K55j (allS g_b1 all0)
       have O383 := O382.keep K214j (allS g_b1 all0)
       have O384 := O383.keep K286j all0
       obtain ⟨_, T371, L371, X371, hQ371, st371⟩ := own_cS 4 16 [] 384 #[iv p1, iv p2, iv p3, iv p4, iv p5, iv (ab1_ p1), iv (ab0_ p1), rv b1, iv len2, sl214_9, .unset] X286 hx hZ hown (w2_ hw) (w3_ hw) (w4_ hw) (w5_ hw) (rm9 l Z a0 hw G1 b1 len2 c1 y0_ y1_ y2_ y3_ y4_ y5_ y6_ y7_ h286 n0 O384 O2 P5 hc296 hc332 hc370 A372_ hp214_0 hp214_1) pd2 hml.symm (hb hby at_384) e286 rfl rfl rfl rfl (by decide)
       obtain ⟨b385, b386, c387_, rfl, N371q, K371q, w388, w389, w390, w391, w392, w393, w394⟩ := hQ371
       have N371 := Fr.app N286 N371q
       have K395 := K291.trans K371q (fun x q => nomatch q)
       have C396 : CHv Z consts_1 s.vm T371.heap := CHv.keep K371q sf0 C292
       have R397 : CHr Z consts_1 s.vm h0 s.vm T371.heap := R293.trans (CHr.keep K371q sf0 C292)
       have hp399 : ∀ c ∈ ([y0_, y1_] : List Int32), ¬ c < 0 ∧ ¬ (255 : Int32) < c := (List.forall_mem_cons.mpr ⟨hp214_0, (List.forall_mem_cons.mpr ⟨hp214_1, (fun _ q => nomatch q)⟩)⟩)
       have O400 := O384.keep K371q all0
       obtain ⟨_, T398, L398, X398, hQ398, st398⟩ := own_cS 4 16 [] 391 #[iv p1, iv p2, iv p3, iv p4, iv p5, iv (ab1_ p1), iv (ab0_ p1), rv b1, iv len2, rv b385, .unset] X371 hx hZ hown (w35_ hw) (w36_ hw) (w4_ hw) (w37_ hw) (rm10 l Z a0 hw G1 Gg0 Gg1 Gg2 Gg3 Gg4 Gg5 Gg6 Gg7 Gg8 Gg9 Gg10 Gg11 Gg12 Gg13 Gg14 Gg15 Kg16 Kg17 Kg18 Kg19 Kg20 Kg21 b385 b386 y0_ y1_ c387_ T371.heap n0 O400 O2 P5 hEN w391 w392 w393 hp399 w394) pd4 hml.symm (hb hby at_391) rfl rfl rfl rfl rfl (by decide)
       obtain ⟨rfl, N398q, e398q⟩ := hQ398
       have N398 := Fr.app N371 N398q
       have hcd402 : StrChars.Road.CodA ([y0_, y1_] : List Int32) 0 (2 : Int32) ((([y0_, y1_] : List Int32).map (fun c => c.toInt8.toInt32)).map Value.int) := StrChars.Road.codOf (n := 2) rfl (fun x hx => (hp399 x hx).2)
       have hbd402 : ∀ x ∈ ([y0_, y1_] : List Int32), ¬ x < 0 ∧ ¬ (65535 : Int32) < x := own_up _ hp399
       obtain ⟨_, T401, L401, X401, hQ401, st401⟩ := own_cS 5 21 [] 398 #[iv p1, iv p2, iv p3, iv p4, iv p5, iv (ab1_ p1), iv (ab0_ p1), rv b1, iv len2, rv b385, .val (own_sv Gg0 Gg2 Gg3 Gg4 Gg5 ([y0_, y1_] : List Int32))] X398 hx hZ hown (w73_ hw) (w74_ hw) (w71_ hw) (w75_ hw) (rm6 l Z a0 hw Gg0 Gg1 Gg2 Gg3 Gg4 Gg5 Gg6 Gg7 Gg8 Gg9 Gg10 Gg11 Gg12 Gg13 Gg14 Gg15 Kg16 Kg17 Kg18 Kg19 Kg20 Kg21 G1 b385 b386 ([y0_, y1_] : List Int32) c387_ (2 : Int32) T371.heap n0 O400 hEN O2 P5 w393 w394 hcd402 hbd402 (lE rfl) w391 w392) pd4 hml.symm (hb hby at_398) e398q rfl rfl rfl rfl (by decide)
       obtain ⟨rfl, N401q, K401q⟩ := hQ401
       have N401 := Fr.app N398 N401q
       have K403 := K395.trans K401q (fun x q => nomatch q)
       have C404 : CHv Z consts_1 s.vm T401.heap := CHv.keep K401q sf0 C396
       have R405 : CHr Z consts_1 s.vm h0 s.vm T401.heap := R397.trans (CHr.keep K401q sf0 C396)
       have hk406' : _ ≤ T401.heap.size := (Nat.le_trans (Nat.le_trans (Nat.le_trans (Nat.le_trans (Nat.le_trans (Nat.le_trans (Nat.le_trans (Nat.le_trans (Nat.le_trans (Nat.le_trans (Nat.le_trans (Nat.le_trans (Nat.le_trans (Nat.le_trans hk0 E1.1) (Nat.le_of_eq W7.size.symm)) (Nat.le_of_eq W13.size.symm)) (Nat.le_of_eq W19.size.symm)) (Nat.le_of_eq W25.size.symm)) (Nat.le_of_eq W31.size.symm)) (Nat.le_of_eq W37.size.symm)) (Nat.le_of_eq W43.size.symm)) (Nat.le_of_eq W49.size.symm)) K55j.1) K214j.1) K286j.1) K371q.1) K401q.1)
       refine own_lvW X401 Bd.notSynchronized hS0 hk406' (v := (some (.int 1))) (fun h => by rw [Bd.returns] at h; cases h) rfl hh ⟨rfl, N401⟩ (R405.trans (CHv.at X401 hZ hEL C404)) (lE rfl) (lE rfl) (fun fs hr => pr295 _ (by
        show Sx p e below T286 m 384 #[iv p1, iv p2, iv p3, iv p4, iv p5, iv (ab1_ p1), iv (ab0_ p1), rv b1, iv len2, sl214_9, .unset] [.int len2, .ref b1] _
        refine st371 _ ?_
        refine XS.astoreS X371.here hx rfl (hb hby at_387) rfl rfl rfl rfl one214_9 ?_
        refine za X371 Bd at_389 rfl rfl ?_
        refine st398 _ ?_
        refine XS.astoreS X398.here hx rfl (hb hby at_394) rfl (own_svR _ _ _ _ _ _) (own_cat (own_svR _ _ _ _ _ _)) rfl (Or.inl rfl) ?_
        refine za X398 Bd at_396 rfl rfl ?_
        refine st401 _ ?_
        refine za X401 Bd at_401 rfl (own_svR _ _ _ _ _ _) ?_
        refine Jvm.RoadKit.acmp (g := (mkF m 403 #[iv p1, iv p2, iv p3, iv p4, iv p5, iv (ab1_ p1), iv (ab0_ p1), rv b1, iv len2, rv b385, .val (own_sv Gg0 Gg2 Gg3 Gg4 Gg5 ([y0_, y1_] : List Int32))] [(own_sv Gg0 Gg2 Gg3 Gg4 Gg5 ([y0_, y1_] : List Int32)), (own_sv Gg0 Gg2 Gg3 Gg4 Gg5 ([y0_, y1_] : List Int32))])) X401 hx rfl (own_svR _ _ _ _ _ _) (own_svR _ _ _ _ _ _) (pc0 := 403) (pc' := 406) (same := true) rfl (hb hby at_403) rfl (decide_eq_true rfl) (by decide) (by decide) ?_
        refine zc X401 Bd at_406 ?_
        refine zg (pc' := 411) X401 Bd at_407 rfl ?_
        exact retN X401 hx (t := .boolean) Bd.returns (by simp) (hb hby at_411) hr))
      ·
       skip
       by_cases hc408 : len2 = (3 : Int32)
       ·
        skip
        have A410_ := A282_.keep K286j nin0
        have O411 := X00.ext E1
        have O412 := O411.wr W7 g_b1
        have O413 := O412.wr W13 g_b1
        have O414 := O413.wr W19 g_b1
        have O415 := O414.wr W25 g_b1
        have O416 := O415.wr W31 g_b1
        have O417 := O416.wr W37 g_b1
        have O418 := O417.wr W43 g_b1
        have O419 := O418.wr W49 g_b1
        have O420 := O419.keep K55j (allS g_b1 all0)
        have O421 := O420.keep K214j (allS g_b1 all0)
        have O422 := O421.keep K286j all0
        obtain ⟨_, T409, L409, X409, hQ409, st409⟩ := own_cS 4 18 [] 384 #[iv p1, iv p2, iv p3, iv p4, iv p5, iv (ab1_ p1), iv (ab0_ p1), rv b1, iv len2, sl214_9, .unset] X286 hx hZ hown (w2_ hw) (w3_ hw) (w4_ hw) (w5_ hw) (rm11 l Z a0 hw G1 b1 len2 c1 y0_ y1_ y2_ y3_ y4_ y5_ y6_ y7_ h286 n0 O422 O2 P5 hc296 hc332 hc370 hc408 A410_ hp214_0 hp214_1 hp214_2) pd2 hml.symm (hb hby at_384) e286 rfl rfl rfl rfl (by decide)
        obtain ⟨b423, b424, c425_, rfl, N409q, K409q, w426, w427, w428, w429, w430, w431, w432⟩ := hQ409
        have N409 := Fr.app N286 N409q
        have K433 := K291.trans K409q (fun x q => nomatch q)
        have C434 : CHv Z consts_1 s.vm T409.heap := CHv.keep K409q sf0 C292
        have R435 : CHr Z consts_1 s.vm h0 s.vm T409.heap := R293.trans (CHr.keep K409q sf0 C292)
        have hp437 : ∀ c ∈ ([y0_, y1_, y2_] : List Int32), ¬ c < 0 ∧ ¬ (255 : Int32) < c := (List.forall_mem_cons.mpr ⟨hp214_0, (List.forall_mem_cons.mpr ⟨hp214_1, (List.forall_mem_cons.mpr ⟨hp214_2, (fun _ q => nomatch q)⟩)⟩)⟩)
        have O438 := O422.keep K409q all0
        obtain ⟨_, T436, L436, X436, hQ436, st436⟩ := own_cS 4 18 [] 391 #[iv p1, iv p2, iv p3, iv p4, iv p5, iv (ab1_ p1), iv (ab0_ p1), rv b1, iv len2, rv b423, .unset] X409 hx hZ hown (w35_ hw) (w36_ hw) (w4_ hw) (w37_ hw) (rm12 l Z a0 hw G1 G3 Gg0 Gg1 Gg2 Gg3 Gg4 Gg5 Gg6 Gg7 Gg8 Gg9 Gg10 Gg11 Gg12 Gg13 Gg14 Gg15 Kg16 Kg17 Kg18 Kg19 Kg20 Kg21 b423 b424 y0_ y1_ y2_ c425_ T409.heap n0 O438 O2 P5 O4 rG3 hEN w429 w430 w431 hp437 w432) pd4 hml.symm (hb hby at_391) rfl rfl rfl rfl rfl (by decide)
        obtain ⟨rfl, N436q, e436q⟩ := hQ436
        have N436 := Fr.app N409 N436q
        have hcd440 : StrChars.Road.CodA ([y0_, y1_, y2_] : List Int32) 0 (3 : Int32) ((([y0_, y1_, y2_] : List Int32).map (fun c => c.toInt8.toInt32)).map Value.int) := StrChars.Road.codOf (n := 3) rfl (fun x hx => (hp437 x hx).2)
        have hbd440 : ∀ x ∈ ([y0_, y1_, y2_] : List Int32), ¬ x < 0 ∧ ¬ (65535 : Int32) < x := own_up _ hp437
        obtain ⟨_, T439, L439, X439, hQ439, st439⟩ := own_cS 5 23 [] 398 #[iv p1, iv p2, iv p3, iv p4, iv p5, iv (ab1_ p1), iv (ab0_ p1), rv b1, iv len2, rv b423, .val (own_sv Gg0 Gg2 Gg3 Gg4 Gg5 ([y0_, y1_, y2_] : List Int32))] X436 hx hZ hown (w73_ hw) (w74_ hw) (w71_ hw) (w75_ hw) (rm6 l Z a0 hw Gg0 Gg1 Gg2 Gg3 Gg4 Gg5 Gg6 Gg7 Gg8 Gg9 Gg10 Gg11 Gg12 Gg13 Gg14 Gg15 Kg16 Kg17 Kg18 Kg19 Kg20 Kg21 G1 b423 b424 ([y0_, y1_, y2_] : List Int32) c425_ (3 : Int32) T409.heap n0 O438 hEN O2 P5 w431 w432 hcd440 hbd440 (lE rfl) w429 w430) pd4 hml.symm (hb hby at_398) e436q rfl rfl rfl rfl (by decide)
        obtain ⟨rfl, N439q, K439q⟩ := hQ439
        have N439 := Fr.app N436 N439q
        have K441 := K433.trans K439q (fun x q => nomatch q)
        have C442 : CHv Z consts_1 s.vm T439.heap := CHv.keep K439q sf0 C434
        have R443 : CHr Z consts_1 s.vm h0 s.vm T439.heap := R435.trans (CHr.keep K439q sf0 C434)
        have hk444' : _ ≤ T439.heap.size := (Nat.le_trans (Nat.le_trans (Nat.le_trans (Nat.le_trans (Nat.le_trans (Nat.le_trans (Nat.le_trans (Nat.le_trans (Nat.le_trans (Nat.le_trans (Nat.le_trans (Nat.le_trans (Nat.le_trans (Nat.le_trans hk0 E1.1) (Nat.le_of_eq W7.size.symm)) (Nat.le_of_eq W13.size.symm)) (Nat.le_of_eq W19.size.symm)) (Nat.le_of_eq W25.size.symm)) (Nat.le_of_eq W31.size.symm)) (Nat.le_of_eq W37.size.symm)) (Nat.le_of_eq W43.size.symm)) (Nat.le_of_eq W49.size.symm)) K55j.1) K214j.1) K286j.1) K409q.1) K439q.1)
        refine own_lvW X439 Bd.notSynchronized hS0 hk444' (v := (some (.int 1))) (fun h => by rw [Bd.returns] at h; cases h) rfl hh ⟨rfl, N439⟩ (R443.trans (CHv.at X439 hZ hEL C442)) (lE rfl) (lE rfl) (fun fs hr => pr295 _ (by
         show Sx p e below T286 m 384 #[iv p1, iv p2, iv p3, iv p4, iv p5, iv (ab1_ p1), iv (ab0_ p1), rv b1, iv len2, sl214_9, .unset] [.int len2, .ref b1] _
         refine st409 _ ?_
         refine XS.astoreS X409.here hx rfl (hb hby at_387) rfl rfl rfl rfl one214_9 ?_
         refine za X409 Bd at_389 rfl rfl ?_
         refine st436 _ ?_
         refine XS.astoreS X436.here hx rfl (hb hby at_394) rfl (own_svR _ _ _ _ _ _) (own_cat (own_svR _ _ _ _ _ _)) rfl (Or.inl rfl) ?_
         refine za X436 Bd at_396 rfl rfl ?_
         refine st439 _ ?_
         refine za X439 Bd at_401 rfl (own_svR _ _ _ _ _ _) ?_
         refine Jvm.RoadKit.acmp (g := (mkF m 403 #[iv p1, iv p2, iv p3, iv p4, iv p5, iv (ab1_ p1), iv (ab0_ p1), rv b1, iv len2, rv b423, .val (own_sv Gg0 Gg2 Gg3 Gg4 Gg5 ([y0_, y1_, y2_] : List Int32))] [(own_sv Gg0 Gg2 Gg3 Gg4 Gg5 ([y0_, y1_, y2_] : List Int32)), (own_sv Gg0 Gg2 Gg3 Gg4 Gg5 ([y0_, y1_, y2_] : List Int32))])) X439 hx rfl (own_svR _ _ _ _ _ _) (own_svR _ _ _ _ _ _) (pc0 := 403) (pc' := 406) (same := true) rfl (hb hby at_403) rfl (decide_eq_true rfl) (by decide) (by decide) ?_
         refine zc X439 Bd at_406 ?_
         refine zg (pc' := 411) X439 Bd at_407 rfl ?_
         exact retN X439 hx (t := .boolean) Bd.returns (by simp) (hb hby at_411) hr))
       ·
        skip
        by_cases hc446 : len2 = (4 : Int32)
        ·
         skip
         have A448_ := A282_.keep K286j nin0
         have O449 := X00.ext E1
         have O450 := O449.wr W7 g_b1
         have O451 := O450.wr W13 g_b1
         have O452 := O451.wr W19 g_b1
         have O453 := O452.wr W25 g_b1
         have O454 := O453.wr W31 g_b1
         have O455 := O454.wr W37 g_b1
         have O456 := O455.wr W43 g_b1
         have O457 := O456.wr W49 g_b1
         have O458 := O457.keep K55j (allS g_b1 all0)
         have O459 := O458.keep K214j (allS g_b1 all0)
         have O460 := O459.keep K286j all0
         obtain ⟨_, T447, L447, X447, hQ447, st447⟩ := own_cS 4 20 [] 384 #[iv p1, iv p2, iv p3, iv p4, iv p5, iv (ab1_ p1), iv (ab0_ p1), rv b1, iv len2, sl214_9, .unset] X286 hx hZ hown (w2_ hw) (w3_ hw) (w4_ hw) (w5_ hw) (rm13 l Z a0 hw G1 b1 len2 c1 y0_ y1_ y2_ y3_ y4_ y5_ y6_ y7_ h286 n0 O460 O2 P5 hc296 hc332 hc370 hc408 hc446 A448_ hp214_0 hp214_1 hp214_2 hp214_3) pd2 hml.symm (hb hby at_384) e286 rfl rfl rfl rfl (by decide)
         obtain ⟨b461, b462, c463_, rfl, N447q, K447q, w464, w465, w466, w467, w468, w469, w470⟩ := hQ447
         have N447 := Fr.app N286 N447q
         have K471 := K291.trans K447q (fun x q => nomatch q)
         have C472 : CHv Z consts_1 s.vm T447.heap := CHv.keep K447q sf0 C292
         have R473 : CHr Z consts_1 s.vm h0 s.vm T447.heap := R293.trans (CHr.keep K447q sf0 C292)
         have hp475 : ∀ c ∈ ([y0_, y1_, y2_, y3_] : List Int32), ¬ c < 0 ∧ ¬ (255 : Int32) < c := (List.forall_mem_cons.mpr ⟨hp214_0, (List.forall_mem_cons.mpr ⟨hp214_1, (List.forall_mem_cons.mpr ⟨hp214_2, (List.forall_mem_cons.mpr ⟨hp214_3, (fun _ q => nomatch q)⟩)⟩)⟩)⟩)
         have O476 := O460.keep K447q all0
         obtain ⟨_, T474, L474, X474, hQ474, st474⟩ := own_cS 4 20 [] 391 #[iv p1, iv p2, iv p3, iv p4, iv p5, iv (ab1_ p1), iv (ab0_ p1), rv b1, iv len2, rv b461, .unset] X447 hx hZ hown (w35_ hw) (w36_ hw) (w4_ hw) (w37_ hw) (rm14 l Z a0 hw G1 G3 Gg0 Gg1 Gg2 Gg3 Gg4 Gg5 Gg6 Gg7 Gg8 Gg9 Gg10 Gg11 Gg12 Gg13 Gg14 Gg15 Kg16 Kg17 Kg18 Kg19 Kg20 Kg21 b461 b462 y0_ y1_ y2_ y3_ c463_ T447.heap n0 O476 O2 P5 O4 rG3 hEN w467 w468 w469 hp475 w470) pd4 hml.symm (hb hby at_391) rfl rfl rfl rfl rfl (by decide)
         obtain ⟨rfl, N474q, e474q⟩ := hQ474
         have N474 := Fr.app N447 N474q
         have hcd478 : StrChars.Road.CodA ([y0_, y1_, y2_, y3_] : List Int32) 0 (4 : Int32) ((([y0_, y1_, y2_, y3_] : List Int32).map (fun c => c.toInt8.toInt32)).map Value.int) := StrChars.Road.codOf (n := 4) rfl (fun x hx => (hp475 x hx).2)
         have hbd478 : ∀ x ∈ ([y0_, y1_, y2_, y3_] : List Int32), ¬ x < 0 ∧ ¬ (65535 : Int32) < x := own_up _ hp475
         obtain ⟨_, T477, L477, X477, hQ477, st477⟩ := own_cS 5 25 [] 398 #[iv p1, iv p2, iv p3, iv p4, iv p5, iv (ab1_ p1), iv (ab0_ p1), rv b1, iv len2, rv b461, .val (own_sv Gg0 Gg2 Gg3 Gg4 Gg5 ([y0_, y1_, y2_, y3_] : List Int32))] X474 hx hZ hown (w73_ hw) (w74_ hw) (w71_ hw) (w75_ hw) (rm6 l Z a0 hw Gg0 Gg1 Gg2 Gg3 Gg4 Gg5 Gg6 Gg7 Gg8 Gg9 Gg10 Gg11 Gg12 Gg13 Gg14 Gg15 Kg16 Kg17 Kg18 Kg19 Kg20 Kg21 G1 b461 b462 ([y0_, y1_, y2_, y3_] : List Int32) c463_ (4 : Int32) T447.heap n0 O476 hEN O2 P5 w469 w470 hcd478 hbd478 (lE rfl) w467 w468) pd4 hml.symm (hb hby at_398) e474q rfl rfl rfl rfl (by decide)
         obtain ⟨rfl, N477q, K477q⟩ := hQ477
         have N477 := Fr.app N474 N477q
         have K479 := K471.trans K477q (fun x q => nomatch q)
         have C480 : CHv Z consts_1 s.vm T477.heap := CHv.keep K477q sf0 C472
         have R481 : CHr Z consts_1 s.vm h0 s.vm T477.heap := R473.trans (CHr.keep K477q sf0 C472)
         have hk482' : _ ≤ T477.heap.size := (Nat.le_trans (Nat.le_trans (Nat.le_trans (Nat.le_trans (Nat.le_trans (Nat.le_trans (Nat.le_trans (Nat.le_trans (Nat.le_trans (Nat.le_trans (Nat.le_trans (Nat.le_trans (Nat.le_trans (Nat.le_trans hk0 E1.1) (Nat.le_of_eq W7.size.symm)) (Nat.le_of_eq W13.size.symm)) (Nat.le_of_eq W19.size.symm)) (Nat.le_of_eq W25.size.symm)) (Nat.le_of_eq W31.size.symm)) (Nat.le_of_eq W37.size.symm)) (Nat.le_of_eq W43.size.symm)) (Nat.le_of_eq W49.size.symm)) K55j.1) K214j.1) K286j.1) K447q.1) K477q.1)
         refine own_lvW X477 Bd.notSynchronized hS0 hk482' (v := (some (.int 1))) (fun h => by rw [Bd.returns] at h; cases h) rfl hh ⟨rfl, N477⟩ (R481.trans (CHv.at X477 hZ hEL C480)) (lE rfl) (lE rfl) (fun fs hr => pr295 _ (by
          show Sx p e below T286 m 384 #[iv p1, iv p2, iv p3, iv p4, iv p5, iv (ab1_ p1), iv (ab0_ p1), rv b1, iv len2, sl214_9, .unset] [.int len2, .ref b1] _
          refine st447 _ ?_
          refine XS.astoreS X447.here hx rfl (hb hby at_387) rfl rfl rfl rfl one214_9 ?_
          refine za X447 Bd at_389 rfl rfl ?_
          refine st474 _ ?_
          refine XS.astoreS X474.here hx rfl (hb hby at_394) rfl (own_svR _ _ _ _ _ _) (own_cat (own_svR _ _ _ _ _ _)) rfl (Or.inl rfl) ?_
          refine za X474 Bd at_396 rfl rfl ?_
          refine st477 _ ?_
          refine za X477 Bd at_401 rfl (own_svR _ _ _ _ _ _) ?_
          refine Jvm.RoadKit.acmp (g := (mkF m 403 #[iv p1, iv p2, iv p3, iv p4, iv p5, iv (ab1_ p1), iv (ab0_ p1), rv b1, iv len2, rv b461, .val (own_sv Gg0 Gg2 Gg3 Gg4 Gg5 ([y0_, y1_, y2_, y3_] : List Int32))] [(own_sv Gg0 Gg2 Gg3 Gg4 Gg5 ([y0_, y1_, y2_, y3_] : List Int32)), (own_sv Gg0 Gg2 Gg3 Gg4 Gg5 ([y0_, y1_, y2_, y3_] : List Int32))])) X477 hx rfl (own_svR _ _ _ _ _ _) (own_svR _ _ _ _ _ _) (pc0 := 403) (pc' := 406) (same := true) rfl (hb hby at_403) rfl (decide_eq_true rfl) (by decide) (by decide) ?_
          refine zc X477 Bd at_406 ?_
          refine zg (pc' := 411) X477 Bd at_407 rfl ?_
          exact retN X477 hx (t := .boolean) Bd.returns (by simp) (hb hby at_411) hr))
        ·
         skip
         by_cases hc484 : len2 = (5 : Int32)
         ·
          skip
          have A486_ := A282_.keep K286j nin0
          have O487 := X00.ext E1
          have O488 := O487.wr W7 g_b1
          have O489 := O488.wr W13 g_b1
          have O490 := O489.wr W19 g_b1
          have O491 := O490.wr W25 g_b1
          have O492 := O491.wr W31 g_b1
          have O493 := O492.wr W37 g_b1
          have O494 := O493.wr W43 g_b1
          have O495 := O494.wr W49 g_b1
          have O496 := O495.keep K55j (allS g_b1 all0)
          have O497 := O496.keep K214j (allS g_b1 all0)
          have O498 := O497.keep K286j all0
          obtain ⟨_, T485, L485, X485, hQ485, st485⟩ := own_cS 4 22 [] 384 #[iv p1, iv p2, iv p3, iv p4, iv p5, iv (ab1_ p1), iv (ab0_ p1), rv b1, iv len2, sl214_9, .unset] X286 hx hZ hown (w2_ hw) (w3_ hw) (w4_ hw) (w5_ hw) (rm15 l Z a0 hw G1 b1 len2 c1 y0_ y1_ y2_ y3_ y4_ y5_ y6_ y7_ h286 n0 O498 O2 P5 hc296 hc332 hc370 hc408 hc446 hc484 A486_ hp214_0 hp214_1 hp214_2 hp214_3 hp214_4) pd2 hml.symm (hb hby at_384) e286 rfl rfl rfl rfl (by decide)
          obtain ⟨b499, b500, c501_, rfl, N485q, K485q, w502, w503, w504, w505, w506, w507, w508⟩ := hQ485
          have N485 := Fr.app N286 N485q
          have K509 := K291.trans K485q (fun x q => nomatch q)
          have C510 : CHv Z consts_1 s.vm T485.heap := CHv.keep K485q sf0 C292
          have R511 : CHr Z consts_1 s.vm h0 s.vm T485.heap := R293.trans (CHr.keep K485q sf0 C292)
          have hp513 : ∀ c ∈ ([y0_, y1_, y2_, y3_, y4_] : List Int32), ¬ c < 0 ∧ ¬ (255 : Int32) < c := (List.forall_mem_cons.mpr ⟨hp214_0, (List.forall_mem_cons.mpr ⟨hp214_1, (List.forall_mem_cons.mpr ⟨hp214_2, (List.forall_mem_cons.mpr ⟨hp214_3, (List.forall_mem_cons.mpr ⟨hp214_4, (fun _ q => nomatch q)⟩)⟩)⟩)⟩)⟩)
          have O514 := O498.keep K485q all0
          obtain ⟨_, T512, L512, X512, hQ512, st512⟩ := own_cS 4 22 [] 391 #[iv p1, iv p2, iv p3, iv p4, iv p5, iv (ab1_ p1), iv (ab0_ p1), rv b1, iv len2, rv b499, .unset] X485 hx hZ hown (w35_ hw) (w36_ hw) (w4_ hw) (w37_ hw) (rm16 l Z a0 hw G1 Gg0 Gg1 Gg2 Gg3 Gg4 Gg5 Gg6 Gg7 Gg8 Gg9 Gg10 Gg11 Gg12 Gg13 Gg14 Gg15 Kg16 Kg17 Kg18 Kg19 Kg20 Kg21 b499 b500 y0_ y1_ y2_ y3_ y4_ c501_ T485.heap n0 O514 O2 P5 hEN w505 w506 w507 hp513 w508) pd4 hml.symm (hb hby at_391) rfl rfl rfl rfl rfl (by decide)
          obtain ⟨rfl, N512q, e512q⟩ := hQ512
          have N512 := Fr.app N485 N512q
          have hcd516 : StrChars.Road.CodA ([y0_, y1_, y2_, y3_, y4_] : List Int32) 0 (5 : Int32) ((([y0_, y1_, y2_, y3_, y4_] : List Int32).map (fun c => c.toInt8.toInt32)).map Value.int) := StrChars.Road.codOf (n := 5) rfl (fun x hx => (hp513 x hx).2)
          have hbd516 : ∀ x ∈ ([y0_, y1_, y2_, y3_, y4_] : List Int32), ¬ x < 0 ∧ ¬ (65535 : Int32) < x := own_up _ hp513
          obtain ⟨_, T515, L515, X515, hQ515, st515⟩ := own_cS 5 27 [] 398 #[iv p1, iv p2, iv p3, iv p4, iv p5, iv (ab1_ p1), iv (ab0_ p1), rv b1, iv len2, rv b499, .val (own_sv Gg0 Gg2 Gg3 Gg4 Gg5 ([y0_, y1_, y2_, y3_, y4_] : List Int32))] X512 hx hZ hown (w73_ hw) (w74_ hw) (w71_ hw) (w75_ hw) (rm6 l Z a0 hw Gg0 Gg1 Gg2 Gg3 Gg4 Gg5 Gg6 Gg7 Gg8 Gg9 Gg10 Gg11 Gg12 Gg13 Gg14 Gg15 Kg16 Kg17 Kg18 Kg19 Kg20 Kg21 G1 b499 b500 ([y0_, y1_, y2_, y3_, y4_] : List Int32) c501_ (5 : Int32) T485.heap n0 O514 hEN O2 P5 w507 w508 hcd516 hbd516 (lE rfl) w505 w506) pd4 hml.symm (hb hby at_398) e512q rfl rfl rfl rfl (by decide)
          obtain ⟨rfl, N515q, K515q⟩ := hQ515
          have N515 := Fr.app N512 N515q
          have K517 := K509.trans K515q (fun x q => nomatch q)
          have C518 : CHv Z consts_1 s.vm T515.heap := CHv.keep K515q sf0 C510
          have R519 : CHr Z consts_1 s.vm h0 s.vm T515.heap := R511.trans (CHr.keep K515q sf0 C510)
          have hk520' : _ ≤ T515.heap.size := (Nat.le_trans (Nat.le_trans (Nat.le_trans (Nat.le_trans (Nat.le_trans (Nat.le_trans (Nat.le_trans (Nat.le_trans (Nat.le_trans (Nat.le_trans (Nat.le_trans (Nat.le_trans (Nat.le_trans (Nat.le_trans hk0 E1.1) (Nat.le_of_eq W7.size.symm)) (Nat.le_of_eq W13.size.symm)) (Nat.le_of_eq W19.size.symm)) (Nat.le_of_eq W25.size.symm)) (Nat.le_of_eq W31.size.symm)) (Nat.le_of_eq W37.size.symm)) (Nat.le_of_eq W43.size.symm)) (Nat.le_of_eq W49.size.symm)) K55j.1) K214j.1) K286j.1) K485q.1) K515q.1)
          refine own_lvW X515 Bd.notSynchronized hS0 hk520' (v := (some (.int 1))) (fun h => by rw [Bd.returns] at h; cases h) rfl hh ⟨rfl, N515⟩ (R519.trans (CHv.at X515 hZ hEL C518)) (lE rfl) (lE rfl) (fun fs hr => pr295 _ (by
           show Sx p e below T286 m 384 #[iv p1, iv p2, iv p3, iv p4, iv p5, iv (ab1_ p1), iv (ab0_ p1), rv b1, iv len2, sl214_9, .unset] [.int len2, .ref b1] _
           refine st485 _ ?_
           refine XS.astoreS X485.here hx rfl (hb hby at_387) rfl rfl rfl rfl one214_9 ?_
           refine za X485 Bd at_389 rfl rfl ?_
           refine st512 _ ?_
           refine XS.astoreS X512.here hx rfl (hb hby at_394) rfl (own_svR _ _ _ _ _ _) (own_cat (own_svR _ _ _ _ _ _)) rfl (Or.inl rfl) ?_
           refine za X512 Bd at_396 rfl rfl ?_
           refine st515 _ ?_
           refine za X515 Bd at_401 rfl (own_svR _ _ _ _ _ _) ?_
           refine Jvm.RoadKit.acmp (g := (mkF m 403 #[iv p1, iv p2, iv p3, iv p4, iv p5, iv (ab1_ p1), iv (ab0_ p1), rv b1, iv len2, rv b499, .val (own_sv Gg0 Gg2 Gg3 Gg4 Gg5 ([y0_, y1_, y2_, y3_, y4_] : List Int32))] [(own_sv Gg0 Gg2 Gg3 Gg4 Gg5 ([y0_, y1_, y2_, y3_, y4_] : List Int32)), (own_sv Gg0 Gg2 Gg3 Gg4 Gg5 ([y0_, y1_, y2_, y3_, y4_] : List Int32))])) X515 hx rfl (own_svR _ _ _ _ _ _) (own_svR _ _ _ _ _ _) (pc0 := 403) (pc' := 406) (same := true) rfl (hb hby at_403) rfl (decide_eq_true rfl) (by decide) (by decide) ?_
           refine zc X515 Bd at_406 ?_
           refine zg (pc' := 411) X515 Bd at_407 rfl ?_
           exact retN X515 hx (t := .boolean) Bd.returns (by simp) (hb hby at_411) hr))
         ·
          skip
          by_cases hc522 : len2 = (6 : Int32)
          ·
           skip
           have A524_ := A282_.keep K286j nin0
           have O525 := X00.ext E1
           have O526 := O525.wr W7 g_b1
           have O527 := O526.wr W13 g_b1
           have O528 := O527.wr W19 g_b1
           have O529 := O528.wr W25 g_b1
           have O530 := O529.wr W31 g_b1
           have O531 := O530.wr W37 g_b1
           have O532 := O531.wr W43 g_b1
           have O533 := O532.wr W49 g_b1
           have O534 := O533.keep K55j (allS g_b1 all0)
           have O535 := O534.keep K214j (allS g_b1 all0)
           have O536 := O535.keep K286j all0
           obtain ⟨_, T523, L523, X523, hQ523, st523⟩ := own_cS 4 24 [] 384 #[iv p1, iv p2, iv p3, iv p4, iv p5, iv (ab1_ p1), iv (ab0_ p1), rv b1, iv len2, sl214_9, .unset] X286 hx hZ hown (w2_ hw) (w3_ hw) (w4_ hw) (w5_ hw) (rm17 l Z a0 hw G1 b1 len2 c1 y0_ y1_ y2_ y3_ y4_ y5_ y6_ y7_ h286 n0 O536 O2 P5 hc296 hc332 hc370 hc408 hc446 hc484 hc522 A524_ hp214_0 hp214_1 hp214_2 hp214_3 hp214_4 hp214_5) pd2 hml.symm (hb hby at_384) e286 rfl rfl rfl rfl (by decide)
           obtain ⟨b537, b538, c539_, rfl, N523q, K523q, w540, w541, w542, w543, w544, w545, w546⟩ := hQ523
           have N523 := Fr.app N286 N523q
           have K547 := K291.trans K523q (fun x q => nomatch q)
           have C548 : CHv Z consts_1 s.vm T523.heap := CHv.keep K523q sf0 C292
           have R549 : CHr Z consts_1 s.vm h0 s.vm T523.heap := R293.trans (CHr.keep K523q sf0 C292)
           have hp551 : ∀ c ∈ ([y0_, y1_, y2_, y3_, y4_, y5_] : List Int32), ¬ c < 0 ∧ ¬ (255 : Int32) < c := (List.forall_mem_cons.mpr ⟨hp214_0, (List.forall_mem_cons.mpr ⟨hp214_1, (List.forall_mem_cons.mpr ⟨hp214_2, (List.forall_mem_cons.mpr ⟨hp214_3, (List.forall_mem_cons.mpr ⟨hp214_4, (List.forall_mem_cons.mpr ⟨hp214_5, (fun _ q => nomatch q)⟩)⟩)⟩)⟩)⟩)⟩)
           have O552 := O536.keep K523q all0
           obtain ⟨_, T550, L550, X550, hQ550, st550⟩ := own_cS 4 24 [] 391 #[iv p1, iv p2, iv p3, iv p4, iv p5, iv (ab1_ p1), iv (ab0_ p1), rv b1, iv len2, rv b537, .unset] X523 hx hZ hown (w35_ hw) (w36_ hw) (w4_ hw) (w37_ hw) (rm18 l Z a0 hw G1 Gg0 Gg1 Gg2 Gg3 Gg4 Gg5 Gg6 Gg7 Gg8 Gg9 Gg10 Gg11 Gg12 Gg13 Gg14 Gg15 Kg16 Kg17 Kg18 Kg19 Kg20 Kg21 b537 b538 y0_ y1_ y2_ y3_ y4_ y5_ c539_ T523.heap n0 O552 O2 P5 hEN w543 w544 w545 hp551 w546) pd4 hml.symm (hb hby at_391) rfl rfl rfl rfl rfl (by decide)
           obtain ⟨rfl, N550q, e550q⟩ := hQ550
           have N550 := Fr.app N523 N550q
           have hcd554 : StrChars.Road.CodA ([y0_, y1_, y2_, y3_, y4_, y5_] : List Int32) 0 (6 : Int32) ((([y0_, y1_, y2_, y3_, y4_, y5_] : List Int32).map (fun c => c.toInt8.toInt32)).map Value.int) := StrChars.Road.codOf (n := 6) rfl (fun x hx => (hp551 x hx).2)
           have hbd554 : ∀ x ∈ ([y0_, y1_, y2_, y3_, y4_, y5_] : List Int32), ¬ x < 0 ∧ ¬ (65535 : Int32) < x := own_up _ hp551
           obtain ⟨_, T553, L553, X553, hQ553, st553⟩ := own_cS 5 29 [] 398 #[iv p1, iv p2, iv p3, iv p4, iv p5, iv (ab1_ p1), iv (ab0_ p1), rv b1, iv len2, rv b537, .val (own_sv Gg0 Gg2 Gg3 Gg4 Gg5 ([y0_, y1_, y2_, y3_, y4_, y5_] : List Int32))] X550 hx hZ hown (w73_ hw) (w74_ hw) (w71_ hw) (w75_ hw) (rm6 l Z a0 hw Gg0 Gg1 Gg2 Gg3 Gg4 Gg5 Gg6 Gg7 Gg8 Gg9 Gg10 Gg11 Gg12 Gg13 Gg14 Gg15 Kg16 Kg17 Kg18 Kg19 Kg20 Kg21 G1 b537 b538 ([y0_, y1_, y2_, y3_, y4_, y5_] : List Int32) c539_ (6 : Int32) T523.heap n0 O552 hEN O2 P5 w545 w546 hcd554 hbd554 (lE rfl) w543 w544) pd4 hml.symm (hb hby at_398) e550q rfl rfl rfl rfl (by decide)
           obtain ⟨rfl, N553q, K553q⟩ := hQ553
           have N553 := Fr.app N550 N553q
           have K555 := K547.trans K553q (fun x q => nomatch q)
           have C556 : CHv Z consts_1 s.vm T553.heap := CHv.keep K553q sf0 C548
           have R557 : CHr Z consts_1 s.vm h0 s.vm T553.heap := R549.trans (CHr.keep K553q sf0 C548)
           have hk558' : _ ≤ T553.heap.size := (Nat.le_trans (Nat.le_trans (Nat.le_trans (Nat.le_trans (Nat.le_trans (Nat.le_trans (Nat.le_trans (Nat.le_trans (Nat.le_trans (Nat.le_trans (Nat.le_trans (Nat.le_trans (Nat.le_trans (Nat.le_trans hk0 E1.1) (Nat.le_of_eq W7.size.symm)) (Nat.le_of_eq W13.size.symm)) (Nat.le_of_eq W19.size.symm)) (Nat.le_of_eq W25.size.symm)) (Nat.le_of_eq W31.size.symm)) (Nat.le_of_eq W37.size.symm)) (Nat.le_of_eq W43.size.symm)) (Nat.le_of_eq W49.size.symm)) K55j.1) K214j.1) K286j.1) K523q.1) K553q.1)
           refine own_lvW X553 Bd.notSynchronized hS0 hk558' (v := (some (.int 1))) (fun h => by rw [Bd.returns] at h; cases h) rfl hh ⟨rfl, N553⟩ (R557.trans (CHv.at X553 hZ hEL C556)) (lE rfl) (lE rfl) (fun fs hr => pr295 _ (by
            show Sx p e below T286 m 384 #[iv p1, iv p2, iv p3, iv p4, iv p5, iv (ab1_ p1), iv (ab0_ p1), rv b1, iv len2, sl214_9, .unset] [.int len2, .ref b1] _
            refine st523 _ ?_
            refine XS.astoreS X523.here hx rfl (hb hby at_387) rfl rfl rfl rfl one214_9 ?_
            refine za X523 Bd at_389 rfl rfl ?_
            refine st550 _ ?_
            refine XS.astoreS X550.here hx rfl (hb hby at_394) rfl (own_svR _ _ _ _ _ _) (own_cat (own_svR _ _ _ _ _ _)) rfl (Or.inl rfl) ?_
            refine za X550 Bd at_396 rfl rfl ?_
            refine st553 _ ?_
            refine za X553 Bd at_401 rfl (own_svR _ _ _ _ _ _) ?_
            refine Jvm.RoadKit.acmp (g := (mkF m 403 #[iv p1, iv p2, iv p3, iv p4, iv p5, iv (ab1_ p1), iv (ab0_ p1), rv b1, iv len2, rv b537, .val (own_sv Gg0 Gg2 Gg3 Gg4 Gg5 ([y0_, y1_, y2_, y3_, y4_, y5_] : List Int32))] [(own_sv Gg0 Gg2 Gg3 Gg4 Gg5 ([y0_, y1_, y2_, y3_, y4_, y5_] : List Int32)), (own_sv Gg0 Gg2 Gg3 Gg4 Gg5 ([y0_, y1_, y2_, y3_, y4_, y5_] : List Int32))])) X553 hx rfl (own_svR _ _ _ _ _ _) (own_svR _ _ _ _ _ _) (pc0 := 403) (pc' := 406) (same := true) rfl (hb hby at_403) rfl (decide_eq_true rfl) (by decide) (by decide) ?_
            refine zc X553 Bd at_406 ?_
            refine zg (pc' := 411) X553 Bd at_407 rfl ?_
            exact retN X553 hx (t := .boolean) Bd.returns (by simp) (hb hby at_411) hr))
          ·
           skip
           by_cases hc560 : len2 = (7 : Int32)
           ·
            skip
            have A562_ := A282_.keep K286j nin0
            have O563 := X00.ext E1
            have O564 := O563.wr W7 g_b1
            have O565 := O564.wr W13 g_b1
            have O566 := O565.wr W19 g_b1
            have O567 := O566.wr W25 g_b1
            have O568 := O567.wr W31 g_b1
            have O569 := O568.wr W37 g_b1
            have O570 := O569.wr W43 g_b1
            have O571 := O570.wr W49 g_b1
            have O572 := O571.keep K55j (allS g_b1 all0)
            have O573 := O572.keep K214j (allS g_b1 all0)
            have O574 := O573.keep K286j all0
            obtain ⟨_, T561, L561, X561, hQ561, st561⟩ := own_cS 4 26 [] 384 #[iv p1, iv p2, iv p3, iv p4, iv p5, iv (ab1_ p1), iv (ab0_ p1), rv b1, iv len2, sl214_9, .unset] X286 hx hZ hown (w2_ hw) (w3_ hw) (w4_ hw) (w5_ hw) (rm19 l Z a0 hw G1 b1 len2 c1 y0_ y1_ y2_ y3_ y4_ y5_ y6_ y7_ h286 n0 O574 O2 P5 hc296 hc332 hc370 hc408 hc446 hc484 hc522 hc560 A562_ hp214_0 hp214_1 hp214_2 hp214_3 hp214_4 hp214_5 hp214_6) pd2 hml.symm (hb hby at_384) e286 rfl rfl rfl rfl (by decide)
            obtain ⟨b575, b576, c577_, rfl, N561q, K561q, w578, w579, w580, w581, w582, w583, w584⟩ := hQ561
            have N561 := Fr.app N286 N561q
            have K585 := K291.trans K561q (fun x q => nomatch q)
            have C586 : CHv Z consts_1 s.vm T561.heap := CHv.keep K561q sf0 C292
            have R587 : CHr Z consts_1 s.vm h0 s.vm T561.heap := R293.trans (CHr.keep K561q sf0 C292)
            have hp589 : ∀ c ∈ ([y0_, y1_, y2_, y3_, y4_, y5_, y6_] : List Int32), ¬ c < 0 ∧ ¬ (255 : Int32) < c := (List.forall_mem_cons.mpr ⟨hp214_0, (List.forall_mem_cons.mpr ⟨hp214_1, (List.forall_mem_cons.mpr ⟨hp214_2, (List.forall_mem_cons.mpr ⟨hp214_3, (List.forall_mem_cons.mpr ⟨hp214_4, (List.forall_mem_cons.mpr ⟨hp214_5, (List.forall_mem_cons.mpr ⟨hp214_6, (fun _ q => nomatch q)⟩)⟩)⟩)⟩)⟩)⟩)⟩)
            have O590 := O574.keep K561q all0
            obtain ⟨_, T588, L588, X588, hQ588, st588⟩ := own_cS 4 26 [] 391 #[iv p1, iv p2, iv p3, iv p4, iv p5, iv (ab1_ p1), iv (ab0_ p1), rv b1, iv len2, rv b575, .unset] X561 hx hZ hown (w35_ hw) (w36_ hw) (w4_ hw) (w37_ hw) (rm20 l Z a0 hw G1 Gg0 Gg1 Gg2 Gg3 Gg4 Gg5 Gg6 Gg7 Gg8 Gg9 Gg10 Gg11 Gg12 Gg13 Gg14 Gg15 Kg16 Kg17 Kg18 Kg19 Kg20 Kg21 b575 b576 y0_ y1_ y2_ y3_ y4_ y5_ y6_ c577_ T561.heap n0 O590 O2 P5 hEN w581 w582 w583 hp589 w584) pd4 hml.symm (hb hby at_391) rfl rfl rfl rfl rfl (by decide)
            obtain ⟨rfl, N588q, e588q⟩ := hQ588
            have N588 := Fr.app N561 N588q
            have hcd592 : StrChars.Road.CodA ([y0_, y1_, y2_, y3_, y4_, y5_, y6_] : List Int32) 0 (7 : Int32) ((([y0_, y1_, y2_, y3_, y4_, y5_, y6_] : List Int32).map (fun c => c.toInt8.toInt32)).map Value.int) := StrChars.Road.codOf (n := 7) rfl (fun x hx => (hp589 x hx).2)
            have hbd592 : ∀ x ∈ ([y0_, y1_, y2_, y3_, y4_, y5_, y6_] : List Int32), ¬ x < 0 ∧ ¬ (65535 : Int32) < x := own_up _ hp589
            obtain ⟨_, T591, L591, X591, hQ591, st591⟩ := own_cS 5 31 [] 398 #[iv p1, iv p2, iv p3, iv p4, iv p5, iv (ab1_ p1), iv (ab0_ p1), rv b1, iv len2, rv b575, .val (own_sv Gg0 Gg2 Gg3 Gg4 Gg5 ([y0_, y1_, y2_, y3_, y4_, y5_, y6_] : List Int32))] X588 hx hZ hown (w73_ hw) (w74_ hw) (w71_ hw) (w75_ hw) (rm6 l Z a0 hw Gg0 Gg1 Gg2 Gg3 Gg4 Gg5 Gg6 Gg7 Gg8 Gg9 Gg10 Gg11 Gg12 Gg13 Gg14 Gg15 Kg16 Kg17 Kg18 Kg19 Kg20 Kg21 G1 b575 b576 ([y0_, y1_, y2_, y3_, y4_, y5_, y6_] : List Int32) c577_ (7 : Int32) T561.heap n0 O590 hEN O2 P5 w583 w584 hcd592 hbd592 (lE rfl) w581 w582) pd4 hml.symm (hb hby at_398) e588q rfl rfl rfl rfl (by decide)
            obtain ⟨rfl, N591q, K591q⟩ := hQ591
            have N591 := Fr.app N588 N591q
            have K593 := K585.trans K591q (fun x q => nomatch q)
            have C594 : CHv Z consts_1 s.vm T591.heap := CHv.keep K591q sf0 C586
            have R595 : CHr Z consts_1 s.vm h0 s.vm T591.heap := R587.trans (CHr.keep K591q sf0 C586)
            have hk596' : _ ≤ T591.heap.size := (Nat.le_trans (Nat.le_trans (Nat.le_trans (Nat.le_trans (Nat.le_trans (Nat.le_trans (Nat.le_trans (Nat.le_trans (Nat.le_trans (Nat.le_trans (Nat.le_trans (Nat.le_trans (Nat.le_trans (Nat.le_trans hk0 E1.1) (Nat.le_of_eq W7.size.symm)) (Nat.le_of_eq W13.size.symm)) (Nat.le_of_eq W19.size.symm)) (Nat.le_of_eq W25.size.symm)) (Nat.le_of_eq W31.size.symm)) (Nat.le_of_eq W37.size.symm)) (Nat.le_of_eq W43.size.symm)) (Nat.le_of_eq W49.size.symm)) K55j.1) K214j.1) K286j.1) K561q.1) K591q.1)
            refine own_lvW X591 Bd.notSynchronized hS0 hk596' (v := (some (.int 1))) (fun h => by rw [Bd.returns] at h; cases h) rfl hh ⟨rfl, N591⟩ (R595.trans (CHv.at X591 hZ hEL C594)) (lE rfl) (lE rfl) (fun fs hr => pr295 _ (by
             show Sx p e below T286 m 384 #[iv p1, iv p2, iv p3, iv p4, iv p5, iv (ab1_ p1), iv (ab0_ p1), rv b1, iv len2, sl214_9, .unset] [.int len2, .ref b1] _
             refine st561 _ ?_
             refine XS.astoreS X561.here hx rfl (hb hby at_387) rfl rfl rfl rfl one214_9 ?_
             refine za X561 Bd at_389 rfl rfl ?_
             refine st588 _ ?_
             refine XS.astoreS X588.here hx rfl (hb hby at_394) rfl (own_svR _ _ _ _ _ _) (own_cat (own_svR _ _ _ _ _ _)) rfl (Or.inl rfl) ?_
             refine za X588 Bd at_396 rfl rfl ?_
             refine st591 _ ?_
             refine za X591 Bd at_401 rfl (own_svR _ _ _ _ _ _) ?_
             refine Jvm.RoadKit.acmp (g := (mkF m 403 #[iv p1, iv p2, iv p3, iv p4, iv p5, iv (ab1_ p1), iv (ab0_ p1), rv b1, iv len2, rv b575, .val (own_sv Gg0 Gg2 Gg3 Gg4 Gg5 ([y0_, y1_, y2_, y3_, y4_, y5_, y6_] : List Int32))] [(own_sv Gg0 Gg2 Gg3 Gg4 Gg5 ([y0_, y1_, y2_, y3_, y4_, y5_, y6_] : List Int32)), (own_sv Gg0 Gg2 Gg3 Gg4 Gg5 ([y0_, y1_, y2_, y3_, y4_, y5_, y6_] : List Int32))])) X591 hx rfl (own_svR _ _ _ _ _ _) (own_svR _ _ _ _ _ _) (pc0 := 403) (pc' := 406) (same := true) rfl (hb hby at_403) rfl (decide_eq_true rfl) (by decide) (by decide) ?_
             refine zc X591 Bd at_406 ?_
             refine zg (pc' := 411) X591 Bd at_407 rfl ?_
             exact retN X591 hx (t := .boolean) Bd.returns (by simp) (hb hby at_411) hr))
           ·
            skip
            have A598_ := A282_.keep K286j nin0
            have O599 := X00.ext E1
            have O600 := O599.wr W7 g_b1
            have O601 := O600.wr W13 g_b1
            have O602 := O601.wr W19 g_b1
            have O603 := O602.wr W25 g_b1
            have O604 := O603.wr W31 g_b1
            have O605 := O604.wr W37 g_b1
            have O606 := O605.wr W43 g_b1
            have O607 := O606.wr W49 g_b1
            have O608 := O607.keep K55j (allS g_b1 all0)
            have O609 := O608.keep K214j (allS g_b1 all0)
            have O610 := O609.keep K286j all0
            obtain ⟨_, T597, L597, X597, hQ597, st597⟩ := own_cS 4 28 [] 384 #[iv p1, iv p2, iv p3, iv p4, iv p5, iv (ab1_ p1), iv (ab0_ p1), rv b1, iv len2, sl214_9, .unset] X286 hx hZ hown (w2_ hw) (w3_ hw) (w4_ hw) (w5_ hw) (rm21 l Z a0 hw G1 b1 len2 c1 y0_ y1_ y2_ y3_ y4_ y5_ y6_ y7_ h286 n0 O610 O2 P5 hc296 hc332 hc370 hc408 hc446 hc484 hc522 hc560 A598_ hp214_0 hp214_1 hp214_2 hp214_3 hp214_4 hp214_5 hp214_6 hp214_7) pd2 hml.symm (hb hby at_384) e286 rfl rfl rfl rfl (by decide)
            obtain ⟨b611, b612, c613_, rfl, N597q, K597q, w614, w615, w616, w617, w618, w619, w620⟩ := hQ597
            have N597 := Fr.app N286 N597q
            have K621 := K291.trans K597q (fun x q => nomatch q)
            have C622 : CHv Z consts_1 s.vm T597.heap := CHv.keep K597q sf0 C292
            have R623 : CHr Z consts_1 s.vm h0 s.vm T597.heap := R293.trans (CHr.keep K597q sf0 C292)
            have hp625 : ∀ c ∈ ([y0_, y1_, y2_, y3_, y4_, y5_, y6_, y7_] : List Int32), ¬ c < 0 ∧ ¬ (255 : Int32) < c := (List.forall_mem_cons.mpr ⟨hp214_0, (List.forall_mem_cons.mpr ⟨hp214_1, (List.forall_mem_cons.mpr ⟨hp214_2, (List.forall_mem_cons.mpr ⟨hp214_3, (List.forall_mem_cons.mpr ⟨hp214_4, (List.forall_mem_cons.mpr ⟨hp214_5, (List.forall_mem_cons.mpr ⟨hp214_6, (List.forall_mem_cons.mpr ⟨hp214_7, (fun _ q => nomatch q)⟩)⟩)⟩)⟩)⟩)⟩)⟩)⟩)
            have O626 := O610.keep K597q all0
            obtain ⟨_, T624, L624, X624, hQ624, st624⟩ := own_cS 4 28 [] 391 #[iv p1, iv p2, iv p3, iv p4, iv p5, iv (ab1_ p1), iv (ab0_ p1), rv b1, iv len2, rv b611, .unset] X597 hx hZ hown (w35_ hw) (w36_ hw) (w4_ hw) (w37_ hw) (rm22 l Z a0 hw G1 G3 Gg0 Gg1 Gg2 Gg3 Gg4 Gg5 Gg6 Gg7 Gg8 Gg9 Gg10 Gg11 Gg12 Gg13 Gg14 Gg15 Kg16 Kg17 Kg18 Kg19 Kg20 Kg21 b611 b612 y0_ y1_ y2_ y3_ y4_ y5_ y6_ y7_ c613_ T597.heap n0 O626 O2 P5 O4 rG3 hEN w617 w618 w619 hp625 w620) pd4 hml.symm (hb hby at_391) rfl rfl rfl rfl rfl (by decide)
            obtain ⟨rfl, N624q, e624q⟩ := hQ624
            have N624 := Fr.app N597 N624q
            have hcd628 : StrChars.Road.CodA ([y0_, y1_, y2_, y3_, y4_, y5_, y6_, y7_] : List Int32) 0 (8 : Int32) ((([y0_, y1_, y2_, y3_, y4_, y5_, y6_, y7_] : List Int32).map (fun c => c.toInt8.toInt32)).map Value.int) := StrChars.Road.codOf (n := 8) rfl (fun x hx => (hp625 x hx).2)
            have hbd628 : ∀ x ∈ ([y0_, y1_, y2_, y3_, y4_, y5_, y6_, y7_] : List Int32), ¬ x < 0 ∧ ¬ (65535 : Int32) < x := own_up _ hp625
            obtain ⟨_, T627, L627, X627, hQ627, st627⟩ := own_cS 5 33 [] 398 #[iv p1, iv p2, iv p3, iv p4, iv p5, iv (ab1_ p1), iv (ab0_ p1), rv b1, iv len2, rv b611, .val (own_sv Gg0 Gg2 Gg3 Gg4 Gg5 ([y0_, y1_, y2_, y3_, y4_, y5_, y6_, y7_] : List Int32))] X624 hx hZ hown (w73_ hw) (w74_ hw) (w71_ hw) (w75_ hw) (rm6 l Z a0 hw Gg0 Gg1 Gg2 Gg3 Gg4 Gg5 Gg6 Gg7 Gg8 Gg9 Gg10 Gg11 Gg12 Gg13 Gg14 Gg15 Kg16 Kg17 Kg18 Kg19 Kg20 Kg21 G1 b611 b612 ([y0_, y1_, y2_, y3_, y4_, y5_, y6_, y7_] : List Int32) c613_ (8 : Int32) T597.heap n0 O626 hEN O2 P5 w619 w620 hcd628 hbd628 (lE rfl) w617 w618) pd4 hml.symm (hb hby at_398) e624q rfl rfl rfl rfl (by decide)
            obtain ⟨rfl, N627q, K627q⟩ := hQ627
            have N627 := Fr.app N624 N627q
            have K629 := K621.trans K627q (fun x q => nomatch q)
            have C630 : CHv Z consts_1 s.vm T627.heap := CHv.keep K627q sf0 C622
            have R631 : CHr Z consts_1 s.vm h0 s.vm T627.heap := R623.trans (CHr.keep K627q sf0 C622)
            have hk632' : _ ≤ T627.heap.size := (Nat.le_trans (Nat.le_trans (Nat.le_trans (Nat.le_trans (Nat.le_trans (Nat.le_trans (Nat.le_trans (Nat.le_trans (Nat.le_trans (Nat.le_trans (Nat.le_trans (Nat.le_trans (Nat.le_trans (Nat.le_trans hk0 E1.1) (Nat.le_of_eq W7.size.symm)) (Nat.le_of_eq W13.size.symm)) (Nat.le_of_eq W19.size.symm)) (Nat.le_of_eq W25.size.symm)) (Nat.le_of_eq W31.size.symm)) (Nat.le_of_eq W37.size.symm)) (Nat.le_of_eq W43.size.symm)) (Nat.le_of_eq W49.size.symm)) K55j.1) K214j.1) K286j.1) K597q.1) K627q.1)
            refine own_lvW X627 Bd.notSynchronized hS0 hk632' (v := (some (.int 1))) (fun h => by rw [Bd.returns] at h; cases h) rfl hh ⟨rfl, N627⟩ (R631.trans (CHv.at X627 hZ hEL C630)) (lE rfl) (lE rfl) (fun fs hr => pr295 _ (by
             show Sx p e below T286 m 384 #[iv p1, iv p2, iv p3, iv p4, iv p5, iv (ab1_ p1), iv (ab0_ p1), rv b1, iv len2, sl214_9, .unset] [.int len2, .ref b1] _
             refine st597 _ ?_
             refine XS.astoreS X597.here hx rfl (hb hby at_387) rfl rfl rfl rfl one214_9 ?_
             refine za X597 Bd at_389 rfl rfl ?_
             refine st624 _ ?_
             refine XS.astoreS X624.here hx rfl (hb hby at_394) rfl (own_svR _ _ _ _ _ _) (own_cat (own_svR _ _ _ _ _ _)) rfl (Or.inl rfl) ?_
             refine za X624 Bd at_396 rfl rfl ?_
             refine st627 _ ?_
             refine za X627 Bd at_401 rfl (own_svR _ _ _ _ _ _) ?_
             refine Jvm.RoadKit.acmp (g := (mkF m 403 #[iv p1, iv p2, iv p3, iv p4, iv p5, iv (ab1_ p1), iv (ab0_ p1), rv b1, iv len2, rv b611, .val (own_sv Gg0 Gg2 Gg3 Gg4 Gg5 ([y0_, y1_, y2_, y3_, y4_, y5_, y6_, y7_] : List Int32))] [(own_sv Gg0 Gg2 Gg3 Gg4 Gg5 ([y0_, y1_, y2_, y3_, y4_, y5_, y6_, y7_] : List Int32)), (own_sv Gg0 Gg2 Gg3 Gg4 Gg5 ([y0_, y1_, y2_, y3_, y4_, y5_, y6_, y7_] : List Int32))])) X627 hx rfl (own_svR _ _ _ _ _ _) (own_svR _ _ _ _ _ _) (pc0 := 403) (pc' := 406) (same := true) rfl (hb hby at_403) rfl (decide_eq_true rfl) (by decide) (by decide) ?_
             refine zc X627 Bd at_406 ?_
             refine zg (pc' := 411) X627 Bd at_407 rfl ?_
             exact retN X627 hx (t := .boolean) Bd.returns (by simp) (hb hby at_411) hr))
theorem comes_1 {Post : Tables → Env → Array Value → State → Outcome → State → Prop} (hpost : ∀ tb e args s v u, (limb_1_1.after args s (.returned v) u = true ∧ limb_1_2.after args s (.returned v) u = true ∧ True) → ReturnedEndW s (.returned v) u (Jvm.fieldLocs frame_1_writes args s ++ Jvm.arrayLocs frame_1_arrays args s ++ Jvm.staticLocs frame_1_statics s) 24 1216 → Post tb e args s (.returned v) u) :
    ArmFor flags0 classFile x code maxLocals ret World_1 tables_1 room_1 Calls_1 rest_1 Pre_1 Post := by
  intro l hfl _ _ p e ha hc hk s m args below hf hA hF happ hP
  obtain ⟨hcalls, hrest, hpre⟩ := hP
  obtain ⟨-, -, -, hnamed, -, -, -, hat⟩ := (Spec.applies_iff hf).mp happ
  obtain ⟨hg, hn⟩ := and_e (Cond.before_iff.mp (show (Jvm.Cond.and given_1 narrow_1).before args s = true from hpre))
  obtain ⟨hg0, hg1⟩ := and_e hg
  obtain ⟨ha1, hg2⟩ := and_e hg1
  obtain ⟨ha2, hg3⟩ := and_e hg2
  obtain ⟨ha3, hg4⟩ := and_e hg3
  obtain ⟨ha4, hg5⟩ := and_e hg4
  obtain ⟨w1, w2, w3, w4, w5, rfl⟩ : ∃ w1 w2 w3 w4 w5 : Value, args = #[w1, w2, w3, w4, w5] := by
    have hs : args.size = 5 := by simpa [Cond.value, given_1] using hg0
    obtain ⟨L⟩ := args
    match L, hs with
    | [w1, w2, w3, w4, w5], _ => exact ⟨w1, w2, w3, w4, w5, rfl⟩
  have hw := fun d (hd : d ∈ tables_1) => atoms_spec (ws := Jvm.Cond.code x code maxLocals ret :: tables_1) hat d (List.mem_cons_of_mem _ hd)
  obtain ⟨hsets, hown0⟩ := atoms_of _ (rest_1_c_eq ▸ (show rest_1_c.before _ s = true from hrest))
  have hfit : Fit s := fun {y c} hc i hi => by
    obtain ⟨ha, rfl⟩ := Array.getElem?_eq_some_iff.mp hc
    have q := List.all_eq_true.mp ((Array.all_eq_true_iff_forall_mem.mp hF) _ (Array.getElem_mem ha)) i (List.mem_range.mpr hi)
    simpa [Array.getElem?_eq_getElem hi] using q
  obtain ⟨i1, ei1⟩ := is_v ha1
  obtain rfl : w1 = (.int i1) := Option.some.inj ei1
  obtain ⟨i2, ei2⟩ := is_v ha2
  obtain rfl : w2 = (.int i2) := Option.some.inj ei2
  obtain ⟨i3, ei3⟩ := is_v ha3
  obtain rfl : w3 = (.int i3) := Option.some.inj ei3
  obtain ⟨i4, ei4⟩ := is_v ha4
  obtain rfl : w4 = (.int i4) := Option.some.inj ei4
  obtain ⟨i5, ei5⟩ := is_v hg5
  obtain rfl : w5 = (.int i5) := Option.some.inj ei5
  have nCS := not_v (Cond.before_iff.mp (hsets _ (mI 2 rfl)))
  obtain ⟨G1, eCS⟩ := is_v (Cond.before_iff.mp (hsets _ (mI 1 rfl)))
  have O2 : Sta s s.heap "java/lang/String" "COMPACT_STRINGS" "Z" (.int G1) := Sta.start eCS (Or.inl (hsets _ (mI 0 rfl)))
  have P5 : ¬ (G1 = (0 : Int32)) := gotF (Cond.eq_ints eCS (Term.int_eval (0))) nCS
  obtain ⟨hna, hnb⟩ := and_e hn
  obtain ⟨hnba, hnbb⟩ := and_e hnb
  obtain ⟨hnbba, hnbbb⟩ := and_e hnbb
  obtain ⟨hnbbba, hnbbbb⟩ := and_e hnbbb
  obtain ⟨hnbbbba, hnbbbbb⟩ := and_e hnbbbb
  obtain ⟨hnbbbbba, hnbbbbbb⟩ := and_e hnbbbbb
  obtain ⟨hnbbbbbba, hnbbbbbbb⟩ := and_e hnbbbbbb
  obtain ⟨hnbbbbbbba, hnbbbbbbbb⟩ := and_e hnbbbbbbb
  obtain ⟨hnbbbbbbbba, hnbbbbbbbbb⟩ := and_e hnbbbbbbbb
  obtain ⟨hnbbbbbbbbba, hnbbbbbbbbbb⟩ := and_e hnbbbbbbbbb
  obtain ⟨hnbbbbbbbbbba, hnbbbbbbbbbbb⟩ := and_e hnbbbbbbbbbb
  obtain ⟨hnbbbbbbbbbbba, hnbbbbbbbbbbbb⟩ := and_e hnbbbbbbbbbbb
  obtain ⟨hnbbbbbbbbbbbba, hnbbbbbbbbbbbbb⟩ := and_e hnbbbbbbbbbbbb
  obtain ⟨hnbbbbbbbbbbbbba, hnbbbbbbbbbbbbbb⟩ := and_e hnbbbbbbbbbbbbb
  obtain ⟨hnbbbbbbbbbbbbbba, hnbbbbbbbbbbbbbbb⟩ := and_e hnbbbbbbbbbbbbbb
  obtain ⟨hnbbbbbbbbbbbbbbba, hnbbbbbbbbbbbbbbbb⟩ := and_e hnbbbbbbbbbbbbbbb
  obtain ⟨hnbbbbbbbbbbbbbbbba, hnbbbbbbbbbbbbbbbbb⟩ := and_e hnbbbbbbbbbbbbbbbb
  obtain ⟨hnbbbbbbbbbbbbbbbbba, hnbbbbbbbbbbbbbbbbbb⟩ := and_e hnbbbbbbbbbbbbbbbbb
  obtain ⟨hnbbbbbbbbbbbbbbbbbba, hnbbbbbbbbbbbbbbbbbbb⟩ := and_e hnbbbbbbbbbbbbbbbbbb
  obtain ⟨hnbbbbbbbbbbbbbbbbbbba, hnbbbbbbbbbbbbbbbbbbbb⟩ := and_e hnbbbbbbbbbbbbbbbbbbb
  obtain ⟨hnbbbbbbbbbbbbbbbbbbbba, hnbbbbbbbbbbbbbbbbbbbbb⟩ := and_e hnbbbbbbbbbbbbbbbbbbbb
  obtain ⟨hnbbbbbbbbbbbbbbbbbbbbba, hnbbbbbbbbbbbbbbbbbbbbbb⟩ := and_e hnbbbbbbbbbbbbbbbbbbbbb
  obtain ⟨hnbbbbbbbbbbbbbbbbbbbbbba, hnbbbbbbbbbbbbbbbbbbbbbbb⟩ := and_e hnbbbbbbbbbbbbbbbbbbbbbb
  obtain ⟨hnbbbbbbbbbbbbbbbbbbbbbbba, hnbbbbbbbbbbbbbbbbbbbbbbbb⟩ := and_e hnbbbbbbbbbbbbbbbbbbbbbbb
  obtain ⟨hnbbbbbbbbbbbbbbbbbbbbbbbba, hnbbbbbbbbbbbbbbbbbbbbbbbbb⟩ := and_e hnbbbbbbbbbbbbbbbbbbbbbbbb
  obtain ⟨hnbbbbbbbbbbbbbbbbbbbbbbbbba, hnbbbbbbbbbbbbbbbbbbbbbbbbbb⟩ := and_e hnbbbbbbbbbbbbbbbbbbbbbbbbb
  obtain ⟨hnbbbbbbbbbbbbbbbbbbbbbbbbbba, hnbbbbbbbbbbbbbbbbbbbbbbbbbbb⟩ := and_e hnbbbbbbbbbbbbbbbbbbbbbbbbbb
  obtain ⟨hnbbbbbbbbbbbbbbbbbbbbbbbbbbba, hnbbbbbbbbbbbbbbbbbbbbbbbbbbbb⟩ := and_e hnbbbbbbbbbbbbbbbbbbbbbbbbbbb
  obtain ⟨hnbbbbbbbbbbbbbbbbbbbbbbbbbbbba, hnbbbbbbbbbbbbbbbbbbbbbbbbbbbbb⟩ := and_e hnbbbbbbbbbbbbbbbbbbbbbbbbbbbb
  obtain ⟨hnbbbbbbbbbbbbbbbbbbbbbbbbbbbbba, hnbbbbbbbbbbbbbbbbbbbbbbbbbbbbbb⟩ := and_e hnbbbbbbbbbbbbbbbbbbbbbbbbbbbbb
  obtain ⟨hnbbbbbbbbbbbbbbbbbbbbbbbbbbbbbba, hnbbbbbbbbbbbbbbbbbbbbbbbbbbbbbbb⟩ := and_e hnbbbbbbbbbbbbbbbbbbbbbbbbbbbbbb
  obtain ⟨hnbbbbbbbbbbbbbbbbbbbbbbbbbbbbbbba, hnbbbbbbbbbbbbbbbbbbbbbbbbbbbbbbbb⟩ := and_e hnbbbbbbbbbbbbbbbbbbbbbbbbbbbbbbb
  obtain ⟨hnbbbbbbbbbbbbbbbbbbbbbbbbbbbbbbbba, hnbbbbbbbbbbbbbbbbbbbbbbbbbbbbbbbbb⟩ := and_e hnbbbbbbbbbbbbbbbbbbbbbbbbbbbbbbbb
  obtain ⟨hnbbbbbbbbbbbbbbbbbbbbbbbbbbbbbbbbba, hnbbbbbbbbbbbbbbbbbbbbbbbbbbbbbbbbbb⟩ := and_e hnbbbbbbbbbbbbbbbbbbbbbbbbbbbbbbbbb
  obtain ⟨hnbbbbbbbbbbbbbbbbbbbbbbbbbbbbbbbbbba, hnbbbbbbbbbbbbbbbbbbbbbbbbbbbbbbbbbbb⟩ := and_e hnbbbbbbbbbbbbbbbbbbbbbbbbbbbbbbbbbb
  obtain ⟨hnbbbbbbbbbbbbbbbbbbbbbbbbbbbbbbbbbbba, hnbbbbbbbbbbbbbbbbbbbbbbbbbbbbbbbbbbbb⟩ := and_e hnbbbbbbbbbbbbbbbbbbbbbbbbbbbbbbbbbbb
  obtain ⟨hnbbbbbbbbbbbbbbbbbbbbbbbbbbbbbbbbbbbba, hnbbbbbbbbbbbbbbbbbbbbbbbbbbbbbbbbbbbbb⟩ := and_e hnbbbbbbbbbbbbbbbbbbbbbbbbbbbbbbbbbbbb
  obtain ⟨hnbbbbbbbbbbbbbbbbbbbbbbbbbbbbbbbbbbbbba, hnbbbbbbbbbbbbbbbbbbbbbbbbbbbbbbbbbbbbbb⟩ := and_e hnbbbbbbbbbbbbbbbbbbbbbbbbbbbbbbbbbbbbb
  obtain ⟨hnbbbbbbbbbbbbbbbbbbbbbbbbbbbbbbbbbbbbbba, hnbbbbbbbbbbbbbbbbbbbbbbbbbbbbbbbbbbbbbbb⟩ := and_e hnbbbbbbbbbbbbbbbbbbbbbbbbbbbbbbbbbbbbbb
  obtain ⟨hnbbbbbbbbbbbbbbbbbbbbbbbbbbbbbbbbbbbbbbba, hnbbbbbbbbbbbbbbbbbbbbbbbbbbbbbbbbbbbbbbbb⟩ := and_e hnbbbbbbbbbbbbbbbbbbbbbbbbbbbbbbbbbbbbbbb
  obtain ⟨hnbbbbbbbbbbbbbbbbbbbbbbbbbbbbbbbbbbbbbbbba, hnbbbbbbbbbbbbbbbbbbbbbbbbbbbbbbbbbbbbbbbbb⟩ := and_e hnbbbbbbbbbbbbbbbbbbbbbbbbbbbbbbbbbbbbbbbb
  obtain ⟨hnbbbbbbbbbbbbbbbbbbbbbbbbbbbbbbbbbbbbbbbbba, hnbbbbbbbbbbbbbbbbbbbbbbbbbbbbbbbbbbbbbbbbbb⟩ := and_e hnbbbbbbbbbbbbbbbbbbbbbbbbbbbbbbbbbbbbbbbbb
  obtain ⟨hnbbbbbbbbbbbbbbbbbbbbbbbbbbbbbbbbbbbbbbbbbba, hnbbbbbbbbbbbbbbbbbbbbbbbbbbbbbbbbbbbbbbbbbbb⟩ := and_e hnbbbbbbbbbbbbbbbbbbbbbbbbbbbbbbbbbbbbbbbbbb
  obtain ⟨hnbbbbbbbbbbbbbbbbbbbbbbbbbbbbbbbbbbbbbbbbbbba, hnbbbbbbbbbbbbbbbbbbbbbbbbbbbbbbbbbbbbbbbbbbbb⟩ := and_e hnbbbbbbbbbbbbbbbbbbbbbbbbbbbbbbbbbbbbbbbbbbb
  obtain ⟨hnbbbbbbbbbbbbbbbbbbbbbbbbbbbbbbbbbbbbbbbbbbbba, hnbbbbbbbbbbbbbbbbbbbbbbbbbbbbbbbbbbbbbbbbbbbbb⟩ := and_e hnbbbbbbbbbbbbbbbbbbbbbbbbbbbbbbbbbbbbbbbbbbbb
  obtain ⟨hnbbbbbbbbbbbbbbbbbbbbbbbbbbbbbbbbbbbbbbbbbbbbba, hnbbbbbbbbbbbbbbbbbbbbbbbbbbbbbbbbbbbbbbbbbbbbbb⟩ := and_e hnbbbbbbbbbbbbbbbbbbbbbbbbbbbbbbbbbbbbbbbbbbbbb
  obtain ⟨hnbbbbbbbbbbbbbbbbbbbbbbbbbbbbbbbbbbbbbbbbbbbbbba, hnbbbbbbbbbbbbbbbbbbbbbbbbbbbbbbbbbbbbbbbbbbbbbbb⟩ := and_e hnbbbbbbbbbbbbbbbbbbbbbbbbbbbbbbbbbbbbbbbbbbbbbb
  obtain ⟨hnbbbbbbbbbbbbbbbbbbbbbbbbbbbbbbbbbbbbbbbbbbbbbbba, hnbbbbbbbbbbbbbbbbbbbbbbbbbbbbbbbbbbbbbbbbbbbbbbbb⟩ := and_e hnbbbbbbbbbbbbbbbbbbbbbbbbbbbbbbbbbbbbbbbbbbbbbbb
  obtain ⟨hnbbbbbbbbbbbbbbbbbbbbbbbbbbbbbbbbbbbbbbbbbbbbbbbba, hnbbbbbbbbbbbbbbbbbbbbbbbbbbbbbbbbbbbbbbbbbbbbbbbbb⟩ := and_e hnbbbbbbbbbbbbbbbbbbbbbbbbbbbbbbbbbbbbbbbbbbbbbbbb
  obtain ⟨hnbbbbbbbbbbbbbbbbbbbbbbbbbbbbbbbbbbbbbbbbbbbbbbbbba, hnbbbbbbbbbbbbbbbbbbbbbbbbbbbbbbbbbbbbbbbbbbbbbbbbbb⟩ := and_e hnbbbbbbbbbbbbbbbbbbbbbbbbbbbbbbbbbbbbbbbbbbbbbbbbb
  obtain ⟨hnbbbbbbbbbbbbbbbbbbbbbbbbbbbbbbbbbbbbbbbbbbbbbbbbbba, hnbbbbbbbbbbbbbbbbbbbbbbbbbbbbbbbbbbbbbbbbbbbbbbbbbbb⟩ := and_e hnbbbbbbbbbbbbbbbbbbbbbbbbbbbbbbbbbbbbbbbbbbbbbbbbbb
  obtain ⟨hnbbbbbbbbbbbbbbbbbbbbbbbbbbbbbbbbbbbbbbbbbbbbbbbbbbba, hnbbbbbbbbbbbbbbbbbbbbbbbbbbbbbbbbbbbbbbbbbbbbbbbbbbbb⟩ := and_e hnbbbbbbbbbbbbbbbbbbbbbbbbbbbbbbbbbbbbbbbbbbbbbbbbbbb
  obtain ⟨hnbbbbbbbbbbbbbbbbbbbbbbbbbbbbbbbbbbbbbbbbbbbbbbbbbbbba, hnbbbbbbbbbbbbbbbbbbbbbbbbbbbbbbbbbbbbbbbbbbbbbbbbbbbbb⟩ := and_e hnbbbbbbbbbbbbbbbbbbbbbbbbbbbbbbbbbbbbbbbbbbbbbbbbbbbb
  obtain ⟨hnbbbbbbbbbbbbbbbbbbbbbbbbbbbbbbbbbbbbbbbbbbbbbbbbbbbbba, hnbbbbbbbbbbbbbbbbbbbbbbbbbbbbbbbbbbbbbbbbbbbbbbbbbbbbbb⟩ := and_e hnbbbbbbbbbbbbbbbbbbbbbbbbbbbbbbbbbbbbbbbbbbbbbbbbbbbbb
  obtain ⟨hnbbbbbbbbbbbbbbbbbbbbbbbbbbbbbbbbbbbbbbbbbbbbbbbbbbbbbba, hnbbbbbbbbbbbbbbbbbbbbbbbbbbbbbbbbbbbbbbbbbbbbbbbbbbbbbbb⟩ := and_e hnbbbbbbbbbbbbbbbbbbbbbbbbbbbbbbbbbbbbbbbbbbbbbbbbbbbbbb
  obtain ⟨Gg0, ev_Gg0⟩ := exa_v hna
  obtain ⟨Gg1, ev_Gg1⟩ := exa_v hnbba
  obtain ⟨Gg2, ev_Gg2⟩ := exa_v hnbbbbba
  obtain ⟨Gg3, ev_Gg3⟩ := exa_v hnbbbbbbba
  obtain ⟨Gg4, ev_Gg4⟩ := exa_v hnbbbbbbbbba
  obtain ⟨Gg5, ev_Gg5⟩ := exa_v hnbbbbbbbbbbba
  obtain ⟨Gg6, ev_Gg6⟩ := exa_v hnbbbbbbbbbbbbba
  obtain ⟨Gg7, ev_Gg7⟩ := exa_v hnbbbbbbbbbbbbbbbbbbbba
  obtain ⟨Gg8, ev_Gg8⟩ := exa_v hnbbbbbbbbbbbbbbbbbbbbbbbbba
  obtain ⟨Gg9, ev_Gg9⟩ := exa_v hnbbbbbbbbbbbbbbbbbbbbbbbbbbbbbba
  obtain ⟨Gg10, ev_Gg10⟩ := exa_v hnbbbbbbbbbbbbbbbbbbbbbbbbbbbbbbbbbbbbbbbbba
  obtain ⟨Gg11, ev_Gg11⟩ := arr_v hnbbbbbbbbbbbbbbba
  obtain ⟨Gg12, ev_Gg12⟩ := arr_v hnbbbbbbbbbbbbbbbbbbbbbba
  obtain ⟨Gg13, ev_Gg13⟩ := arr_v hnbbbbbbbbbbbbbbbbbbbbbbbbbbba
  obtain ⟨Gg14, ev_Gg14⟩ := arr_v hnbbbbbbbbbbbbbbbbbbbbbbbbbbbbbbbba
  obtain ⟨Gg15, ev_Gg15⟩ := arr_v hnbbbbbbbbbbbbbbbbbbbbbbbbbbbbbbbbbbbbbbbbbbba
  obtain ⟨Kg16, av_Gg1⟩ := own_arr (dv := .null) (n := (5 : Int32)) (vs := [.ref Gg0, .ref Gg2, .ref Gg3, .ref Gg4, .ref Gg5]) hfit ev_Gg1 hnba (eqv_i (Term.int_eval _) hnbbba) (by decide) rfl ⟨own_eqv_r ev_Gg0 hnbbbba, ⟨own_eqv_r ev_Gg2 hnbbbbbba, ⟨own_eqv_r ev_Gg3 hnbbbbbbbba, ⟨own_eqv_r ev_Gg4 hnbbbbbbbbbba, ⟨own_eqv_r ev_Gg5 hnbbbbbbbbbbbba, trivial⟩⟩⟩⟩⟩
  obtain ⟨Kg17, av_Gg11⟩ := own_arr (dv := (.int 0)) (n := (3 : Int32)) (vs := [.int 78, .int 97, .int 78]) hfit ev_Gg11 hnbbbbbbbbbbbbbbba (eqv_i (Term.int_eval _) hnbbbbbbbbbbbbbbbba) (by decide) rfl ⟨eqv_i (Term.int_eval _) hnbbbbbbbbbbbbbbbbba, ⟨eqv_i (Term.int_eval _) hnbbbbbbbbbbbbbbbbbba, ⟨eqv_i (Term.int_eval _) hnbbbbbbbbbbbbbbbbbbba, trivial⟩⟩⟩
  obtain ⟨Kg18, av_Gg12⟩ := own_arr (dv := (.int 0)) (n := (4 : Int32)) (vs := [.int 78, .int 82, .int 101, .int 115]) hfit ev_Gg12 hnbbbbbbbbbbbbbbbbbbbbbba (eqv_i (Term.int_eval _) hnbbbbbbbbbbbbbbbbbbbbbbba) (by decide) rfl ⟨eqv_i (Term.int_eval _) hnbbbbbbbbbbbbbbbbbbbbbbbba, ⟨eqv_i (Term.int_eval _) hnbbbbbbbbbbbbbbbbbbbbbbbbbbbbbbbbbbbbbbbbbbbbba, ⟨eqv_i (Term.int_eval _) hnbbbbbbbbbbbbbbbbbbbbbbbbbbbbbbbbbbbbbbbbbbbbbba, ⟨eqv_i (Term.int_eval _) hnbbbbbbbbbbbbbbbbbbbbbbbbbbbbbbbbbbbbbbbbbbbbbbba, trivial⟩⟩⟩⟩
  obtain ⟨Kg19, av_Gg13⟩ := own_arr (dv := (.int 0)) (n := (4 : Int32)) (vs := [.int 43, .int 73, .int 78, .int 70]) hfit ev_Gg13 hnbbbbbbbbbbbbbbbbbbbbbbbbbbba (eqv_i (Term.int_eval _) hnbbbbbbbbbbbbbbbbbbbbbbbbbbbba) (by decide) rfl ⟨eqv_i (Term.int_eval _) hnbbbbbbbbbbbbbbbbbbbbbbbbbbbbba, ⟨eqv_i (Term.int_eval _) hnbbbbbbbbbbbbbbbbbbbbbbbbbbbbbbbbbbbbbba, ⟨eqv_i (Term.int_eval _) hnbbbbbbbbbbbbbbbbbbbbbbbbbbbbbbbbbbbbbbba, ⟨eqv_i (Term.int_eval _) hnbbbbbbbbbbbbbbbbbbbbbbbbbbbbbbbbbbbbbbbba, trivial⟩⟩⟩⟩
  obtain ⟨Kg20, av_Gg14⟩ := own_arr (dv := (.int 0)) (n := (4 : Int32)) (vs := [.int 45, .int 73, .int 78, .int 70]) hfit ev_Gg14 hnbbbbbbbbbbbbbbbbbbbbbbbbbbbbbbbba (eqv_i (Term.int_eval _) hnbbbbbbbbbbbbbbbbbbbbbbbbbbbbbbbbba) (by decide) rfl ⟨eqv_i (Term.int_eval _) hnbbbbbbbbbbbbbbbbbbbbbbbbbbbbbbbbbba, ⟨eqv_i (Term.int_eval _) hnbbbbbbbbbbbbbbbbbbbbbbbbbbbbbbbbbbba, ⟨eqv_i (Term.int_eval _) hnbbbbbbbbbbbbbbbbbbbbbbbbbbbbbbbbbbbba, ⟨eqv_i (Term.int_eval _) hnbbbbbbbbbbbbbbbbbbbbbbbbbbbbbbbbbbbbba, trivial⟩⟩⟩⟩
  obtain ⟨Kg21, av_Gg15⟩ := own_arr (dv := (.int 0)) (n := (8 : Int32)) (vs := [.int 114, .int 101, .int 115, .int 101, .int 114, .int 118, .int 101, .int 100]) hfit ev_Gg15 hnbbbbbbbbbbbbbbbbbbbbbbbbbbbbbbbbbbbbbbbbbbba (eqv_i (Term.int_eval _) hnbbbbbbbbbbbbbbbbbbbbbbbbbbbbbbbbbbbbbbbbbbbba) (by decide) rfl ⟨eqv_i (Term.int_eval _) hnbbbbbbbbbbbbbbbbbbbbbbbbbbbbbbbbbbbbbbbbbbbbbbbba, ⟨eqv_i (Term.int_eval _) hnbbbbbbbbbbbbbbbbbbbbbbbbbbbbbbbbbbbbbbbbbbbbbbbbba, ⟨eqv_i (Term.int_eval _) hnbbbbbbbbbbbbbbbbbbbbbbbbbbbbbbbbbbbbbbbbbbbbbbbbbba, ⟨eqv_i (Term.int_eval _) hnbbbbbbbbbbbbbbbbbbbbbbbbbbbbbbbbbbbbbbbbbbbbbbbbbbba, ⟨eqv_i (Term.int_eval _) hnbbbbbbbbbbbbbbbbbbbbbbbbbbbbbbbbbbbbbbbbbbbbbbbbbbbba, ⟨eqv_i (Term.int_eval _) hnbbbbbbbbbbbbbbbbbbbbbbbbbbbbbbbbbbbbbbbbbbbbbbbbbbbbba, ⟨eqv_i (Term.int_eval _) hnbbbbbbbbbbbbbbbbbbbbbbbbbbbbbbbbbbbbbbbbbbbbbbbbbbbbbba, ⟨eqv_i (Term.int_eval _) hnbbbbbbbbbbbbbbbbbbbbbbbbbbbbbbbbbbbbbbbbbbbbbbbbbbbbbbb, trivial⟩⟩⟩⟩⟩⟩⟩⟩
  have hEN : OwnEN s Gg0 Gg1 Gg2 Gg3 Gg4 Gg5 Gg6 Gg7 Gg8 Gg9 Gg10 Gg11 Gg12 Gg13 Gg14 Gg15 Kg16 Kg17 Kg18 Kg19 Kg20 Kg21 := ⟨Sta.start ev_Gg0 (Or.inr ⟨(w71_ hw), (w72_ hw)⟩), Exa.start ev_Gg0 hna, Sta.start ev_Gg1 (Or.inl (w92_ hw)), Exa.start ev_Gg1 hnbba, Sta.start ev_Gg2 (Or.inr ⟨(w71_ hw), (w88_ hw)⟩), Exa.start ev_Gg2 hnbbbbba, Sta.start ev_Gg3 (Or.inr ⟨(w71_ hw), (w89_ hw)⟩), Exa.start ev_Gg3 hnbbbbbbba, Sta.start ev_Gg4 (Or.inr ⟨(w71_ hw), (w90_ hw)⟩), Exa.start ev_Gg4 hnbbbbbbbbba, Sta.start ev_Gg5 (Or.inr ⟨(w71_ hw), (w91_ hw)⟩), Exa.start ev_Gg5 hnbbbbbbbbbbba, Fld.start ((fld_at ev_Gg0).symm.trans ev_Gg6), Exa.start ev_Gg6 hnbbbbbbbbbbbbba, Fld.start ((fld_at ev_Gg2).symm.trans ev_Gg7), Exa.start ev_Gg7 hnbbbbbbbbbbbbbbbbbbbba, Fld.start ((fld_at ev_Gg3).symm.trans ev_Gg8), Exa.start ev_Gg8 hnbbbbbbbbbbbbbbbbbbbbbbbbba, Fld.start ((fld_at ev_Gg4).symm.trans ev_Gg9), Exa.start ev_Gg9 hnbbbbbbbbbbbbbbbbbbbbbbbbbbbbbba, Fld.start ((fld_at ev_Gg5).symm.trans ev_Gg10), Exa.start ev_Gg10 hnbbbbbbbbbbbbbbbbbbbbbbbbbbbbbbbbbbbbbbbbba, Fld.start ((fld_at ev_Gg6).symm.trans ev_Gg11), Fld.start ((fld_at ev_Gg7).symm.trans ev_Gg12), Fld.start ((fld_at ev_Gg8).symm.trans ev_Gg13), Fld.start ((fld_at ev_Gg9).symm.trans ev_Gg14), Fld.start ((fld_at ev_Gg10).symm.trans ev_Gg15), Fld.start ((fld_at ev_Gg6).symm.trans (eqv_i (Term.int_eval _) hnbbbbbbbbbbbbbba)), Fld.start ((fld_at ev_Gg7).symm.trans (eqv_i (Term.int_eval _) hnbbbbbbbbbbbbbbbbbbbbba)), Fld.start ((fld_at ev_Gg8).symm.trans (eqv_i (Term.int_eval _) hnbbbbbbbbbbbbbbbbbbbbbbbbbba)), Fld.start ((fld_at ev_Gg9).symm.trans (eqv_i (Term.int_eval _) hnbbbbbbbbbbbbbbbbbbbbbbbbbbbbbbba)), Fld.start ((fld_at ev_Gg10).symm.trans (eqv_i (Term.int_eval _) hnbbbbbbbbbbbbbbbbbbbbbbbbbbbbbbbbbbbbbbbbbba)), av_Gg1, av_Gg11, av_Gg12, av_Gg13, av_Gg14, av_Gg15⟩
  obtain ⟨G3, eSF, rG3⟩ := isR_v (Cond.before_iff.mp (hsets _ (mI 8 rfl)))
  have O4 : Sta s s.heap "jdk/internal/util/Preconditions" "SIOOBE_FORMATTER" "Ljava/util/function/BiFunction;" G3 := Sta.start eSF (Or.inl (hsets _ (mI 7 rfl)))
  have hCH : CHv s consts_1 s.vm s.heap := CHv.start (own_EW hw) (fun p hp => hcalls.1 p hp) (hsets _ (mI 2 rfl)) (w24_ hw) (w7_ hw)
  obtain ⟨n, o, h1, h2, h3, _, L, rfl, ⟨rfl, N⟩, -, hq⟩ := rm0 l s _ hw tables_1 G1 Gg0 Gg1 Gg2 Gg3 Gg4 Gg5 Gg6 Gg7 Gg8 Gg9 Gg10 Gg11 Gg12 Gg13 Gg14 Gg15 Kg16 Kg17 Kg18 Kg19 Kg20 Kg21 G3 i1 i2 i3 i4 i5 s.heap s.heap.size (Old.start s) O2 P5 hEN O4 rG3 p e ha hc hk s m _ below hf ((Spec.applies_iff_loose hf).mp happ).1 ⟨rfl, State.Warmed39.refl s, rfl, hCH⟩ trivial
  refine ⟨n, _, h1, h2, h3, hpost _ _ _ _ _ _ ⟨Cond.after_iff.mpr rfl, Cond.after_iff.mpr (eq_i res_at (Term.int_eval (1)) rfl), trivial⟩ ⟨hq.1, hq.2.1, hq.2.2.1, (hq.2.2.2.sift fun y hy => Or.inr (N y hy)).mono (by decide) (by decide)⟩⟩
theorem main_1_1 : Claimed_1_1 := comes_1 fun _ _ _ _ _ _ h hF => ⟨h.1, hF⟩
theorem main_1_2 : Claimed_1_2 := comes_1 fun _ _ _ _ _ _ h hF => ⟨h.2.1, hF⟩
end Jvm.Pilot.@@N@@
namespace Jvm.Pilot.@@N@@
open Jvm Jvm.ClassFile Sem Op Lib Jvm.Free Jvm.Stand Jvm.Pilot.@@N@@.Jvm.D
/-! MADE BY PROGRAM (witnessworld.py) out of the Statement's table words and the real class files: 22 classes; the members and pool entries that the words name. The judged class is class 1, her method 1. -/
namespace start1
open Jvm.ClassFile
def u (s : String) : CpInfo := .utf8 (stringToUtf16 s)
/-- a pool by its gaps: so many unusable entries, then the entry; so many at the end -/
def gap : Nat → List CpInfo → List CpInfo
  | 0, r => r
  | n + 1, r => .unusable :: gap n r
def poolList (es : List (Nat × CpInfo)) (last : Nat) : List CpInfo := es.foldr (fun e r => gap e.1 (e.2 :: r)) (gap last [])
def pool (es : List (Nat × CpInfo)) (last : Nat) : Array CpInfo := ⟨poolList es last⟩
def fileOf (pool : Array CpInfo) (this : Nat) (attrs : Array Attribute := #[]) (ms : Array MethodInfo := #[]) (fl : Nat := 33) (sup : Nat := 0) (ifs : Array Nat := #[]) (fds : Array FieldInfo := #[]) : ClassFile where
  minorVersion := 0
  majorVersion := 65
  constantPool := pool
  accessFlags := fl
  thisClass := this
  superClass := sup
  interfaces := ifs
  fields := fds
  methods := ms
  attributes := attrs
def plain (name : String) (sup : Option ClassId) : Class where
  name := name
  kind := .ordinary
  loader := none
  accessFlags := 33
  super := sup
  interfaces := #[]
  cf := none
  fields := #[]
  methods := #[]
  instanceTypes := #[]
  staticTypes := #[]
  resolved := #[]
  callSites := []
  init := .initialized
  statics := none
  mirror := none

def pool0 : Array CpInfo := pool [(5, u "<init>"), (0, u "()V"), (1, .class_ 10), (1, u "java/lang/Object"), (85, u "clone"), (0, u "()Ljava/lang/Object;")] 26

def k0c0 : Code := { maxStack := 0, maxLocals := 1, code := object_method_1_code, exceptionTable := #[], attributes := #[] }
def k0m0 : Method := { name := "<init>", desc := "()V", sig := { parameters := [], returnType := none }, accessFlags := 1, code := some k0c0 }
def k0m1 : Method := { name := "clone", desc := "()Ljava/lang/Object;", sig := { parameters := [], returnType := some (.object "java/lang/Object") }, accessFlags := 260, code := none }
/-- java/lang/Object -/
def k0 : Class := { plain "java/lang/Object" none with
  accessFlags := 33
  interfaces := #[]
  cf := some (fileOf pool0 8 #[] #[⟨1, 5, 6, #[]⟩, ⟨260, 96, 97, #[]⟩] 33 0 #[] #[])
  fields := #[]
  methods := #[k0m0, k0m1]
  instanceTypes := #[]
  staticTypes := #[]
  resolved := Array.replicate 124 none
  statics := none }

def pool1 : Array CpInfo := pool [(2, .class_ 4), (1, u "java/lang/Object"), (0, u "<init>"), (0, u "()V"), (0, .integer 2147483647), (0, .methodref 9 10), (0, .class_ 11), (0, .nameAndType 12 13), (0, u "com/example/hearthline/hearthline/session/SpecialValueOfPinLaw"), (0, u "str"), (0, u "([CI)Ljava/lang/String;"), (0, .methodref 9 15), (0, .nameAndType 16 17), (0, u "ref"), (0, u "(Ljava/lang/String;)Lcom/example/hearthline/hearthline/session/Session$Measurement$SpecialValue;"), (0, .methodref 19 20), (0, .class_ 21), (0, .nameAndType 22 17), (0, u "com/example/hearthline/hearthline/session/Session$Measurement$SpecialValue"), (0, u "of"), (0, .class_ 24), (0, u "java/lang/String"), (0, .methodref 23 26), (0, .nameAndType 5 27), (0, u "([C)V"), (0, .methodref 23 29), (0, .nameAndType 30 31), (0, u "length"), (0, u "()I"), (0, .methodref 23 33), (0, .nameAndType 34 35), (0, u "charAt"), (0, u "(I)C"), (0, .fieldref 19 37), (0, .nameAndType 38 39), (0, u "NAN"), (0, u "Lcom/example/hearthline/hearthline/session/Session$Measurement$SpecialValue;"), (0, .fieldref 19 41), (0, .nameAndType 42 39), (0, u "POSITIVE_INFINITY"), (0, .fieldref 19 44), (0, .nameAndType 45 39), (0, u "NEGATIVE_INFINITY"), (0, .fieldref 19 47), (0, .nameAndType 48 39), (0, u "NRES"), (0, .fieldref 19 50), (0, .nameAndType 51 39), (0, u "RESERVED"), (2, u "law"), (0, u "(IIIII)Z")] 12

def k1m0 : Method := { name := "<init>", desc := "()V", sig := { parameters := [], returnType := none }, accessFlags := 1, code := none }
def k1c1 : Code := { maxStack := 4, maxLocals := 11, code := code, exceptionTable := #[], attributes := #[] }
def k1m1 : Method := { name := "law", desc := "(IIIII)Z", sig := { parameters := [.int, .int, .int, .int, .int], returnType := some .boolean }, accessFlags := 9, code := some k1c1 }
def k1c2 : Code := { maxStack := 7, maxLocals := 2, code := method_3_code, exceptionTable := #[], attributes := #[] }
def k1m2 : Method := { name := "str", desc := "([CI)Ljava/lang/String;", sig := { parameters := [(.array .char), .int], returnType := some (.object "java/lang/String") }, accessFlags := 10, code := some k1c2 }
def k1c3 : Code := { maxStack := 2, maxLocals := 3, code := method_4_code, exceptionTable := #[], attributes := #[] }
def k1m3 : Method := { name := "ref", desc := "(Ljava/lang/String;)Lcom/example/hearthline/hearthline/session/Session$Measurement$SpecialValue;", sig := { parameters := [(.object "java/lang/String")], returnType := some (.object "com/example/hearthline/hearthline/session/Session$Measurement$SpecialValue") }, accessFlags := 10, code := some k1c3 }
/-- com/example/hearthline/hearthline/session/SpecialValueOfPinLaw -/
def k1 : Class := { plain "com/example/hearthline/hearthline/session/SpecialValueOfPinLaw" (some 0) with
  accessFlags := 49
  interfaces := #[]
  cf := some (fileOf pool1 9 #[] #[⟨1, 5, 6, #[]⟩, ⟨9, 54, 55, #[]⟩, ⟨10, 12, 13, #[]⟩, ⟨10, 16, 17, #[]⟩] 49 2 #[] #[])
  fields := #[]
  methods := #[k1m0, k1m1, k1m2, k1m3]
  instanceTypes := #[]
  staticTypes := #[]
  resolved := Array.replicate 68 none
  statics := none }

def pool2 : Array CpInfo := pool [(1, .class_ 2), (0, u "java/io/Serializable"), (0, .class_ 4), (0, u "java/lang/Object")] 2

/-- java/io/Serializable -/
def k2 : Class := { plain "java/io/Serializable" (some 0) with
  accessFlags := 1537
  interfaces := #[]
  cf := some (fileOf pool2 1 #[] #[] 1537 3 #[] #[])
  fields := #[]
  methods := #[]
  instanceTypes := #[]
  staticTypes := #[]
  resolved := Array.replicate 7 none
  statics := none }

def pool3 : Array CpInfo := pool [(1, .class_ 2), (0, u "java/lang/Comparable"), (0, .class_ 4), (0, u "java/lang/Object")] 7

/-- java/lang/Comparable -/
def k3 : Class := { plain "java/lang/Comparable" (some 0) with
  accessFlags := 1537
  interfaces := #[]
  cf := some (fileOf pool3 1 #[] #[] 1537 3 #[] #[])
  fields := #[]
  methods := #[]
  instanceTypes := #[]
  staticTypes := #[]
  resolved := Array.replicate 12 none
  statics := none }

def pool4 : Array CpInfo := pool [(2, .class_ 4), (1, u "java/lang/CharSequence"), (42, .class_ 48), (0, u "java/lang/CharSequence$1CodePointIterator"), (10, .class_ 60), (0, u "java/lang/CharSequence$1CharIterator"), (5, .class_ 67), (0, u "java/lang/Object")] 63

/-- java/lang/CharSequence -/
def k4 : Class := { plain "java/lang/CharSequence" (some 0) with
  accessFlags := 1537
  interfaces := #[]
  cf := some (fileOf pool4 2 #[.nestMembers #[47, 59]] #[] 1537 66 #[] #[])
  fields := #[]
  methods := #[]
  instanceTypes := #[]
  staticTypes := #[]
  resolved := Array.replicate 131 none
  statics := none }

def pool5 : Array CpInfo := pool [(1, .class_ 2), (0, u "java/lang/constant/Constable"), (0, .class_ 4), (0, u "java/lang/Object")] 6

/-- java/lang/constant/Constable -/
def k5 : Class := { plain "java/lang/constant/Constable" (some 0) with
  accessFlags := 1537
  interfaces := #[]
  cf := some (fileOf pool5 1 #[] #[] 1537 3 #[] #[])
  fields := #[]
  methods := #[]
  instanceTypes := #[]
  staticTypes := #[]
  resolved := Array.replicate 11 none
  statics := none }

def pool6 : Array CpInfo := pool [(1, .class_ 2), (0, u "java/lang/constant/ConstantDesc"), (0, .class_ 4), (0, u "java/lang/Object")] 32

/-- java/lang/constant/ConstantDesc -/
def k6 : Class := { plain "java/lang/constant/ConstantDesc" (some 0) with
  accessFlags := 1537
  interfaces := #[]
  cf := some (fileOf pool6 1 #[] #[] 1537 3 #[] #[])
  fields := #[]
  methods := #[]
  instanceTypes := #[]
  staticTypes := #[]
  resolved := Array.replicate 37 none
  statics := none }

def pool7 : Array CpInfo := pool [(1, .methodref 2 3), (0, .class_ 4), (0, .nameAndType 5 6), (0, u "java/lang/Object"), (0, u "<init>"), (0, u "()V"), (0, .string 8), (0, u ""), (0, .fieldref 10 11), (0, .class_ 12), (0, .nameAndType 13 14), (0, u "java/lang/String"), (0, u "value"), (0, u "[B"), (0, .fieldref 10 16), (0, .nameAndType 17 18), (0, u "coder"), (0, u "B"), (2, u "hash"), (0, u "I"), (2, u "hashIsZero"), (0, u "Z"), (0, .methodref 10 28), (0, .nameAndType 5 29), (0, u "([CIILjava/lang/Void;)V"), (8, .fieldref 10 39), (0, .nameAndType 40 26), (0, u "COMPACT_STRINGS"), (1, .class_ 44), (1, u "java/lang/StringUTF16"), (0, u "compress"), (1, .methodref 42 48), (0, .nameAndType 49 50), (0, u "coderFromArrayLen"), (0, u "([BI)B"), (56, .class_ 109), (1, u "java/lang/StringLatin1"), (32, u "()Z"), (34, .methodref 42 178), (0, .nameAndType 45 179), (0, u "([CII)[B"), (154, u "()I"), (0, .methodref 10 336), (0, .nameAndType 17 337), (0, u "()B"), (25, u "([BI)C"), (27, u "(II)V"), (35, u "(I)C"), (64, .methodref 10 493), (0, .nameAndType 494 142), (0, u "isLatin1"), (0, .methodref 107 496), (0, .nameAndType 497 363), (0, u "charAt"), (3, u "checkIndex"), (5, u "length"), (33, .methodref 107 542), (0, .nameAndType 543 544), (0, u "equals"), (0, u "([B[B)Z"), (28, u "(Ljava/lang/Object;)Z"), (1, .class_ 576), (0, u "java/lang/CharSequence"), (22, u "CASE_INSENSITIVE_ORDER"), (0, u "Ljava/util/Comparator;"), (409, u "([C)V"), (42, .fieldref 1054 1055), (0, .class_ 1056), (0, .nameAndType 1057 1058), (0, u "jdk/internal/util/Preconditions"), (0, u "SIOOBE_FORMATTER"), (0, u "Ljava/util/function/BiFunction;"), (0, .methodref 1054 1060), (0, .nameAndType 501 1061), (0, u "(IILjava/util/function/BiFunction;)I"), (39, u "serialPersistentFields"), (0, u "[Ljava/io/ObjectStreamField;"), (0, .class_ 1104), (0, u "java/lang/String$CaseInsensitiveComparator"), (1, .class_ 1107), (0, u "java/io/Serializable"), (0, .class_ 1109), (0, u "java/lang/Comparable"), (0, .class_ 1111), (0, u "java/lang/constant/Constable"), (0, .class_ 1113), (0, u "java/lang/constant/ConstantDesc"), (2, u "serialVersionUID"), (0, u "J"), (3, u "REPL"), (0, u "C"), (2, u "LATIN1"), (1, u "UTF16")] 323

def k7m0 : Method := { name := "<init>", desc := "()V", sig := { parameters := [], returnType := none }, accessFlags := 1, code := none }
def k7c1 : Code := { maxStack := 5, maxLocals := 2, code := jdk_42_method_3_code, exceptionTable := #[], attributes := #[] }
def k7m1 : Method := { name := "<init>", desc := "([C)V", sig := { parameters := [(.array .char)], returnType := none }, accessFlags := 1, code := some k7c1 }
def k7c2 : Code := { maxStack := 2, maxLocals := 1, code := jdk_42_method_54_code, exceptionTable := #[], attributes := #[] }
def k7m2 : Method := { name := "length", desc := "()I", sig := { parameters := [], returnType := some .int }, accessFlags := 1, code := some k7c2 }
def k7c3 : Code := { maxStack := 2, maxLocals := 2, code := jdk_42_method_56_code, exceptionTable := #[], attributes := #[] }
def k7m3 : Method := { name := "charAt", desc := "(I)C", sig := { parameters := [.int], returnType := some .char }, accessFlags := 1, code := some k7c3 }
def k7c4 : Code := { maxStack := 2, maxLocals := 3, code := jdk_42_method_66_code, exceptionTable := #[], attributes := #[] }
def k7m4 : Method := { name := "equals", desc := "(Ljava/lang/Object;)Z", sig := { parameters := [(.object "java/lang/Object")], returnType := some .boolean }, accessFlags := 1, code := some k7c4 }
def k7c5 : Code := { maxStack := 4, maxLocals := 6, code := jdk_42_method_149_code, exceptionTable := #[], attributes := #[] }
def k7m5 : Method := { name := "<init>", desc := "([CIILjava/lang/Void;)V", sig := { parameters := [(.array .char), .int, .int, (.object "java/lang/Void")], returnType := none }, accessFlags := 2, code := some k7c5 }
def k7c6 : Code := { maxStack := 1, maxLocals := 1, code := jdk_42_method_152_code, exceptionTable := #[], attributes := #[] }
def k7m6 : Method := { name := "coder", desc := "()B", sig := { parameters := [], returnType := some .byte }, accessFlags := 0, code := some k7c6 }
def k7c7 : Code := { maxStack := 1, maxLocals := 1, code := jdk_42_method_154_code, exceptionTable := #[], attributes := #[] }
def k7m7 : Method := { name := "isLatin1", desc := "()Z", sig := { parameters := [], returnType := some .boolean }, accessFlags := 0, code := some k7c7 }
def k7c8 : Code := { maxStack := 3, maxLocals := 2, code := jdk_42_method_155_code, exceptionTable := #[], attributes := #[] }
def k7m8 : Method := { name := "checkIndex", desc := "(II)V", sig := { parameters := [.int, .int], returnType := none }, accessFlags := 8, code := some k7c8 }
/-- java/lang/String -/
def k7 : Class := { plain "java/lang/String" (some 0) with
  accessFlags := 49
  interfaces := #[2, 3, 4, 5, 6]
  cf := some (fileOf pool7 10 #[.nestMembers #[1103]] #[⟨1, 5, 6, #[]⟩, ⟨1, 5, 1010, #[]⟩, ⟨1, 507, 334, #[]⟩, ⟨1, 497, 427, #[]⟩, ⟨1, 543, 573, #[]⟩, ⟨2, 5, 29, #[]⟩, ⟨0, 17, 337, #[]⟩, ⟨0, 494, 142, #[]⟩, ⟨8, 501, 391, #[]⟩] 49 2 #[1106, 1108, 575, 1110, 1112] #[⟨18, 13, 14, #[]⟩, ⟨18, 17, 18, #[]⟩, ⟨2, 21, 22, #[]⟩, ⟨2, 25, 26, #[]⟩, ⟨26, 1116, 1117, #[]⟩, ⟨24, 40, 26, #[]⟩, ⟨26, 1101, 1102, #[]⟩, ⟨26, 1121, 1122, #[]⟩, ⟨25, 599, 600, #[]⟩, ⟨24, 1125, 18, #[]⟩, ⟨24, 1127, 18, #[]⟩])
  fields := #[⟨"value", (.array .byte), 18, 0, 0⟩, ⟨"coder", .byte, 18, 1, 0⟩, ⟨"hash", .int, 2, 2, 0⟩, ⟨"hashIsZero", .boolean, 2, 3, 0⟩, ⟨"serialVersionUID", .long, 26, 0, 0⟩, ⟨"COMPACT_STRINGS", .boolean, 24, 1, 0⟩, ⟨"serialPersistentFields", (.array (.object "java/io/ObjectStreamField")), 26, 2, 0⟩, ⟨"REPL", .char, 26, 3, 0⟩, ⟨"CASE_INSENSITIVE_ORDER", (.object "java/util/Comparator"), 25, 4, 0⟩, ⟨"LATIN1", .byte, 24, 5, 0⟩, ⟨"UTF16", .byte, 24, 6, 0⟩]
  methods := #[k7m0, k7m1, k7m2, k7m3, k7m4, k7m5, k7m6, k7m7, k7m8]
  instanceTypes := #[(.array .byte), .byte, .int, .boolean]
  staticTypes := #[.long, .boolean, (.array (.object "java/io/ObjectStreamField")), .char, (.object "java/util/Comparator"), .byte, .byte]
  resolved := Array.replicate 1451 none
  statics := some 0 }

def pool8 : Array CpInfo := pool [(6, .class_ 8), (1, u "java/lang/Object"), (0, u "<init>"), (0, u "()V"), (1, .class_ 14), (1, u "java/lang/StringUTF16"), (31, u "$assertionsDisabled"), (0, u "Z"), (13, u "HI_BYTE_SHIFT"), (0, u "I"), (2, u "LO_BYTE_SHIFT"), (49, .methodref 12 116), (0, .nameAndType 117 118), (0, u "compress"), (0, u "([CI[BII)I"), (3, u "([CII)[B"), (138, u "coderFromArrayLen"), (0, u "([BI)B"), (106, .class_ 371), (1, u "java/lang/StringUTF16$LinesSpliterator"), (58, u "MAX_LENGTH"), (196, .class_ 628), (0, u "java/lang/StringUTF16$CodePointsSpliterator"), (0, .class_ 630), (0, u "java/lang/StringUTF16$CharsSpliterator")] 4

def k8m0 : Method := { name := "<init>", desc := "()V", sig := { parameters := [], returnType := none }, accessFlags := 0, code := none }
def k8c1 : Code := { maxStack := 2, maxLocals := 2, code := jdk_52_method_15_code, exceptionTable := #[], attributes := #[] }
def k8m1 : Method := { name := "coderFromArrayLen", desc := "([BI)B", sig := { parameters := [(.array .byte), .int], returnType := some .byte }, accessFlags := 8, code := some k8c1 }
def k8c2 : Code := { maxStack := 5, maxLocals := 6, code := jdk_52_method_16_code, exceptionTable := #[], attributes := #[] }
def k8m2 : Method := { name := "compress", desc := "([CII)[B", sig := { parameters := [(.array .char), .int, .int], returnType := some (.array .byte) }, accessFlags := 9, code := some k8c2 }
def k8c3 : Code := { maxStack := 3, maxLocals := 7, code := jdk_52_method_21_code, exceptionTable := #[], attributes := #[] }
def k8m3 : Method := { name := "compress", desc := "([CI[BII)I", sig := { parameters := [(.array .char), .int, (.array .byte), .int, .int], returnType := some .int }, accessFlags := 9, code := some k8c3 }
/-- java/lang/StringUTF16 -/
def k8 : Class := { plain "java/lang/StringUTF16" (some 0) with
  accessFlags := 48
  interfaces := #[]
  cf := some (fileOf pool8 12 #[.nestMembers #[627, 629, 369]] #[⟨0, 9, 10, #[]⟩, ⟨8, 261, 262, #[]⟩, ⟨9, 117, 122, #[]⟩, ⟨9, 117, 118, #[]⟩] 48 6 #[] #[⟨26, 61, 62, #[]⟩, ⟨26, 65, 62, #[]⟩, ⟨24, 430, 62, #[]⟩, ⟨4120, 46, 47, #[]⟩])
  fields := #[⟨"HI_BYTE_SHIFT", .int, 26, 0, 0⟩, ⟨"LO_BYTE_SHIFT", .int, 26, 1, 0⟩, ⟨"MAX_LENGTH", .int, 24, 2, 0⟩, ⟨"$assertionsDisabled", .boolean, 4120, 3, 0⟩]
  methods := #[k8m0, k8m1, k8m2, k8m3]
  instanceTypes := #[]
  staticTypes := #[.int, .int, .int, .boolean]
  resolved := Array.replicate 635 none
  statics := none }

def pool9 : Array CpInfo := pool [(1, .class_ 2), (0, u "java/lang/String"), (1, .class_ 6), (1, u "java/lang/Object"), (0, u "<init>"), (0, u "()V"), (0, .methodref 1 10), (0, .nameAndType 11 12), (0, u "checkIndex"), (0, u "(II)V"), (1, .class_ 16), (1, u "java/lang/StringLatin1"), (36, u "([BI)C"), (67, u "$assertionsDisabled"), (0, u "Z"), (98, .class_ 223), (1, u "java/lang/StringLatin1$LinesSpliterator"), (28, u "charAt"), (28, u "equals"), (0, u "([B[B)Z"), (107, .class_ 391), (0, u "java/lang/StringLatin1$CharsSpliterator")] 3

def k9m0 : Method := { name := "<init>", desc := "()V", sig := { parameters := [], returnType := none }, accessFlags := 0, code := none }
def k9c1 : Code := { maxStack := 2, maxLocals := 2, code := jdk_43_method_2_code, exceptionTable := #[], attributes := #[] }
def k9m1 : Method := { name := "charAt", desc := "([BI)C", sig := { parameters := [(.array .byte), .int], returnType := some .char }, accessFlags := 9, code := some k9c1 }
def k9c2 : Code := { maxStack := 3, maxLocals := 3, code := jdk_43_method_13_code, exceptionTable := #[], attributes := #[] }
def k9m2 : Method := { name := "equals", desc := "([B[B)Z", sig := { parameters := [(.array .byte), (.array .byte)], returnType := some .boolean }, accessFlags := 9, code := some k9c2 }
/-- java/lang/StringLatin1 -/
def k9 : Class := { plain "java/lang/StringLatin1" (some 0) with
  accessFlags := 48
  interfaces := #[]
  cf := some (fileOf pool9 14 #[.nestMembers #[390, 221]] #[⟨0, 7, 8, #[]⟩, ⟨9, 252, 53, #[]⟩, ⟨9, 281, 282, #[]⟩] 48 4 #[] #[⟨4120, 121, 122, #[]⟩])
  fields := #[⟨"$assertionsDisabled", .boolean, 4120, 0, 0⟩]
  methods := #[k9m0, k9m1, k9m2]
  instanceTypes := #[]
  staticTypes := #[.boolean]
  resolved := Array.replicate 395 none
  statics := none }

def pool10 : Array CpInfo := pool [(2, .class_ 4), (1, u "java/lang/Object"), (0, u "<init>"), (0, u "()V"), (17, .class_ 26), (1, u "jdk/internal/util/Preconditions"), (6, u "checkIndex"), (21, .class_ 56), (0, u "jdk/internal/util/Preconditions$4"), (57, .class_ 115), (0, u "jdk/internal/util/Preconditions$1"), (7, u "SIOOBE_FORMATTER"), (0, u "Ljava/util/function/BiFunction;"), (0, .class_ 126), (0, u "jdk/internal/util/Preconditions$2"), (3, u "AIOOBE_FORMATTER"), (0, .class_ 132), (0, u "jdk/internal/util/Preconditions$3"), (3, u "IOOBE_FORMATTER"), (41, u "(IILjava/util/function/BiFunction;)I")] 15

def k10m0 : Method := { name := "<init>", desc := "()V", sig := { parameters := [], returnType := none }, accessFlags := 1, code := none }
def k10c1 : Code := { maxStack := 3, maxLocals := 3, code := jdk_41_method_11_code, exceptionTable := #[], attributes := #[] }
def k10m1 : Method := { name := "checkIndex", desc := "(IILjava/util/function/BiFunction;)I", sig := { parameters := [.int, .int, (.object "java/util/function/BiFunction")], returnType := some .int }, accessFlags := 9, code := some k10c1 }
/-- jdk/internal/util/Preconditions -/
def k10 : Class := { plain "jdk/internal/util/Preconditions" (some 0) with
  accessFlags := 33
  interfaces := #[]
  cf := some (fileOf pool10 24 #[.nestMembers #[55, 131, 125, 114]] #[⟨1, 5, 6, #[]⟩, ⟨9, 33, 178, #[]⟩] 33 2 #[] #[⟨25, 123, 124, #[]⟩, ⟨25, 130, 124, #[]⟩, ⟨25, 136, 124, #[]⟩])
  fields := #[⟨"SIOOBE_FORMATTER", (.object "java/util/function/BiFunction"), 25, 0, 0⟩, ⟨"AIOOBE_FORMATTER", (.object "java/util/function/BiFunction"), 25, 1, 0⟩, ⟨"IOOBE_FORMATTER", (.object "java/util/function/BiFunction"), 25, 2, 0⟩]
  methods := #[k10m0, k10m1]
  instanceTypes := #[]
  staticTypes := #[(.object "java/util/function/BiFunction"), (.object "java/util/function/BiFunction"), (.object "java/util/function/BiFunction")]
  resolved := Array.replicate 194 none
  statics := some 1 }

def pool11 : Array CpInfo := pool [(2, .class_ 4), (1, u "java/lang/Enum"), (0, u "name"), (0, u "Ljava/lang/String;"), (2, u "ordinal"), (0, u "I"), (1, .class_ 14), (1, u "java/lang/Object"), (4, u "hash"), (86, .class_ 108), (1, u "java/lang/Enum$EnumDesc"), (2, .class_ 112), (0, u "java/lang/constant/Constable"), (0, .class_ 114), (0, u "java/lang/Comparable"), (0, .class_ 116), (0, u "java/io/Serializable")] 87

/-- java/lang/Enum -/
def k11 : Class := { plain "java/lang/Enum" (some 0) with
  accessFlags := 1057
  interfaces := #[5, 3, 2]
  cf := some (fileOf pool11 2 #[.nestMembers #[106]] #[] 1057 12 #[111, 113, 115] #[⟨18, 5, 6, #[]⟩, ⟨18, 9, 10, #[]⟩, ⟨2, 19, 10, #[]⟩])
  fields := #[⟨"name", (.object "java/lang/String"), 18, 0, 0⟩, ⟨"ordinal", .int, 18, 1, 0⟩, ⟨"hash", .int, 2, 2, 0⟩]
  methods := #[]
  instanceTypes := #[(.object "java/lang/String"), .int, .int]
  staticTypes := #[]
  resolved := Array.replicate 204 none
  statics := none }

def pool12 : Array CpInfo := pool [(1, .class_ 2), (0, u "com/example/hearthline/hearthline/session/Session$Measurement$SpecialValue"), (2, u "NAN"), (0, u "Lcom/example/hearthline/hearthline/session/Session$Measurement$SpecialValue;"), (2, u "NRES"), (2, u "POSITIVE_INFINITY"), (2, u "NEGATIVE_INFINITY"), (2, u "RESERVED"), (0, .fieldref 1 20), (0, .nameAndType 21 22), (0, u "$VALUES"), (0, u "[Lcom/example/hearthline/hearthline/session/Session$Measurement$SpecialValue;"), (0, .methodref 24 25), (0, .class_ 22), (0, .nameAndType 26 27), (0, u "clone"), (0, u "()Ljava/lang/Object;"), (1, .class_ 31), (1, u "java/lang/Enum"), (6, .fieldref 1 39), (0, .nameAndType 40 41), (0, u "text"), (0, u "Ljava/lang/String;"), (0, .methodref 1 43), (0, .nameAndType 44 45), (0, u "values"), (0, u "()[Lcom/example/hearthline/hearthline/session/Session$Measurement$SpecialValue;"), (0, .methodref 47 48), (0, .class_ 49), (0, .nameAndType 50 51), (0, u "java/lang/String"), (0, u "equals"), (0, u "(Ljava/lang/Object;)Z"), (23, u "(Ljava/lang/String;)Lcom/example/hearthline/hearthline/session/Session$Measurement$SpecialValue;"), (4, u "of"), (7, .class_ 89), (0, u "com/example/hearthline/hearthline/session/Session")] 5

def k12c0 : Code := { maxStack := 1, maxLocals := 0, code := prog_30_method_1_code, exceptionTable := #[], attributes := #[] }
def k12m0 : Method := { name := "values", desc := "()[Lcom/example/hearthline/hearthline/session/Session$Measurement$SpecialValue;", sig := { parameters := [], returnType := some (.array (.object "com/example/hearthline/hearthline/session/Session$Measurement$SpecialValue")) }, accessFlags := 9, code := some k12c0 }
def k12c1 : Code := { maxStack := 2, maxLocals := 5, code := prog_30_method_5_code, exceptionTable := #[], attributes := #[] }
def k12m1 : Method := { name := "of", desc := "(Ljava/lang/String;)Lcom/example/hearthline/hearthline/session/Session$Measurement$SpecialValue;", sig := { parameters := [(.object "java/lang/String")], returnType := some (.object "com/example/hearthline/hearthline/session/Session$Measurement$SpecialValue") }, accessFlags := 9, code := some k12c1 }
/-- com/example/hearthline/hearthline/session/Session$Measurement$SpecialValue -/
def k12 : Class := { plain "com/example/hearthline/hearthline/session/Session$Measurement$SpecialValue" (some 11) with
  accessFlags := 16433
  interfaces := #[]
  cf := some (fileOf pool12 1 #[.nestHost 88] #[⟨9, 44, 45, #[]⟩, ⟨9, 80, 75, #[]⟩] 16433 29 #[] #[⟨16409, 5, 6, #[]⟩, ⟨16409, 9, 6, #[]⟩, ⟨16409, 12, 6, #[]⟩, ⟨16409, 15, 6, #[]⟩, ⟨16409, 18, 6, #[]⟩, ⟨18, 40, 41, #[]⟩, ⟨4122, 21, 22, #[]⟩])
  fields := #[⟨"NAN", (.object "com/example/hearthline/hearthline/session/Session$Measurement$SpecialValue"), 16409, 0, 0⟩, ⟨"NRES", (.object "com/example/hearthline/hearthline/session/Session$Measurement$SpecialValue"), 16409, 1, 0⟩, ⟨"POSITIVE_INFINITY", (.object "com/example/hearthline/hearthline/session/Session$Measurement$SpecialValue"), 16409, 2, 0⟩, ⟨"NEGATIVE_INFINITY", (.object "com/example/hearthline/hearthline/session/Session$Measurement$SpecialValue"), 16409, 3, 0⟩, ⟨"RESERVED", (.object "com/example/hearthline/hearthline/session/Session$Measurement$SpecialValue"), 16409, 4, 0⟩, ⟨"text", (.object "java/lang/String"), 18, 3, 0⟩, ⟨"$VALUES", (.array (.object "com/example/hearthline/hearthline/session/Session$Measurement$SpecialValue")), 4122, 5, 0⟩]
  methods := #[k12m0, k12m1]
  instanceTypes := #[(.object "java/lang/String"), .int, .int, (.object "java/lang/String")]
  staticTypes := #[(.object "com/example/hearthline/hearthline/session/Session$Measurement$SpecialValue"), (.object "com/example/hearthline/hearthline/session/Session$Measurement$SpecialValue"), (.object "com/example/hearthline/hearthline/session/Session$Measurement$SpecialValue"), (.object "com/example/hearthline/hearthline/session/Session$Measurement$SpecialValue"), (.object "com/example/hearthline/hearthline/session/Session$Measurement$SpecialValue"), (.array (.object "com/example/hearthline/hearthline/session/Session$Measurement$SpecialValue"))]
  resolved := Array.replicate 95 none
  statics := some 2 }

def pool13 : Array CpInfo := pool [(1, .class_ 2), (0, u "java/lang/Cloneable"), (0, .class_ 4), (0, u "java/lang/Object")] 2

/-- java/lang/Cloneable -/
def k13 : Class := { plain "java/lang/Cloneable" (some 0) with
  accessFlags := 1537
  interfaces := #[]
  cf := some (fileOf pool13 1 #[] #[] 1537 3 #[] #[])
  fields := #[]
  methods := #[]
  instanceTypes := #[]
  staticTypes := #[]
  resolved := Array.replicate 7 none
  statics := none }

def pool14 : Array CpInfo := pool [(9, u "<init>"), (6, .class_ 18), (1, u "java/lang/Object"), (0, u "()V"), (1, .class_ 23), (1, u "jdk/internal/util/ArraysSupport"), (0, u "LOG2_ARRAY_LONG_INDEX_SCALE"), (0, u "I"), (2, u "U"), (0, u "Ljdk/internal/misc/Unsafe;"), (8, u "BIG_ENDIAN"), (0, u "Z"), (8, u "LOG2_BYTE_BIT_SIZE"), (4, u "LOG2_ARRAY_INT_INDEX_SCALE"), (54, u "JLA"), (0, u "Ljdk/internal/access/JavaLangAccess;"), (11, u "LOG2_ARRAY_BOOLEAN_INDEX_SCALE"), (9, u "LOG2_ARRAY_BYTE_INDEX_SCALE"), (5, u "LOG2_ARRAY_CHAR_INDEX_SCALE"), (5, u "LOG2_ARRAY_SHORT_INDEX_SCALE"), (18, u "LOG2_ARRAY_FLOAT_INDEX_SCALE"), (24, u "LOG2_ARRAY_DOUBLE_INDEX_SCALE"), (89, u "T_BOOLEAN"), (2, u "T_CHAR"), (1, u "T_FLOAT"), (1, u "T_DOUBLE"), (1, u "T_BYTE"), (1, u "T_SHORT"), (1, u "T_INT"), (1, u "T_LONG"), (1, u "SOFT_MAX_ARRAY_LENGTH")] 83

def k14m0 : Method := { name := "<init>", desc := "()V", sig := { parameters := [], returnType := none }, accessFlags := 2, code := none }
/-- jdk/internal/util/ArraysSupport -/
def k14 : Class := { plain "jdk/internal/util/ArraysSupport" (some 0) with
  accessFlags := 33
  interfaces := #[]
  cf := some (fileOf pool14 21 #[] #[⟨2, 9, 19, #[]⟩] 33 16 #[] #[⟨24, 28, 29, #[]⟩, ⟨26, 38, 39, #[]⟩, ⟨25, 121, 25, #[]⟩, ⟨25, 131, 25, #[]⟩, ⟨25, 137, 25, #[]⟩, ⟨25, 143, 25, #[]⟩, ⟨25, 53, 25, #[]⟩, ⟨25, 24, 25, #[]⟩, ⟨25, 162, 25, #[]⟩, ⟨25, 187, 25, #[]⟩, ⟨26, 48, 25, #[]⟩, ⟨25, 277, 25, #[]⟩, ⟨25, 280, 25, #[]⟩, ⟨25, 282, 25, #[]⟩, ⟨25, 284, 25, #[]⟩, ⟨25, 286, 25, #[]⟩, ⟨25, 288, 25, #[]⟩, ⟨25, 290, 25, #[]⟩, ⟨25, 292, 25, #[]⟩, ⟨26, 108, 109, #[]⟩, ⟨25, 294, 25, #[]⟩])
  fields := #[⟨"U", (.object "jdk/internal/misc/Unsafe"), 24, 0, 0⟩, ⟨"BIG_ENDIAN", .boolean, 26, 1, 0⟩, ⟨"LOG2_ARRAY_BOOLEAN_INDEX_SCALE", .int, 25, 2, 0⟩, ⟨"LOG2_ARRAY_BYTE_INDEX_SCALE", .int, 25, 3, 0⟩, ⟨"LOG2_ARRAY_CHAR_INDEX_SCALE", .int, 25, 4, 0⟩, ⟨"LOG2_ARRAY_SHORT_INDEX_SCALE", .int, 25, 5, 0⟩, ⟨"LOG2_ARRAY_INT_INDEX_SCALE", .int, 25, 6, 0⟩, ⟨"LOG2_ARRAY_LONG_INDEX_SCALE", .int, 25, 7, 0⟩, ⟨"LOG2_ARRAY_FLOAT_INDEX_SCALE", .int, 25, 8, 0⟩, ⟨"LOG2_ARRAY_DOUBLE_INDEX_SCALE", .int, 25, 9, 0⟩, ⟨"LOG2_BYTE_BIT_SIZE", .int, 26, 10, 0⟩, ⟨"T_BOOLEAN", .int, 25, 11, 0⟩, ⟨"T_CHAR", .int, 25, 12, 0⟩, ⟨"T_FLOAT", .int, 25, 13, 0⟩, ⟨"T_DOUBLE", .int, 25, 14, 0⟩, ⟨"T_BYTE", .int, 25, 15, 0⟩, ⟨"T_SHORT", .int, 25, 16, 0⟩, ⟨"T_INT", .int, 25, 17, 0⟩, ⟨"T_LONG", .int, 25, 18, 0⟩, ⟨"JLA", (.object "jdk/internal/access/JavaLangAccess"), 26, 19, 0⟩, ⟨"SOFT_MAX_ARRAY_LENGTH", .int, 25, 20, 0⟩]
  methods := #[k14m0]
  instanceTypes := #[]
  staticTypes := #[(.object "jdk/internal/misc/Unsafe"), .boolean, .int, .int, .int, .int, .int, .int, .int, .int, .int, .int, .int, .int, .int, .int, .int, .int, .int, (.object "jdk/internal/access/JavaLangAccess"), .int]
  resolved := Array.replicate 378 none
  statics := none }

/-- the primitive byte -/
def k15 : Class := { plain "byte" none with kind := .primitive 'B', accessFlags := 0x411 }
/-- [B -/
def k16 : Class := { plain "[B" (some 0) with kind := .array 15 .byte, interfaces := #[13, 2], accessFlags := 1041 }

/-- the primitive char -/
def k17 : Class := { plain "char" none with kind := .primitive 'C', accessFlags := 0x411 }
/-- [C -/
def k18 : Class := { plain "[C" (some 0) with kind := .array 17 .char, interfaces := #[13, 2], accessFlags := 1041 }

/-- the primitive int -/
def k19 : Class := { plain "int" none with kind := .primitive 'I', accessFlags := 0x411 }
/-- [I -/
def k20 : Class := { plain "[I" (some 0) with kind := .array 19 .int, interfaces := #[13, 2], accessFlags := 1041 }

/-- [Lcom/example/hearthline/hearthline/session/Session$Measurement$SpecialValue; -/
def k21 : Class := { plain "[Lcom/example/hearthline/hearthline/session/Session$Measurement$SpecialValue;" (some 0) with kind := .array 12 (.object "com/example/hearthline/hearthline/session/Session$Measurement$SpecialValue"), interfaces := #[13, 2], accessFlags := 1041 }

def heap : Heap := #[{ cls := 7, slots := #[.long 0, .int 1, .null, .int 0, .null, .int 0, .int 0], vm := .statics 7 },
  { cls := 10, slots := #[.null, .null, .null], vm := .statics 10 },
  { cls := 12, slots := #[.ref 4, .ref 5, .ref 6, .ref 7, .ref 8, .ref 3], vm := .statics 12 },
  { cls := 21, slots := #[.ref 4, .ref 5, .ref 6, .ref 7, .ref 8], vm := .none },
  { cls := 12, slots := #[.null, .int 0, .int 0, .ref 9], vm := .none },
  { cls := 12, slots := #[.null, .int 0, .int 0, .ref 10], vm := .none },
  { cls := 12, slots := #[.null, .int 0, .int 0, .ref 11], vm := .none },
  { cls := 12, slots := #[.null, .int 0, .int 0, .ref 12], vm := .none },
  { cls := 12, slots := #[.null, .int 0, .int 0, .ref 13], vm := .none },
  { cls := 7, slots := #[.ref 14, .int 0, .int 0, .int 0], vm := .none },
  { cls := 7, slots := #[.ref 15, .int 0, .int 0, .int 0], vm := .none },
  { cls := 7, slots := #[.ref 16, .int 0, .int 0, .int 0], vm := .none },
  { cls := 7, slots := #[.ref 17, .int 0, .int 0, .int 0], vm := .none },
  { cls := 7, slots := #[.ref 18, .int 0, .int 0, .int 0], vm := .none },
  { cls := 16, slots := #[.int 78, .int 97, .int 78], vm := .none },
  { cls := 16, slots := #[.int 78, .int 82, .int 101, .int 115], vm := .none },
  { cls := 16, slots := #[.int 43, .int 73, .int 78, .int 70], vm := .none },
  { cls := 16, slots := #[.int 45, .int 73, .int 78, .int 70], vm := .none },
  { cls := 16, slots := #[.int 114, .int 101, .int 115, .int 101, .int 114, .int 118, .int 101, .int 100], vm := .none }]
def classes : Array Class := #[k0, k1, k2, k3, k4, k5, k6, k7, k8, k9, k10, k11, k12, k13, k14, k15, k16, k17, k18, k19, k20, k21]
def interned : List (Array UInt16 × Addr) := []
def slotsUsed : Nat := 84
def theMethod : MethodId := ⟨1, 1⟩
def args0 : Array Value := #[.int 5, .int 6, .int 7, .int 8, .int 9]
def aboutOver (below : List Frame) : State where
  vm := { classes := classes, interned := interned.toArray }
  heap := heap
  slotsUsed := slotsUsed
  threads := #[{ frames := .invoking theMethod args0 :: below }]
def below0 : List Frame := [.native { method := ⟨0, 0⟩, args := #[] }]
def about1 : State := aboutOver below0
def p0 : Program := .bare "" "" ""
def e0 : Env := launch0.env 0 0 0
theorem w_frames : about1.frames = Frame.invoking theMethod args0 :: below0 := rfl
set_option maxRecDepth 65536 in
theorem w_args : argsFit about1.vm theMethod args0 = true := by decide +kernel
set_option maxRecDepth 65536 in
theorem w_heap : heapFits about1 = true := by decide +kernel
set_option maxRecDepth 65536 in
theorem w_runnable : about1.curStatus? = some .runnable := by decide +kernel
set_option maxRecDepth 65536 in
theorem w_alone : about1.alone = true := by decide +kernel
set_option maxRecDepth 65536 in
theorem w_named : about1.methodNamed? x = some theMethod := by decide +kernel
set_option maxRecDepth 65536 in
theorem w_hears : about1.hears theMethod below0 = true := by decide +kernel
set_option maxRecDepth 65536 in
theorem w_ripe : about1.ripe theMethod args0 below0 = true := by decide +kernel
theorem w_running : about1.status = .running := rfl
set_option maxRecDepth 65536 in
theorem w_room : about1.hasRoom e0.platform room_1 = true :=
  launch0.hasRoom_least _ room_1 (by decide +kernel) (by decide +kernel) (by decide +kernel) (by decide +kernel) (by decide +kernel) (by decide +kernel)
theorem allAtoms_all (ts : List Jvm.Cond) (a : Array Jvm.Value) (st : Jvm.State) : (allAtoms ts).before a st = ts.all (fun c => c.before a st) := by
  induction ts with
  | nil => rfl
  | cons c t ih =>
    show (Jvm.Cond.and c (allAtoms t)).before a st = _
    rw [Jvm.Cond.before_and, ih, List.all_cons]
def words1 : List Jvm.Cond := Jvm.Cond.code x code maxLocals ret :: tables_1
/-- a 'code' word, met by the world's own term for the bytes: nothing is compared byte by byte -/
theorem code_word {y : MethodName} {bytes : ByteArray} {mx : Nat} {rt : Option FieldType} {a : Array Value} {s : State} {m : MethodId} {meth : Method} {c : Code} (h1 : s.methodNamed? y = some m) (h2 : s.vm.method? m = some meth) (h3 : meth.code = some c) (h4 : c.code = bytes)
    (h5 : (c.maxLocals == mx && c.exceptionTable.isEmpty && decide (c.maxStack ≤ mostOperands) && decide (meth.sig.returnType = rt) && !meth.locks && decide (parseMethodDescriptor y.desc = some meth.sig)) = true) : (Jvm.Cond.code y bytes mx rt).before a s = true := by
  simp only [Bool.and_eq_true, beq_iff_eq, Bool.not_eq_true', decide_eq_true_eq] at h5
  obtain ⟨⟨⟨⟨⟨g1, g2⟩, g3⟩, g4⟩, g5⟩, g6⟩ := h5
  simp [Cond.before, Cond.holds, Cond.value, h1, h2, h3, h4, g1, g2, g3, g4, g5, g6]
def isCode : Jvm.Cond → Bool
  | .code _ _ _ _ => true
  | _ => false
theorem all_split {L : List Jvm.Cond} {P : Jvm.Cond → Bool} (h1 : L.all (fun c => isCode c || P c) = true) (h2 : ∀ c ∈ L.filter isCode, P c = true) : L.all P = true := by
  refine List.all_eq_true.mpr fun c hc => ?_
  have h := List.all_eq_true.mp h1 c hc
  rcases Bool.eq_false_or_eq_true (isCode c) with hi | hi
  · exact h2 c (List.mem_filter.mpr ⟨hc, hi⟩)
  · simpa [hi] using h
set_option maxRecDepth 65536 in
theorem w_c0 : (Jvm.Cond.code x code maxLocals ret).before args0 about1 = true := code_word (m := ⟨1, 1⟩) (meth := k1m1) (c := k1c1) (by decide +kernel) rfl rfl rfl (by decide +kernel)
set_option maxRecDepth 65536 in
theorem w_c1 : (Jvm.Cond.code Y2_ method_3_code (2 : Nat) (Option.some (Jvm.ClassFile.FieldType.object "java/lang/String"))).before args0 about1 = true := code_word (m := ⟨1, 2⟩) (meth := k1m2) (c := k1c2) (by decide +kernel) rfl rfl rfl (by decide +kernel)
set_option maxRecDepth 65536 in
theorem w_c2 : (Jvm.Cond.code Y1_ jdk_42_method_3_code (2 : Nat) (Option.none : Option Jvm.ClassFile.FieldType)).before args0 about1 = true := code_word (m := ⟨7, 1⟩) (meth := k7m1) (c := k7c1) (by decide +kernel) rfl rfl rfl (by decide +kernel)
set_option maxRecDepth 65536 in
theorem w_c3 : (Jvm.Cond.code Y0_ jdk_42_method_149_code (6 : Nat) (Option.none : Option Jvm.ClassFile.FieldType)).before args0 about1 = true := code_word (m := ⟨7, 5⟩) (meth := k7m5) (c := k7c5) (by decide +kernel) rfl rfl rfl (by decide +kernel)
set_option maxRecDepth 65536 in
theorem w_c4 : (Jvm.Cond.code (⟨"java/lang/Object", "<init>", "()V"⟩ : Jvm.MethodName) object_method_1_code (1 : Nat) (Option.none : Option Jvm.ClassFile.FieldType)).before args0 about1 = true := code_word (m := ⟨0, 0⟩) (meth := k0m0) (c := k0c0) (by decide +kernel) rfl rfl rfl (by decide +kernel)
set_option maxRecDepth 65536 in
theorem w_c5 : (Jvm.Cond.code (⟨"java/lang/StringUTF16", "compress", "([CII)[B"⟩ : Jvm.MethodName) jdk_52_method_16_code (6 : Nat) (Option.some (Jvm.ClassFile.FieldType.array Jvm.ClassFile.FieldType.byte))).before args0 about1 = true := code_word (m := ⟨8, 2⟩) (meth := k8m2) (c := k8c2) (by decide +kernel) rfl rfl rfl (by decide +kernel)
set_option maxRecDepth 65536 in
theorem w_c6 : (Jvm.Cond.code (⟨"java/lang/StringUTF16", "compress", "([CI[BII)I"⟩ : Jvm.MethodName) jdk_52_method_21_code (7 : Nat) (Option.some Jvm.ClassFile.FieldType.int)).before args0 about1 = true := code_word (m := ⟨8, 3⟩) (meth := k8m3) (c := k8c3) (by decide +kernel) rfl rfl rfl (by decide +kernel)
set_option maxRecDepth 65536 in
theorem w_c7 : (Jvm.Cond.code (⟨"java/lang/StringUTF16", "coderFromArrayLen", "([BI)B"⟩ : Jvm.MethodName) jdk_52_method_15_code (2 : Nat) (Option.some Jvm.ClassFile.FieldType.byte)).before args0 about1 = true := code_word (m := ⟨8, 1⟩) (meth := k8m1) (c := k8c1) (by decide +kernel) rfl rfl rfl (by decide +kernel)
set_option maxRecDepth 65536 in
theorem w_c8 : (Jvm.Cond.code Y3_ method_4_code (3 : Nat) (Option.some (Jvm.ClassFile.FieldType.object "com/example/hearthline/hearthline/session/Session$Measurement$SpecialValue"))).before args0 about1 = true := code_word (m := ⟨1, 3⟩) (meth := k1m3) (c := k1c3) (by decide +kernel) rfl rfl rfl (by decide +kernel)
set_option maxRecDepth 65536 in
theorem w_c9 : (Jvm.Cond.code Y4_ jdk_42_method_54_code (1 : Nat) (Option.some Jvm.ClassFile.FieldType.int)).before args0 about1 = true := code_word (m := ⟨7, 2⟩) (meth := k7m2) (c := k7c2) (by decide +kernel) rfl rfl rfl (by decide +kernel)
set_option maxRecDepth 65536 in
theorem w_c10 : (Jvm.Cond.code (⟨"java/lang/String", "coder", "()B"⟩ : Jvm.MethodName) jdk_42_method_152_code (1 : Nat) (Option.some Jvm.ClassFile.FieldType.byte)).before args0 about1 = true := code_word (m := ⟨7, 6⟩) (meth := k7m6) (c := k7c6) (by decide +kernel) rfl rfl rfl (by decide +kernel)
set_option maxRecDepth 65536 in
theorem w_c11 : (Jvm.Cond.code Y8_ jdk_42_method_56_code (2 : Nat) (Option.some Jvm.ClassFile.FieldType.char)).before args0 about1 = true := code_word (m := ⟨7, 3⟩) (meth := k7m3) (c := k7c3) (by decide +kernel) rfl rfl rfl (by decide +kernel)
set_option maxRecDepth 65536 in
theorem w_c12 : (Jvm.Cond.code (⟨"java/lang/String", "isLatin1", "()Z"⟩ : Jvm.MethodName) jdk_42_method_154_code (1 : Nat) (Option.some Jvm.ClassFile.FieldType.boolean)).before args0 about1 = true := code_word (m := ⟨7, 7⟩) (meth := k7m7) (c := k7c7) (by decide +kernel) rfl rfl rfl (by decide +kernel)
set_option maxRecDepth 65536 in
theorem w_c13 : (Jvm.Cond.code (⟨"java/lang/StringLatin1", "charAt", "([BI)C"⟩ : Jvm.MethodName) jdk_43_method_2_code (2 : Nat) (Option.some Jvm.ClassFile.FieldType.char)).before args0 about1 = true := code_word (m := ⟨9, 1⟩) (meth := k9m1) (c := k9c1) (by decide +kernel) rfl rfl rfl (by decide +kernel)
set_option maxRecDepth 65536 in
theorem w_c14 : (Jvm.Cond.code (⟨"java/lang/String", "checkIndex", "(II)V"⟩ : Jvm.MethodName) jdk_42_method_155_code (2 : Nat) (Option.none : Option Jvm.ClassFile.FieldType)).before args0 about1 = true := code_word (m := ⟨7, 8⟩) (meth := k7m8) (c := k7c8) (by decide +kernel) rfl rfl rfl (by decide +kernel)
set_option maxRecDepth 65536 in
theorem w_c15 : (Jvm.Cond.code (⟨"jdk/internal/util/Preconditions", "checkIndex", "(IILjava/util/function/BiFunction;)I"⟩ : Jvm.MethodName) jdk_41_method_11_code (3 : Nat) (Option.some Jvm.ClassFile.FieldType.int)).before args0 about1 = true := code_word (m := ⟨10, 1⟩) (meth := k10m1) (c := k10c1) (by decide +kernel) rfl rfl rfl (by decide +kernel)
set_option maxRecDepth 65536 in
theorem w_c16 : (Jvm.Cond.code Y6_ prog_30_method_5_code (5 : Nat) (Option.some (Jvm.ClassFile.FieldType.object "com/example/hearthline/hearthline/session/Session$Measurement$SpecialValue"))).before args0 about1 = true := code_word (m := ⟨12, 1⟩) (meth := k12m1) (c := k12c1) (by decide +kernel) rfl rfl rfl (by decide +kernel)
set_option maxRecDepth 65536 in
theorem w_c17 : (Jvm.Cond.code Y5_ prog_30_method_1_code (0 : Nat) (Option.some (Jvm.ClassFile.FieldType.array (Jvm.ClassFile.FieldType.object "com/example/hearthline/hearthline/session/Session$Measurement$SpecialValue")))).before args0 about1 = true := code_word (m := ⟨12, 0⟩) (meth := k12m0) (c := k12c0) (by decide +kernel) rfl rfl rfl (by decide +kernel)
set_option maxRecDepth 65536 in
theorem w_c18 : (Jvm.Cond.code Y7_ jdk_42_method_66_code (3 : Nat) (Option.some Jvm.ClassFile.FieldType.boolean)).before args0 about1 = true := code_word (m := ⟨7, 4⟩) (meth := k7m4) (c := k7c4) (by decide +kernel) rfl rfl rfl (by decide +kernel)
set_option maxRecDepth 65536 in
theorem w_c19 : (Jvm.Cond.code (⟨"java/lang/StringLatin1", "equals", "([B[B)Z"⟩ : Jvm.MethodName) jdk_43_method_13_code (3 : Nat) (Option.some Jvm.ClassFile.FieldType.boolean)).before args0 about1 = true := code_word (m := ⟨9, 2⟩) (meth := k9m2) (c := k9c2) (by decide +kernel) rfl rfl rfl (by decide +kernel)
def codes1 : List Jvm.Cond := [Jvm.Cond.code x code maxLocals ret, Jvm.Cond.code Y2_ method_3_code (2 : Nat) (Option.some (Jvm.ClassFile.FieldType.object "java/lang/String")), Jvm.Cond.code Y1_ jdk_42_method_3_code (2 : Nat) (Option.none : Option Jvm.ClassFile.FieldType), Jvm.Cond.code Y0_ jdk_42_method_149_code (6 : Nat) (Option.none : Option Jvm.ClassFile.FieldType), Jvm.Cond.code (⟨"java/lang/Object", "<init>", "()V"⟩ : Jvm.MethodName) object_method_1_code (1 : Nat) (Option.none : Option Jvm.ClassFile.FieldType), Jvm.Cond.code (⟨"java/lang/StringUTF16", "compress", "([CII)[B"⟩ : Jvm.MethodName) jdk_52_method_16_code (6 : Nat) (Option.some (Jvm.ClassFile.FieldType.array Jvm.ClassFile.FieldType.byte)), Jvm.Cond.code (⟨"java/lang/StringUTF16", "compress", "([CI[BII)I"⟩ : Jvm.MethodName) jdk_52_method_21_code (7 : Nat) (Option.some Jvm.ClassFile.FieldType.int), Jvm.Cond.code (⟨"java/lang/StringUTF16", "coderFromArrayLen", "([BI)B"⟩ : Jvm.MethodName) jdk_52_method_15_code (2 : Nat) (Option.some Jvm.ClassFile.FieldType.byte), Jvm.Cond.code Y3_ method_4_code (3 : Nat) (Option.some (Jvm.ClassFile.FieldType.object "com/example/hearthline/hearthline/session/Session$Measurement$SpecialValue")), Jvm.Cond.code Y4_ jdk_42_method_54_code (1 : Nat) (Option.some Jvm.ClassFile.FieldType.int), Jvm.Cond.code (⟨"java/lang/String", "coder", "()B"⟩ : Jvm.MethodName) jdk_42_method_152_code (1 : Nat) (Option.some Jvm.ClassFile.FieldType.byte), Jvm.Cond.code Y8_ jdk_42_method_56_code (2 : Nat) (Option.some Jvm.ClassFile.FieldType.char), Jvm.Cond.code (⟨"java/lang/String", "isLatin1", "()Z"⟩ : Jvm.MethodName) jdk_42_method_154_code (1 : Nat) (Option.some Jvm.ClassFile.FieldType.boolean), Jvm.Cond.code (⟨"java/lang/StringLatin1", "charAt", "([BI)C"⟩ : Jvm.MethodName) jdk_43_method_2_code (2 : Nat) (Option.some Jvm.ClassFile.FieldType.char), Jvm.Cond.code (⟨"java/lang/String", "checkIndex", "(II)V"⟩ : Jvm.MethodName) jdk_42_method_155_code (2 : Nat) (Option.none : Option Jvm.ClassFile.FieldType), Jvm.Cond.code (⟨"jdk/internal/util/Preconditions", "checkIndex", "(IILjava/util/function/BiFunction;)I"⟩ : Jvm.MethodName) jdk_41_method_11_code (3 : Nat) (Option.some Jvm.ClassFile.FieldType.int), Jvm.Cond.code Y6_ prog_30_method_5_code (5 : Nat) (Option.some (Jvm.ClassFile.FieldType.object "com/example/hearthline/hearthline/session/Session$Measurement$SpecialValue")), Jvm.Cond.code Y5_ prog_30_method_1_code (0 : Nat) (Option.some (Jvm.ClassFile.FieldType.array (Jvm.ClassFile.FieldType.object "com/example/hearthline/hearthline/session/Session$Measurement$SpecialValue"))), Jvm.Cond.code Y7_ jdk_42_method_66_code (3 : Nat) (Option.some Jvm.ClassFile.FieldType.boolean), Jvm.Cond.code (⟨"java/lang/StringLatin1", "equals", "([B[B)Z"⟩ : Jvm.MethodName) jdk_43_method_13_code (3 : Nat) (Option.some Jvm.ClassFile.FieldType.boolean)]
set_option maxRecDepth 65536 in
theorem codes_eq : words1.filter isCode = codes1 := rfl
theorem w_codes : ∀ c ∈ words1.filter isCode, c.before args0 about1 = true := by
  rw [codes_eq]
  intro c hc
  simp only [codes1, List.mem_cons, List.not_mem_nil, or_false] at hc
  rcases hc with rfl | rfl | rfl | rfl | rfl | rfl | rfl | rfl | rfl | rfl | rfl | rfl | rfl | rfl | rfl | rfl | rfl | rfl | rfl | rfl
  · exact w_c0
  · exact w_c1
  · exact w_c2
  · exact w_c3
  · exact w_c4
  · exact w_c5
  · exact w_c6
  · exact w_c7
  · exact w_c8
  · exact w_c9
  · exact w_c10
  · exact w_c11
  · exact w_c12
  · exact w_c13
  · exact w_c14
  · exact w_c15
  · exact w_c16
  · exact w_c17
  · exact w_c18
  · exact w_c19
set_option maxRecDepth 65536 in
theorem w_t1 : (words1.take 24).all (fun c => isCode c || c.before args0 about1) = true := by decide +kernel
set_option maxRecDepth 65536 in
theorem w_t2 : ((words1.drop 24).take 24).all (fun c => isCode c || c.before args0 about1) = true := by decide +kernel
set_option maxRecDepth 65536 in
theorem w_t3 : (((words1.drop 24).drop 24).take 24).all (fun c => isCode c || c.before args0 about1) = true := by decide +kernel
set_option maxRecDepth 65536 in
theorem w_t4 : ((((words1.drop 24).drop 24).drop 24).take 24).all (fun c => isCode c || c.before args0 about1) = true := by decide +kernel
set_option maxRecDepth 65536 in
theorem w_t5 : ((((words1.drop 24).drop 24).drop 24).drop 24).all (fun c => isCode c || c.before args0 about1) = true := by decide +kernel
theorem w_tables : (allAtoms (Jvm.Cond.code x code maxLocals ret :: tables_1)).before args0 about1 = true := by
  rw [allAtoms_all]
  show words1.all (fun c => c.before args0 about1) = true
  refine all_split ?_ w_codes
  rw [← List.take_append_drop 24 words1, List.all_append, w_t1, ← List.take_append_drop 24 (words1.drop 24), List.all_append, w_t2, ← List.take_append_drop 24 ((words1.drop 24).drop 24), List.all_append, w_t3, ← List.take_append_drop 24 (((words1.drop 24).drop 24).drop 24), List.all_append, w_t4, w_t5]
  rfl
set_option maxRecDepth 65536 in
theorem w_rest : rest_1_c.before args0 about1 = true := by decide +kernel
set_option maxRecDepth 65536 in
theorem w_case : (Jvm.Cond.and given_1 narrow_1).before args0 about1 = true := by decide +kernel
set_option maxRecDepth 65536 in
theorem w_consts : constsHeld consts_1 about1 := Jvm.Lit.constsHeldB_iff.mp (by decide +kernel)
theorem w_applies : (headSpec (Jvm.Cond.code x code maxLocals ret :: tables_1) room_1).applies x e0.platform about1 = true :=
  (Spec.applies_iff w_frames).mpr ⟨w_running, w_runnable, w_alone, w_named, w_hears, w_ripe, w_room, w_tables⟩
theorem atStart : AtStart classFile x code maxLocals ret World_1 tables_1 room_1 Calls_1 rest_1 Pre_1 launch0 p0 e0 about1 theMethod args0 below0 :=
  ⟨lists_1, trivial, launch0.admits_env _ _ _, launch0.least_env, fairChoices_fair.cas, fairChoices_fair.clock, w_frames, w_args, w_heap, w_applies, ⟨w_consts, trivial⟩, w_rest, w_case⟩
end start1
theorem witness_1 : WitnessClaimed_1 := ⟨start1.p0, start1.e0, start1.about1, start1.theMethod, start1.args0, start1.below0, start1.atStart⟩
end Jvm.Pilot.@@N@@
