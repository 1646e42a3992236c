import JvmDerived
import JvmDerived.Pilot.@@N@@Statement
import JvmDerived.Pilot.@@N@@Code
set_option linter.unusedVariables false
set_option linter.unusedSimpArgs false
namespace Jvm.RoadKit
open Sem ClassFile Op Lib Jvm.Stand Jvm.Free Jvm.LawKit
section New
variable {p : Program} {l : Launch} {e : Env} {R : Room} {s : State} {m : MethodId} {args : Array Value} {below : List Frame} {meth : Method} {c : Code} {T : State} {locs : List Loc} {cells slots : Nat}
theorem retI (X : Stand p l e R s m args below meth c T locs cells slots) (hx : p.tables.exec = Jvm.exec) {pc : Nat} {Ls : Array Slot} {z : Int32} {rest : List Value} (hret : meth.sig.returnType = some .int) (hd : decode c.code pc = .ok (.ireturn, 1)) {fs : List Frame}
    (hl : ∀ (f : JFrame) (acts : List Action), f.method = m → f.locked = none → f.entered = [] → (doReturn e (T.setTop f) acts (some (.int z))).1 = T.setFrames fs) : Steps p.tables e below (T.setTop (mkF m pc Ls (.int z :: rest))) (T.setFrames fs) :=
  retOut X hx hret rfl (Or.inl ⟨rfl, Or.inl rfl, z, rfl⟩) hd hl
end New
end Jvm.RoadKit
/- laws to paste: Road.backV, Road.lenW, Road.codOf, Road.chN, Road.eqW (cut by pick.py; bodies as the Statement names them) -/
namespace Jvm.Pilot.@@N@@
namespace StrChars
open Jvm Sem ClassFile Op Lib Jvm.Stand Jvm.Free.XT Jvm.Free.ALB Jvm.Free.JM Jvm.Free
open Jvm.Lib.Cold (StaticIs)
/-- a char array whose places are chars -/
def Ch (a : Addr) (A : Cell) (U : State) : Prop := Arr .char a A U ∧ Typed .char A
theorem Ch.mv {a : Addr} {A : Cell} {U U' : State} (h : Ch a A U) (hal : U.vm.Alike U'.vm) (hh : U'.heap = U.heap) : Ch a A U' := ⟨h.1.mv hal hh, h.2⟩
theorem Ch.keep {a : Addr} {A : Cell} {U U' : State} (h : Ch a A U) (hal : U.vm.Alike U'.vm) (hk : U'.heap[a]? = some A) : Ch a A U' := ⟨h.1.keep hal hk, h.2⟩
/-- what place i of a char[]'s cell holds -/
def cv (A : Cell) (i : Nat) : Int32 := match A.slots[i]? with | some (.int x) => x | _ => 0
theorem Ch.get {a : Addr} {A : Cell} {U : State} (h : Ch a A U) {i : Nat} (hi : i < A.slots.size) : A.slots[i]? = some (.int (cv A i)) := by
  have e := Array.getElem?_eq_getElem hi
  have f := h.2 i _ e
  unfold cv; rw [e]
  generalize A.slots[i] = v at f
  cases v <;> simp [fits] at f ⊢
/-- the byte that i2b leaves of a char -/
def lo8 (x : Int32) : Int32 := x.toInt8.toInt32
theorem fits_lo8 (y : Int32) : fits .byte (.int (lo8 y)) = true := by
  have h1 := y.toInt8.le_toInt
  have h2 := y.toInt8.toInt_lt
  simp only [lo8, fits, Bool.and_eq_true, decide_eq_true_eq, Int32.le_iff_toInt_le, Int8.toInt_toInt32, show (-128 : Int32).toInt = -128 from by decide, show (127 : Int32).toInt = 127 from by decide]
  omega
/-- A' is A but that each place j of lo .. hi - 1 holds f j -/
def Laid (A A' : Cell) (lo hi : Nat) (f : Nat → Value) : Prop := A'.cls = A.cls ∧ A'.vm = A.vm ∧ A'.slots.size = A.slots.size ∧ ∀ i, A'.slots[i]? = if lo ≤ i ∧ i < hi then some (f i) else A.slots[i]?
theorem Laid.zero (A : Cell) (lo : Nat) (f : Nat → Value) : Laid A A lo (lo + 0) f := ⟨rfl, rfl, rfl, fun i => by rw [if_neg (by omega)]⟩
theorem Laid.step {A Ak : Cell} {lo k : Nat} {f : Nat → Value} {v : Value} (h : Laid A Ak lo k f) (hlo : lo ≤ k) (hk : k < Ak.slots.size) (hv : v = f k) : Laid A (Ak.setSlot k v) lo (k + 1) f := by
  refine ⟨h.1, h.2.1, by simpa [Cell.setSlot] using h.2.2.1, fun i => ?_⟩
  by_cases e : k = i
  · subst e; rw [Cell.slots_setSlot_self v hk, if_pos (by omega), hv]
  · rw [Cell.slots_setSlot_ne v e, h.2.2.2 i]
    by_cases q : lo ≤ i ∧ i < k
    · rw [if_pos q, if_pos (by omega)]
    · rw [if_neg q, if_neg (by omega)]
def U16 : String := "java/lang/StringUTF16"
namespace Cmp5
def yN : MethodName := ⟨"java/lang/StringUTF16", "compress", "([CI[BII)I"⟩
abbrev yB : ByteArray := jdk_52_method_21_code
theorem d0 : decode yB 0 = .ok (.iconst 0, 1) := by decide +kernel
theorem d1 : decode yB 1 = .ok (.istore 5, 2) := by decide +kernel
theorem d3 : decode yB 3 = .ok (.iload 5, 2) := by decide +kernel
theorem d5 : decode yB 5 = .ok (.iload 4, 2) := by decide +kernel
theorem d7 : decode yB 7 = .ok (.if_icmp (.ge) 37, 3) := by decide +kernel
theorem d10 : decode yB 10 = .ok (.aload_n 0, 1) := by decide +kernel
theorem d11 : decode yB 11 = .ok (.iload_n 1, 1) := by decide +kernel
theorem d12 : decode yB 12 = .ok (.caload, 1) := by decide +kernel
theorem d13 : decode yB 13 = .ok (.istore 6, 2) := by decide +kernel
theorem d15 : decode yB 15 = .ok (.iload 6, 2) := by decide +kernel
theorem d17 : decode yB 17 = .ok (.sipush 255, 3) := by decide +kernel
theorem d20 : decode yB 20 = .ok (.if_icmp (.le) 6, 3) := by decide +kernel
theorem d26 : decode yB 26 = .ok (.aload_n 2, 1) := by decide +kernel
theorem d27 : decode yB 27 = .ok (.iload_n 3, 1) := by decide +kernel
theorem d28 : decode yB 28 = .ok (.iload 6, 2) := by decide +kernel
theorem d30 : decode yB 30 = .ok (.i2b, 1) := by decide +kernel
theorem d31 : decode yB 31 = .ok (.bastore, 1) := by decide +kernel
theorem d32 : decode yB 32 = .ok (.iinc 1 1, 3) := by decide +kernel
theorem d35 : decode yB 35 = .ok (.iinc 3 1, 3) := by decide +kernel
theorem d38 : decode yB 38 = .ok (.iinc 5 1, 3) := by decide +kernel
theorem d41 : decode yB 41 = .ok (.goto (-38), 3) := by decide +kernel
theorem d44 : decode yB 44 = .ok (.iload 4, 2) := by decide +kernel
theorem d46 : decode yB 46 = .ok (.ireturn, 1) := by decide +kernel
def site : List Cond := []
def tab : Cond := tabOf yN yB 7 (some .int) site
def P (b : Addr) (A : Cell) (d : Addr) (B : Cell) (o q len : Nat) (args : Array Value) (s : State) : Prop := args = #[.ref b, .int (Int32.ofNat o), .ref d, .int (Int32.ofNat q), .int (Int32.ofNat len)] ∧ Ch b A s ∧ Arr .byte d B s ∧ b ≠ d ∧ o + len ≤ A.slots.size ∧ q + len ≤ B.slots.size ∧ ∀ i, i < len → ¬ 255 < cv A (o + i)
def E (b : Addr) (A : Cell) (d : Addr) (B : Cell) (o q len : Nat) (r : Option Value) (s u : State) : Prop := r = some (.int (Int32.ofNat len)) ∧ ∃ B', Put d B' s u ∧ Laid B B' q (q + len) (fun j => Value.int (lo8 (cv A (o + (j - q)))))
/-- no char of the range above 255: len; the places written hold each char's low byte -/
theorem law (l : Launch) (b : Addr) (A : Cell) (d : Addr) (B : Cell) (o q len : Nat) : Law l yN 5 5 0 0 yB 7 (some .int) site (P b A d B o q len) (E b A d B o q len) (copyLocs d q len) 0 0 := by
  refine Law.of_walk (plainFor_of_name (by decide +kernel)) (by decide +kernel) (by decide +kernel) (by decide) (fun _ _ h => by rw [h.1]; rfl) (fun _ U U' hal hh h => ⟨h.1, h.2.1.mv hal hh, h.2.2.1.mv hal hh, h.2.2.2⟩) (fun r U U' V V' h1 hal h2 h => ⟨h.1, h.2.elim fun B' q => ⟨B', q.1.mv h1 h2, q.2⟩⟩) ?_
  intro p e s m args below meth c s₁ X0 hexec hbytes hml hret hlk hnm hown hh0 W hP
  obtain ⟨rfl, hA, hB, hne, l1, l2, hp⟩ := hP
  have c1 : Steps p.tables e below (s₁.setTop (entryFrame m #[.ref b, .int (Int32.ofNat o), .ref d, .int (Int32.ofNat q), .int (Int32.ofNat len)] 7)) (s₁.setTop (mkF m 0 #[.val (.ref b), .val (.int (Int32.ofNat o)), .val (.ref d), .val (.int (Int32.ofNat q)), .val (.int (Int32.ofNat len)), .unset, .unset] [])) := entry rfl
  have hA0 := hA.1.mv X0.warmed.alike hh0
  have hB0 := hB.mv X0.warmed.alike hh0
  have a31 := hA.1.2.2.2
  have c2 : Steps p.tables e below (s₁.setTop (entryFrame m #[.ref b, .int (Int32.ofNat o), .ref d, .int (Int32.ofNat q), .int (Int32.ofNat len)] 7)) (s₁.setTop (mkF m 3 #[.val (.ref b), .val (.int (Int32.ofNat o)), .val (.ref d), .val (.int (Int32.ofNat q)), .val (.int (Int32.ofNat len)), .val (.int 0), .unset] [])) := c1.trans (by
    refine iconstV X0.here hexec rfl 0 (hb hbytes d0) (by decide) ?_
    refine XS.istore X0.here hexec rfl (hb hbytes d1) rfl rfl ?_
    exact Steps.refl _)
  have loop : ∀ (r i : Nat), i + r = len → ∀ (z : Slot), (z = .unset ∨ ∃ w, z = .val w ∧ w.category = 1) → ∀ (Tl : State) (Bk : Cell), Stand p l e { frames := 0, locals := 0, cells := 0, slots := 0 } s m #[.ref b, .int (Int32.ofNat o), .ref d, .int (Int32.ofNat q), .int (Int32.ofNat len)] below meth c Tl ([] ++ copyLocs d q i) 0 0 → Put d Bk s₁ Tl → Laid B Bk q (q + i) (fun j => Value.int (lo8 (cv A (o + (j - q))))) →
      Steps p.tables e below (s₁.setTop (entryFrame m #[.ref b, .int (Int32.ofNat o), .ref d, .int (Int32.ofNat q), .int (Int32.ofNat len)] 7)) (Tl.setTop (mkF m 3 #[.val (.ref b), .val (.int (Int32.ofNat (o + i))), .val (.ref d), .val (.int (Int32.ofNat (q + i))), .val (.int (Int32.ofNat len)), .val (.int (Int32.ofNat i)), z] [])) → ∃ (T' : State) (B' : Cell) (z' : Slot), Stand p l e { frames := 0, locals := 0, cells := 0, slots := 0 } s m #[.ref b, .int (Int32.ofNat o), .ref d, .int (Int32.ofNat q), .int (Int32.ofNat len)] below meth c T' ([] ++ copyLocs d q len) 0 0 ∧ Put d B' s₁ T' ∧ Laid B B' q (q + len) (fun j => Value.int (lo8 (cv A (o + (j - q))))) ∧
      Steps p.tables e below (s₁.setTop (entryFrame m #[.ref b, .int (Int32.ofNat o), .ref d, .int (Int32.ofNat q), .int (Int32.ofNat len)] 7)) (T'.setTop (mkF m 3 #[.val (.ref b), .val (.int (Int32.ofNat (o + len))), .val (.ref d), .val (.int (Int32.ofNat (q + len))), .val (.int (Int32.ofNat len)), .val (.int (Int32.ofNat len)), z'] [])) := by
    intro r
    induction r with
    | zero =>
      intro i hi z hz Tl Bk Xl pl fl cl
      have hil : i = len := by omega
      rw [hil] at Xl fl cl
      exact ⟨Tl, Bk, z, Xl, pl, fl, cl⟩
    | succ r ih =>
      intro i hi z hz Tl Bk Xl pl fl cl
      have all := X0.warmed.alike.symm.trans Xl.warmed.alike
      have hAl := hA0.keep all (pl.other hne hA0.1)
      have hBk := hB0.like all pl.1 fl.1 fl.2.1 fl.2.2.1
      have hlt : q + i < Bk.slots.size := by rw [fl.2.2.1]; omega
      have c3 : Steps p.tables e below (s₁.setTop (entryFrame m #[.ref b, .int (Int32.ofNat o), .ref d, .int (Int32.ofNat q), .int (Int32.ofNat len)] 7)) (Tl.setTop (mkF m 12 #[.val (.ref b), .val (.int (Int32.ofNat (o + i))), .val (.ref d), .val (.int (Int32.ofNat (q + i))), .val (.int (Int32.ofNat len)), .val (.int (Int32.ofNat i)), z] [.int (Int32.ofNat (o + i)), .ref b])) := cl.trans (by
        refine XS.iload Xl.here hexec rfl (hb hbytes d3) rfl ?_
        refine XS.iload Xl.here hexec rfl (hb hbytes d5) rfl ?_
        refine XS.icmpNo Xl.here hexec rfl (hb hbytes d7) rfl (ii_ge_f (lt32 (by omega) (by omega))) ?_
        refine XS.aloadN Xl.here hexec rfl (hb hbytes d10) rfl rfl ?_
        refine XS.iloadN Xl.here hexec rfl (hb hbytes d11) rfl ?_
        exact Steps.refl _)
      have c4 : Steps p.tables e below (s₁.setTop (entryFrame m #[.ref b, .int (Int32.ofNat o), .ref d, .int (Int32.ofNat q), .int (Int32.ofNat len)] 7)) (Tl.setTop (mkF m 13 #[.val (.ref b), .val (.int (Int32.ofNat (o + i))), .val (.ref d), .val (.int (Int32.ofNat (q + i))), .val (.int (Int32.ofNat len)), .val (.int (Int32.ofNat i)), z] [.int (cv A (o + i))])) := c3.trans (by
        refine Xl.aget hexec hAl rfl (hA.get (i := o + i) (by omega)) rfl rfl (hb hbytes d12) ?_
        exact Steps.refl _)
      have c5 : Steps p.tables e below (s₁.setTop (entryFrame m #[.ref b, .int (Int32.ofNat o), .ref d, .int (Int32.ofNat q), .int (Int32.ofNat len)] 7)) (Tl.setTop (mkF m 15 #[.val (.ref b), .val (.int (Int32.ofNat (o + i))), .val (.ref d), .val (.int (Int32.ofNat (q + i))), .val (.int (Int32.ofNat len)), .val (.int (Int32.ofNat i)), .val (.int (cv A (o + i)))] [])) := c4.trans (by
        refine XS.istoreS Xl.here hexec rfl (hb hbytes d13) rfl rfl hz ?_
        exact Steps.refl _)
      have c6 : Steps p.tables e below (s₁.setTop (entryFrame m #[.ref b, .int (Int32.ofNat o), .ref d, .int (Int32.ofNat q), .int (Int32.ofNat len)] 7)) (Tl.setTop (mkF m 31 #[.val (.ref b), .val (.int (Int32.ofNat (o + i))), .val (.ref d), .val (.int (Int32.ofNat (q + i))), .val (.int (Int32.ofNat len)), .val (.int (Int32.ofNat i)), .val (.int (cv A (o + i)))] [.int (lo8 (cv A (o + i))), .int (Int32.ofNat (q + i)), .ref d])) := c5.trans (by
        refine XS.iload Xl.here hexec rfl (hb hbytes d15) rfl ?_
        refine sipushV Xl.here hexec rfl 255 (hb hbytes d17) (by decide) ?_
        refine XS.icmpYes Xl.here hexec rfl (pc0 := 20) rfl (hb hbytes d20) rfl (ii_le_t (hp i (by omega))) (by decide) rfl ?_
        refine XS.aloadN Xl.here hexec rfl (hb hbytes d26) rfl rfl ?_
        refine XS.iloadN Xl.here hexec rfl (hb hbytes d27) rfl ?_
        refine XS.iload Xl.here hexec rfl (hb hbytes d28) rfl ?_
        refine i2b Xl.here hexec rfl (hb hbytes d30) rfl ?_
        exact Steps.refl _)
      obtain ⟨T7, X7, p7, st7⟩ := Xl.aput hexec hBk rfl hlt rfl (fits_lo8 (cv A (o + i))) (g := (mkF m 31 #[.val (.ref b), .val (.int (Int32.ofNat (o + i))), .val (.ref d), .val (.int (Int32.ofNat (q + i))), .val (.int (Int32.ofNat len)), .val (.int (Int32.ofNat i)), .val (.int (cv A (o + i)))] [.int (lo8 (cv A (o + i))), .int (Int32.ofNat (q + i)), .ref d])) rfl (rest := []) rfl (hb hbytes d31)
      have c8 : Steps p.tables e below (s₁.setTop (entryFrame m #[.ref b, .int (Int32.ofNat o), .ref d, .int (Int32.ofNat q), .int (Int32.ofNat len)] 7)) (T7.setTop (mkF m 32 #[.val (.ref b), .val (.int (Int32.ofNat (o + i))), .val (.ref d), .val (.int (Int32.ofNat (q + i))), .val (.int (Int32.ofNat len)), .val (.int (Int32.ofNat i)), .val (.int (cv A (o + i)))] [])) := c6.trans (st7 _ (Steps.refl _))
      have c9 : Steps p.tables e below (s₁.setTop (entryFrame m #[.ref b, .int (Int32.ofNat o), .ref d, .int (Int32.ofNat q), .int (Int32.ofNat len)] 7)) (T7.setTop (mkF m 3 #[.val (.ref b), .val (.int (Int32.ofNat (o + i) + 1)), .val (.ref d), .val (.int (Int32.ofNat (q + i) + 1)), .val (.int (Int32.ofNat len)), .val (.int (Int32.ofNat i + 1)), .val (.int (cv A (o + i)))] [])) := c8.trans (by
        refine iincV X7.here hexec rfl 1 (hb hbytes d32) (by decide) rfl rfl ?_
        refine iincV X7.here hexec rfl 1 (hb hbytes d35) (by decide) rfl rfl ?_
        refine iincV X7.here hexec rfl 1 (hb hbytes d38) (by decide) rfl rfl ?_
        refine XS.goto X7.here hexec rfl (pc0 := 41) rfl (hb hbytes d41) (by decide) rfl ?_
        exact Steps.refl _)
      have c10 : Steps p.tables e below (s₁.setTop (entryFrame m #[.ref b, .int (Int32.ofNat o), .ref d, .int (Int32.ofNat q), .int (Int32.ofNat len)] 7)) (T7.setTop (mkF m 3 #[.val (.ref b), .val (.int (Int32.ofNat (o + (i + 1)))), .val (.ref d), .val (.int (Int32.ofNat (q + (i + 1)))), .val (.int (Int32.ofNat len)), .val (.int (Int32.ofNat (i + 1))), .val (.int (cv A (o + i)))] [])) := by
        have := c9
        rw [succ32, succ32, succ32] at this
        exact this
      exact ih (i + 1) (by omega) _ (Or.inr ⟨_, rfl, rfl⟩) T7 _ (by rw [copyLocs_step, ← List.append_assoc]; exact X7) (pl.trans p7) (fl.step (by omega) hlt (by simp)) c10
  obtain ⟨T9, B9, z9, X9, p9, f9, g9⟩ := loop len 0 (by omega) .unset (Or.inl rfl) s₁ B (by simpa [copyLocs] using X0) ⟨hB0.1, fun _ _ => rfl, rfl⟩ (Laid.zero _ _ _) c2
  have c11 : Steps p.tables e below (s₁.setTop (entryFrame m #[.ref b, .int (Int32.ofNat o), .ref d, .int (Int32.ofNat q), .int (Int32.ofNat len)] 7)) (T9.setTop (mkF m 46 #[.val (.ref b), .val (.int (Int32.ofNat (o + len))), .val (.ref d), .val (.int (Int32.ofNat (q + len))), .val (.int (Int32.ofNat len)), .val (.int (Int32.ofNat len)), z9] [.int (Int32.ofNat len)])) := g9.trans (by
    refine XS.iload X9.here hexec rfl (hb hbytes d3) rfl ?_
    refine XS.iload X9.here hexec rfl (hb hbytes d5) rfl ?_
    refine XS.icmpYes X9.here hexec rfl (pc0 := 7) rfl (hb hbytes d7) rfl (ii_ge_t (nlt32 (by omega) (Nat.le_refl _))) (by decide) rfl ?_
    refine XS.iload X9.here hexec rfl (hb hbytes d44) rfl ?_
    exact Steps.refl _)
  exact ⟨T9, some (.int (Int32.ofNat len)), _, _, _, X9, by simp, rfl, rfl, (fun h => by cases h), ⟨rfl, B9, p9.from hh0, f9⟩, fun fs hl => c11.trans (X9.ireturnOut hexec hret rfl (Or.inl rfl) (hb hbytes d46) hl)⟩
end Cmp5
namespace Cmp3
def yN : MethodName := ⟨"java/lang/StringUTF16", "compress", "([CII)[B"⟩
abbrev yB : ByteArray := jdk_52_method_16_code
theorem d0 : decode yB 0 = .ok (.iload_n 2, 1) := by decide +kernel
theorem d1 : decode yB 1 = .ok (.newarray .byte, 2) := by decide +kernel
theorem d3 : decode yB 3 = .ok (.astore_n 3, 1) := by decide +kernel
theorem d4 : decode yB 4 = .ok (.aload_n 0, 1) := by decide +kernel
theorem d5 : decode yB 5 = .ok (.iload_n 1, 1) := by decide +kernel
theorem d6 : decode yB 6 = .ok (.aload_n 3, 1) := by decide +kernel
theorem d7 : decode yB 7 = .ok (.iconst 0, 1) := by decide +kernel
theorem d8 : decode yB 8 = .ok (.iload_n 2, 1) := by decide +kernel
theorem d9 : decode yB 9 = .ok (.invokestatic 115, 3) := by decide +kernel
theorem d12 : decode yB 12 = .ok (.istore 4, 2) := by decide +kernel
theorem d14 : decode yB 14 = .ok (.iload 4, 2) := by decide +kernel
theorem d16 : decode yB 16 = .ok (.iload_n 2, 1) := by decide +kernel
theorem d17 : decode yB 17 = .ok (.if_icmp (.eq) 40, 3) := by decide +kernel
theorem d57 : decode yB 57 = .ok (.aload_n 3, 1) := by decide +kernel
theorem d58 : decode yB 58 = .ok (.areturn, 1) := by decide +kernel
def site : List Cond := [.arrayClass .byte, Cmp5.tab] ++ staticW U16 115 Cmp5.yN
def tab : Cond := tabOf yN yB 6 (some (.array .byte)) site
def P (b : Addr) (A : Cell) (o len : Nat) (args : Array Value) (s : State) : Prop := args = #[.ref b, .int (Int32.ofNat o), .int (Int32.ofNat len)] ∧ Ch b A s ∧ o + len ≤ A.slots.size ∧ len ≤ 536870912 ∧ ∀ i, i < len → ¬ 255 < cv A (o + i)
def E (b : Addr) (A : Cell) (o len : Nat) (r : Option Value) (s u : State) : Prop := NewArr .byte "[B" len (fun j => .int (lo8 (cv A (o + j)))) r s u ∧ u.heap.size = s.heap.size + 1
/-- no char of the range above 255: a new byte[] of their low bytes -/
theorem law (l : Launch) (b : Addr) (A : Cell) (o len : Nat) : Law l yN 3 3 1 18 yB 6 (some (.array .byte)) site (P b A o len) (E b A o len) [] 1 len := by
  refine Law.of_walk (plainFor_of_name (by decide +kernel)) (by decide +kernel) (by decide +kernel) (by decide) (fun _ _ h => by rw [h.1]; rfl) (fun _ U U' hal hh h => ⟨h.1, h.2.1.mv hal hh, h.2.2⟩) (fun r U U' V V' h1 hal h2 h => ⟨NewArr.mv r U U' V V' h1 hal h2 h.1, by rw [h1, h2]; exact h.2⟩) ?_
  intro p e s m args below meth c s₁ X0 hexec hbytes hml hret hlk hnm hown hh0 W hP
  obtain ⟨rfl, hA, l1, l2, hp⟩ := hP
  have a31 := hA.1.2.2.2
  have c1 : Steps p.tables e below (s₁.setTop (entryFrame m #[.ref b, .int (Int32.ofNat o), .int (Int32.ofNat len)] 6)) (s₁.setTop (mkF m 0 #[.val (.ref b), .val (.int (Int32.ofNat o)), .val (.int (Int32.ofNat len)), .unset, .unset, .unset] [])) := entry rfl
  have c2 : Steps p.tables e below (s₁.setTop (entryFrame m #[.ref b, .int (Int32.ofNat o), .int (Int32.ofNat len)] 6)) (s₁.setTop (mkF m 1 #[.val (.ref b), .val (.int (Int32.ofNat o)), .val (.int (Int32.ofNat len)), .unset, .unset, .unset] [.int (Int32.ofNat len)])) := c1.trans (by
    refine XS.iloadN X0.here hexec rfl (hb hbytes d0) rfl ?_
    exact Steps.refl _)
  obtain ⟨T3, B3, X3, ba3, bs3, bv3, bh3, bf3, st3⟩ := X0.anew hexec (atype := .byte) (wk W (.arrayClass .byte)) rfl (by show len * 1 ≤ _; omega) (by omega) (g := (mkF m 1 #[.val (.ref b), .val (.int (Int32.ofNat o)), .val (.int (Int32.ofNat len)), .unset, .unset, .unset] [.int (Int32.ofNat len)])) rfl (hb hbytes d1) (rest := []) rfl (Nat.le_refl _) (by show 0 + len ≤ len; omega)
  rw [hh0] at ba3 st3
  have kp3 : XT.Kept s T3 := (XT.Kept.of_eq hh0).push bh3
  have hA3 := hA.keep X3.warmed.alike (kp3 _ _ hA.1.1)
  have hne : b ≠ s.heap.size := hA.1.ne
  have c4 : Steps p.tables e below (s₁.setTop (entryFrame m #[.ref b, .int (Int32.ofNat o), .int (Int32.ofNat len)] 6)) (T3.setTop (mkF m 3 #[.val (.ref b), .val (.int (Int32.ofNat o)), .val (.int (Int32.ofNat len)), .unset, .unset, .unset] [.ref s.heap.size])) := c2.trans (st3 _ (Steps.refl _))
  have c5 : Steps p.tables e below (s₁.setTop (entryFrame m #[.ref b, .int (Int32.ofNat o), .int (Int32.ofNat len)] 6)) (T3.setTop (mkF m 9 #[.val (.ref b), .val (.int (Int32.ofNat o)), .val (.int (Int32.ofNat len)), .val (.ref s.heap.size), .unset, .unset] [.int (Int32.ofNat len), .int 0, .ref s.heap.size, .int (Int32.ofNat o), .ref b])) := c4.trans (by
    refine XS.astoreN X3.here hexec rfl (hb hbytes d3) rfl rfl rfl ?_
    refine XS.aloadN X3.here hexec rfl (hb hbytes d4) rfl rfl ?_
    refine XS.iloadN X3.here hexec rfl (hb hbytes d5) rfl ?_
    refine XS.aloadN X3.here hexec rfl (hb hbytes d6) rfl rfl ?_
    refine iconstV X3.here hexec rfl 0 (hb hbytes d7) (by decide) ?_
    refine XS.iloadN X3.here hexec rfl (hb hbytes d8) rfl ?_
    exact Steps.refl _)
  obtain ⟨v6, T6, X6, E6, g6⟩ := X3.callS hexec (Cmp5.law l b A s.heap.size B3 o 0 len) hown (wks W (staticW U16 115 Cmp5.yN)) (wk W Cmp5.tab) (W := 0) (Nat.le_of_ble_eq_true rfl) (Nat.le_of_ble_eq_true rfl) (Nat.le_refl _) (by show 0 + len + 0 ≤ len; omega) (g := (mkF m 9 #[.val (.ref b), .val (.int (Int32.ofNat o)), .val (.int (Int32.ofNat len)), .val (.ref s.heap.size), .unset, .unset] [.int (Int32.ofNat len), .int (Int32.ofNat 0), .ref s.heap.size, .int (Int32.ofNat o), .ref b])) rfl (by rw [hml]; rfl) c5 (argsL := [.ref b, .int (Int32.ofNat o), .ref s.heap.size, .int (Int32.ofNat 0), .int (Int32.ofNat len)]) (rest := []) rfl rfl (by show 2 * 0 + 0 ≤ _; decide) (hb hbytes d9) (⟨rfl, hA3, ba3, hne, l1, by rw [bs3]; simp, hp⟩)
  obtain ⟨rfl, B6, p6, f6⟩ := E6
  have c7 : Steps p.tables e below (s₁.setTop (entryFrame m #[.ref b, .int (Int32.ofNat o), .int (Int32.ofNat len)] 6)) (T6.setTop (mkF m 12 #[.val (.ref b), .val (.int (Int32.ofNat o)), .val (.int (Int32.ofNat len)), .val (.ref s.heap.size), .unset, .unset] [.int (Int32.ofNat len)])) := g6
  have c8 : Steps p.tables e below (s₁.setTop (entryFrame m #[.ref b, .int (Int32.ofNat o), .int (Int32.ofNat len)] 6)) (T6.setTop (mkF m 58 #[.val (.ref b), .val (.int (Int32.ofNat o)), .val (.int (Int32.ofNat len)), .val (.ref s.heap.size), .val (.int (Int32.ofNat len)), .unset] [.ref s.heap.size])) := c7.trans (by
    refine XS.istore X6.here hexec rfl (hb hbytes d12) rfl rfl ?_
    refine XS.iload X6.here hexec rfl (hb hbytes d14) rfl ?_
    refine XS.iloadN X6.here hexec rfl (hb hbytes d16) rfl ?_
    refine XS.icmpYes X6.here hexec rfl (pc0 := 17) rfl (hb hbytes d17) rfl (ii_eq_t rfl) (by decide) rfl ?_
    refine XS.aloadN X6.here hexec rfl (hb hbytes d57) rfl rfl ?_
    exact Steps.refl _)
  have X8 := X6.wide (L' := []) (cells' := 1) (slots' := len) (fun x hx hlt => by
    simp only [List.nil_append, copyLocs, List.mem_map, List.mem_range] at hx
    obtain ⟨i, -, rfl⟩ := hx
    exact absurd hlt (Nat.lt_irrefl _)) (Nat.le_refl _) (by omega)
  exact ⟨T6, some (.ref s.heap.size), _, _, _, X8, rfl, rfl, rfl, (fun h => by cases h), ⟨⟨rfl, B6, ba3.like (X3.warmed.alike.symm.trans X6.warmed.alike) p6.1 f6.1 f6.2.1 f6.2.2.1, f6.2.1.trans bv3, by rw [X6.warmed.alike.findClass, f6.1]; exact bf3, by rw [f6.2.2.1, bs3]; simp, fun j hj => by rw [f6.2.2.2 j, if_pos (by omega)]; rfl, kp3.put p6 (Nat.le_refl _)⟩, by rw [p6.2.2, bh3, hh0]; simp⟩, fun fs hl => c8.trans (X8.areturnOut hexec rfl hret rfl (hb hbytes d58) hl)⟩
end Cmp3
namespace CodL
def yN : MethodName := ⟨"java/lang/StringUTF16", "coderFromArrayLen", "([BI)B"⟩
abbrev yB : ByteArray := jdk_52_method_15_code
theorem d0 : decode yB 0 = .ok (.iload_n 1, 1) := by decide +kernel
theorem d1 : decode yB 1 = .ok (.aload_n 0, 1) := by decide +kernel
theorem d2 : decode yB 2 = .ok (.arraylength, 1) := by decide +kernel
theorem d3 : decode yB 3 = .ok (.isub, 1) := by decide +kernel
theorem d4 : decode yB 4 = .ok (.bipush 31, 2) := by decide +kernel
theorem d6 : decode yB 6 = .ok (.iushr, 1) := by decide +kernel
theorem d7 : decode yB 7 = .ok (.i2b, 1) := by decide +kernel
theorem d8 : decode yB 8 = .ok (.ireturn, 1) := by decide +kernel
def site : List Cond := []
def tab : Cond := tabOf yN yB 2 (some .byte) site
def P (d : Addr) (B : Cell) (args : Array Value) (s : State) : Prop := args = #[.ref d, .int (Int32.ofNat B.slots.size)] ∧ Arr .byte d B s
def E (r : Option Value) (s u : State) : Prop := XT.PureE (some (.int 0)) r s u
/-- an array as long as the number of chars: LATIN1 -/
theorem law (l : Launch) (d : Addr) (B : Cell) : Law l yN 2 2 0 0 yB 2 (some .byte) site (P d B) E [] 0 0 := by
  refine Law.of_walk (plainFor_of_name (by decide +kernel)) (by decide +kernel) (by decide +kernel) (by decide) (fun _ _ h => by rw [h.1]; rfl) (fun _ U U' hal hh h => ⟨h.1, h.2.mv hal hh⟩) (fun r U U' V V' h1 hal h2 h => XT.PureE.mv r U U' V V' h1 hal h2 h) ?_
  intro p e s m args below meth c s₁ X0 hexec hbytes hml hret hlk hnm hown hh0 W hP
  obtain ⟨rfl, hB⟩ := hP
  have hB0 := hB.mv X0.warmed.alike hh0
  have c1 : Steps p.tables e below (s₁.setTop (entryFrame m #[.ref d, .int (Int32.ofNat B.slots.size)] 2)) (s₁.setTop (mkF m 0 #[.val (.ref d), .val (.int (Int32.ofNat B.slots.size))] [])) := entry rfl
  have c2 : Steps p.tables e below (s₁.setTop (entryFrame m #[.ref d, .int (Int32.ofNat B.slots.size)] 2)) (s₁.setTop (mkF m 2 #[.val (.ref d), .val (.int (Int32.ofNat B.slots.size))] [.ref d, .int (Int32.ofNat B.slots.size)])) := c1.trans (by
    refine XS.iloadN X0.here hexec rfl (hb hbytes d0) rfl ?_
    refine XS.aloadN X0.here hexec rfl (hb hbytes d1) rfl rfl ?_
    exact Steps.refl _)
  have c3 : Steps p.tables e below (s₁.setTop (entryFrame m #[.ref d, .int (Int32.ofNat B.slots.size)] 2)) (s₁.setTop (mkF m 8 #[.val (.ref d), .val (.int (Int32.ofNat B.slots.size))] [.int (lo8 (ushr (Int32.ofNat B.slots.size - Int32.ofNat B.slots.size) 31))])) := c2.trans (by
    refine X0.alen hexec hB0 rfl rfl (hb hbytes d2) ?_
    refine XS.isub X0.here hexec rfl (hb hbytes d3) rfl ?_
    refine bipushV X0.here hexec rfl 31 (hb hbytes d4) (by decide) ?_
    refine iushr X0.here hexec rfl (hb hbytes d6) rfl ?_
    refine i2b X0.here hexec rfl (hb hbytes d7) rfl ?_
    exact Steps.refl _)
  have e0 : lo8 (ushr (Int32.ofNat B.slots.size - Int32.ofNat B.slots.size) 31) = 0 := by rw [Int32.sub_self]; decide
  rw [e0] at c3
  exact ⟨s₁, some (.int 0), _, _, _, X0, rfl, rfl, rfl, (fun h => by cases h), ⟨rfl, hh0⟩, fun fs hl => c3.trans (X0.ireturnOut hexec hret rfl (Or.inr (Or.inr (Or.inl rfl))) (hb hbytes d8) hl)⟩
end CodL
/-- the String at a is Latin-1 over a new byte[] (the heap's one new cell): the low bytes of the len chars of A from o on; every cell but a is kept -/
def Got (a : Addr) (D : Cell) (fV fC : Field) (A : Cell) (o len : Nat) (r : Option Value) (s u : State) : Prop := r = none ∧ ∃ D' V : Cell, Blank "java/lang/String" a D' u ∧ Same D D' [fV.slot, fC.slot] ∧ D'.slots[fV.slot]? = some (.ref s.heap.size) ∧ D'.slots[fC.slot]? = some (.int 0) ∧ Arr .byte s.heap.size V u ∧ V.vm = .none ∧ u.vm.findClass "[B" = some V.cls ∧ V.slots.size = len ∧ (∀ j, j < len → V.slots[j]? = some (.int (lo8 (cv A (o + j))))) ∧ (∀ (y : Addr) (c : Cell), y ≠ a → s.heap[y]? = some c → u.heap[y]? = some c) ∧ u.heap.size = s.heap.size + 1
theorem Got.mv {a : Addr} {D A : Cell} {fV fC : Field} {o len : Nat} : ∀ r (U U' V V' : State), U'.heap = U.heap → V.vm.Alike V'.vm → V'.heap = V.heap → Got a D fV fC A o len r U V → Got a D fV fC A o len r U' V' :=
  fun r U U' V V' h1 hal h2 ⟨e0, D', X, a1, a2, a3, a4, a5, a6, a7, a8, a9, a10, a11⟩ => ⟨e0, D', X, a1.mv hal h2, a2, by rw [h1]; exact a3, a4, by rw [h1]; exact a5.mv hal h2, a6, by rw [hal.findClass]; exact a7, a8, a9, by rw [h1, h2]; exact a10, by rw [h1, h2]; exact a11⟩
namespace New4
def yN : MethodName := ⟨"java/lang/String", "<init>", "([CIILjava/lang/Void;)V"⟩
abbrev yB : ByteArray := jdk_42_method_149_code
theorem d0 : decode yB 0 = .ok (.aload_n 0, 1) := by decide +kernel
theorem d1 : decode yB 1 = .ok (.invokespecial 1, 3) := by decide +kernel
theorem d4 : decode yB 4 = .ok (.iload_n 3, 1) := by decide +kernel
theorem d5 : decode yB 5 = .ok (.ifCond (.ne) 22, 3) := by decide +kernel
theorem d27 : decode yB 27 = .ok (.getstatic 38, 3) := by decide +kernel
theorem d30 : decode yB 30 = .ok (.ifCond (.eq) 28, 3) := by decide +kernel
theorem d33 : decode yB 33 = .ok (.aload_n 1, 1) := by decide +kernel
theorem d34 : decode yB 34 = .ok (.iload_n 2, 1) := by decide +kernel
theorem d35 : decode yB 35 = .ok (.iload_n 3, 1) := by decide +kernel
theorem d36 : decode yB 36 = .ok (.invokestatic 177, 3) := by decide +kernel
theorem d39 : decode yB 39 = .ok (.astore 5, 2) := by decide +kernel
theorem d41 : decode yB 41 = .ok (.aload_n 0, 1) := by decide +kernel
theorem d42 : decode yB 42 = .ok (.aload 5, 2) := by decide +kernel
theorem d44 : decode yB 44 = .ok (.iload_n 3, 1) := by decide +kernel
theorem d45 : decode yB 45 = .ok (.invokestatic 47, 3) := by decide +kernel
theorem d48 : decode yB 48 = .ok (.putfield 15, 3) := by decide +kernel
theorem d51 : decode yB 51 = .ok (.aload_n 0, 1) := by decide +kernel
theorem d52 : decode yB 52 = .ok (.aload 5, 2) := by decide +kernel
theorem d54 : decode yB 54 = .ok (.putfield 9, 3) := by decide +kernel
theorem d57 : decode yB 57 = .ok (.return_, 1) := by decide +kernel
def site : List Cond := [.fieldLink "java/lang/String" 38 "java/lang/String" "COMPACT_STRINGS" "Z", Cmp3.tab, CodL.tab, .laysFinal "java/lang/String" "java/lang/String" "value" "[B", .fieldLink "java/lang/String" 9 "java/lang/String" "value" "[B", .laysFinal "java/lang/String" "java/lang/String" "coder" "B", .fieldLink "java/lang/String" 15 "java/lang/String" "coder" "B"] ++ objW "java/lang/String" 1 ++ staticW "java/lang/String" 177 Cmp3.yN ++ staticW "java/lang/String" 47 CodL.yN
def tab : Cond := tabOf yN yB 6 none site
def P (a : Addr) (D : Cell) (fV fC : Field) (b : Addr) (A : Cell) (z : Int32) (o len : Nat) (args : Array Value) (s : State) : Prop := args = #[.ref a, .ref b, .int (Int32.ofNat o), .int (Int32.ofNat len), .null] ∧ Blank "java/lang/String" a D s ∧ Found "java/lang/String" "value" "[B" fV s ∧ Found "java/lang/String" "coder" "B" fC s ∧ Ch b A s ∧ StaticIs s "java/lang/String" "COMPACT_STRINGS" "Z" (.int z) ∧ ¬ z = 0 ∧ 0 < len ∧ o + len ≤ A.slots.size ∧ len ≤ 536870912 ∧ ∀ i, i < len → ¬ 255 < cv A (o + i)
def E (a : Addr) (D : Cell) (fV fC : Field) (A : Cell) (o len : Nat) (r : Option Value) (s u : State) : Prop := Got a D fV fC A o len r s u
/-- len > 0, no char of the range above 255: a Latin-1 String of their low bytes -/
theorem law (l : Launch) (a : Addr) (D : Cell) (fV fC : Field) (b : Addr) (A : Cell) (z : Int32) (o len : Nat) : Law l yN 5 4 2 35 yB 6 none site (P a D fV fC b A z o len) (E a D fV fC A o len) [⟨a, fC.slot⟩, ⟨a, fV.slot⟩] 1 len := by
  refine Law.of_walk (plainFor_of_name (by decide +kernel)) (by decide +kernel) (by decide +kernel) (by decide) (fun _ _ h => by rw [h.1]; rfl) (fun _ U U' hal hh h => ⟨h.1, h.2.1.mv hal hh, h.2.2.1.al hal, h.2.2.2.1.al hal, h.2.2.2.2.1.mv hal hh, h.2.2.2.2.2.1.there hal hh, h.2.2.2.2.2.2⟩) (fun r U U' V V' h1 hal h2 h => Got.mv r U U' V V' h1 hal h2 h) ?_
  intro p e s m args below meth c s₁ X0 hexec hbytes hml hret hlk hnm hown hh0 W hP
  obtain ⟨rfl, hB, f1, f2, hA, s1, hz, l0, l1, l2, hp⟩ := hP
  have a31 := hA.1.2.2.2
  have c1 : Steps p.tables e below (s₁.setTop (entryFrame m #[.ref a, .ref b, .int (Int32.ofNat o), .int (Int32.ofNat len), .null] 6)) (s₁.setTop (mkF m 0 #[.val (.ref a), .val (.ref b), .val (.int (Int32.ofNat o)), .val (.int (Int32.ofNat len)), .val .null, .unset] [])) := entry rfl
  have c2 : Steps p.tables e below (s₁.setTop (entryFrame m #[.ref a, .ref b, .int (Int32.ofNat o), .int (Int32.ofNat len), .null] 6)) (s₁.setTop (mkF m 1 #[.val (.ref a), .val (.ref b), .val (.int (Int32.ofNat o)), .val (.int (Int32.ofNat len)), .val .null, .unset] [.ref a])) := c1.trans (by
    refine XS.aloadN X0.here hexec rfl (hb hbytes d0) rfl rfl ?_
    exact Steps.refl _)
  obtain ⟨T3, X3, q3, st3⟩ := X0.oinit hexec hown (wks W (objW "java/lang/String" 1)) (g := (mkF m 1 #[.val (.ref a), .val (.ref b), .val (.int (Int32.ofNat o)), .val (.int (Int32.ofNat len)), .val .null, .unset] [.ref a])) rfl (by rw [hml]; rfl) (rest := []) rfl (hb hbytes d1) (W := 0) (by show 2 * 0 + 0 ≤ _; decide) (Nat.le_of_ble_eq_true rfl) (Nat.le_of_ble_eq_true rfl)
  have hh3 := q3.trans hh0
  have c4 : Steps p.tables e below (s₁.setTop (entryFrame m #[.ref a, .ref b, .int (Int32.ofNat o), .int (Int32.ofNat len), .null] 6)) (T3.setTop (mkF m 27 #[.val (.ref a), .val (.ref b), .val (.int (Int32.ofNat o)), .val (.int (Int32.ofNat len)), .val .null, .unset] [])) := (c2.trans (st3 _ (Steps.refl _))).trans (by
    refine XS.iloadN X3.here hexec rfl (hb hbytes d4) rfl ?_
    refine XS.ifYes X3.here hexec rfl (pc0 := 5) rfl (hb hbytes d5) rfl (i0_ne_t (nz32 (by omega) l0)) (by decide) rfl ?_
    exact Steps.refl _)
  obtain ⟨T5, X5, q5, st5⟩ := X3.sget hexec hown (wk W (.fieldLink "java/lang/String" 38 "java/lang/String" "COMPACT_STRINGS" "Z")) s1 (fun _ _ h => by rw [hh3]; exact h) (g := (mkF m 27 #[.val (.ref a), .val (.ref b), .val (.int (Int32.ofNat o)), .val (.int (Int32.ofNat len)), .val .null, .unset] [])) rfl (hb hbytes d27)
  have hh5 := q5.trans hh3
  have c6 : Steps p.tables e below (s₁.setTop (entryFrame m #[.ref a, .ref b, .int (Int32.ofNat o), .int (Int32.ofNat len), .null] 6)) (T5.setTop (mkF m 30 #[.val (.ref a), .val (.ref b), .val (.int (Int32.ofNat o)), .val (.int (Int32.ofNat len)), .val .null, .unset] [.int z])) := c4.trans (st5 _ (Steps.refl _))
  have c7 : Steps p.tables e below (s₁.setTop (entryFrame m #[.ref a, .ref b, .int (Int32.ofNat o), .int (Int32.ofNat len), .null] 6)) (T5.setTop (mkF m 36 #[.val (.ref a), .val (.ref b), .val (.int (Int32.ofNat o)), .val (.int (Int32.ofNat len)), .val .null, .unset] [.int (Int32.ofNat len), .int (Int32.ofNat o), .ref b])) := c6.trans (by
    refine XS.ifNo X5.here hexec rfl (hb hbytes d30) rfl (i0_eq_f hz) ?_
    refine XS.aloadN X5.here hexec rfl (hb hbytes d33) rfl rfl ?_
    refine XS.iloadN X5.here hexec rfl (hb hbytes d34) rfl ?_
    refine XS.iloadN X5.here hexec rfl (hb hbytes d35) rfl ?_
    exact Steps.refl _)
  obtain ⟨v8, T8, X8, E8, g8⟩ := X5.callS hexec (Cmp3.law l b A o len) hown (wks W (staticW "java/lang/String" 177 Cmp3.yN)) (wk W Cmp3.tab) (W := 0) (Nat.le_of_ble_eq_true rfl) (Nat.le_of_ble_eq_true rfl) (Nat.le_refl _) (by show 0 + len ≤ len; omega) (g := (mkF m 36 #[.val (.ref a), .val (.ref b), .val (.int (Int32.ofNat o)), .val (.int (Int32.ofNat len)), .val .null, .unset] [.int (Int32.ofNat len), .int (Int32.ofNat o), .ref b])) rfl (by rw [hml]; rfl) c7 (argsL := [.ref b, .int (Int32.ofNat o), .int (Int32.ofNat len)]) (rest := []) rfl rfl (by show 2 * 0 + 0 ≤ _; decide) (hb hbytes d36) (⟨rfl, hA.mv X5.warmed.alike hh5, l1, l2, hp⟩)
  obtain ⟨e8, z8⟩ := E8
  obtain ⟨rfl, N, n1, n2, n3, n4, n5, n6⟩ := NewArr.mv _ T5 s _ _ hh5.symm (Vm.Alike.refl _) rfl e8
  rw [hh5] at z8
  have hB1 := hB.keep X8.warmed.alike (n6 _ _ hB.1)
  have hne : s.heap.size ≠ a := (Nat.ne_of_lt (Array.getElem?_eq_some_iff.mp hB.1).1).symm
  have c9 : Steps p.tables e below (s₁.setTop (entryFrame m #[.ref a, .ref b, .int (Int32.ofNat o), .int (Int32.ofNat len), .null] 6)) (T8.setTop (mkF m 39 #[.val (.ref a), .val (.ref b), .val (.int (Int32.ofNat o)), .val (.int (Int32.ofNat len)), .val .null, .unset] [.ref s.heap.size])) := g8
  have c10 : Steps p.tables e below (s₁.setTop (entryFrame m #[.ref a, .ref b, .int (Int32.ofNat o), .int (Int32.ofNat len), .null] 6)) (T8.setTop (mkF m 45 #[.val (.ref a), .val (.ref b), .val (.int (Int32.ofNat o)), .val (.int (Int32.ofNat len)), .val .null, .val (.ref s.heap.size)] [.int (Int32.ofNat N.slots.size), .ref s.heap.size, .ref a])) := by
    have hc : Steps p.tables e below (s₁.setTop (entryFrame m #[.ref a, .ref b, .int (Int32.ofNat o), .int (Int32.ofNat len), .null] 6)) (T8.setTop (mkF m 45 #[.val (.ref a), .val (.ref b), .val (.int (Int32.ofNat o)), .val (.int (Int32.ofNat len)), .val .null, .val (.ref s.heap.size)] [.int (Int32.ofNat len), .ref s.heap.size, .ref a])) := c9.trans (by
      refine XS.astore X8.here hexec rfl (hb hbytes d39) rfl rfl rfl ?_
      refine XS.aloadN X8.here hexec rfl (hb hbytes d41) rfl rfl ?_
      refine XS.aload X8.here hexec rfl (hb hbytes d42) rfl rfl ?_
      refine XS.iloadN X8.here hexec rfl (hb hbytes d44) rfl ?_
      exact Steps.refl _)
    rw [n4]; exact hc
  obtain ⟨v11, T11, X11, E11, g11⟩ := X8.callS hexec (CodL.law l s.heap.size N) hown (wks W (staticW "java/lang/String" 47 CodL.yN)) (wk W CodL.tab) (W := 1) (Nat.le_of_ble_eq_true rfl) (Nat.le_of_ble_eq_true rfl) (Nat.le_refl _) (by show 0 + len + 0 ≤ len; omega) (g := (mkF m 45 #[.val (.ref a), .val (.ref b), .val (.int (Int32.ofNat o)), .val (.int (Int32.ofNat len)), .val .null, .val (.ref s.heap.size)] [.int (Int32.ofNat N.slots.size), .ref s.heap.size, .ref a])) rfl (by rw [hml]; rfl) c10 (argsL := [.ref s.heap.size, .int (Int32.ofNat N.slots.size)]) (rest := [.ref a]) rfl rfl (by show 2 * 0 + (1 + 0) ≤ _; decide) (hb hbytes d45) (⟨rfl, n1⟩)
  obtain ⟨rfl, q11⟩ := E11
  have hB11 := hB1.mv (X8.warmed.alike.symm.trans X11.warmed.alike) q11
  have c12 : Steps p.tables e below (s₁.setTop (entryFrame m #[.ref a, .ref b, .int (Int32.ofNat o), .int (Int32.ofNat len), .null] 6)) (T11.setTop (mkF m 48 #[.val (.ref a), .val (.ref b), .val (.int (Int32.ofNat o)), .val (.int (Int32.ofNat len)), .val .null, .val (.ref s.heap.size)] [.int 0, .ref a])) := g11
  obtain ⟨T13, X13, p13, bl13, sl13, st13⟩ := X11.finit hexec hown (wk W (.fieldLink "java/lang/String" 15 "java/lang/String" "coder" "B")) (Or.inr ⟨_, (wk W (.laysFinal "java/lang/String" "java/lang/String" "coder" "B"))⟩) (Or.inl ⟨rfl, hnm⟩) f2 (Or.inl rfl) hB11 (t := .byte) (by decide +kernel) rfl (g := (mkF m 48 #[.val (.ref a), .val (.ref b), .val (.int (Int32.ofNat o)), .val (.int (Int32.ofNat len)), .val .null, .val (.ref s.heap.size)] [.int 0, .ref a])) rfl (rest := []) rfl (hb hbytes d48)
  have c14 : Steps p.tables e below (s₁.setTop (entryFrame m #[.ref a, .ref b, .int (Int32.ofNat o), .int (Int32.ofNat len), .null] 6)) (T13.setTop (mkF m 54 #[.val (.ref a), .val (.ref b), .val (.int (Int32.ofNat o)), .val (.int (Int32.ofNat len)), .val .null, .val (.ref s.heap.size)] [.ref s.heap.size, .ref a])) := (c12.trans (st13 _ (Steps.refl _))).trans (by
    refine XS.aloadN X13.here hexec rfl (hb hbytes d51) rfl rfl ?_
    refine XS.aload X13.here hexec rfl (hb hbytes d52) rfl rfl ?_
    exact Steps.refl _)
  obtain ⟨T15, X15, p15, bl15, sl15, st15⟩ := X13.finit hexec hown (wk W (.fieldLink "java/lang/String" 9 "java/lang/String" "value" "[B")) (Or.inr ⟨_, (wk W (.laysFinal "java/lang/String" "java/lang/String" "value" "[B"))⟩) (Or.inl ⟨rfl, hnm⟩) f1 (Or.inl rfl) bl13 (t := (.array .byte)) (by decide +kernel) rfl (g := (mkF m 54 #[.val (.ref a), .val (.ref b), .val (.int (Int32.ofNat o)), .val (.int (Int32.ofNat len)), .val .null, .val (.ref s.heap.size)] [.ref s.heap.size, .ref a])) rfl (rest := []) rfl (hb hbytes d54)
  have c16 : Steps p.tables e below (s₁.setTop (entryFrame m #[.ref a, .ref b, .int (Int32.ofNat o), .int (Int32.ofNat len), .null] 6)) (T15.setTop (mkF m 57 #[.val (.ref a), .val (.ref b), .val (.int (Int32.ofNat o)), .val (.int (Int32.ofNat len)), .val .null, .val (.ref s.heap.size)] [])) := c14.trans (st15 _ (Steps.refl _))
  have ap := apart (Or.inr ⟨_, (wk W (.laysFinal "java/lang/String" "java/lang/String" "value" "[B"))⟩) (Or.inr ⟨_, (wk W (.laysFinal "java/lang/String" "java/lang/String" "coder" "B"))⟩) f1 f2 (t₁ := .array .byte) (t₂ := .byte) (by decide +kernel) (by decide +kernel) (by decide)
  have al := X8.warmed.alike.symm.trans X15.warmed.alike
  have n7 : T11.heap[s.heap.size]? = some N := by rw [q11]; exact n1.1
  exact ⟨T15, none, _, _, _, X15, by simp, rfl, by omega, (fun _ => rfl), ⟨rfl, _, N, bl15, ((Same.refl D _).set _ (by simp)).set _ (by simp), sl15, (Cell.slots_setSlot_ne _ ap).trans sl13, n1.keep al (p15.other hne (p13.other hne n7)), n2, by rw [al.findClass]; exact n3, n4, n5, fun y c h1 h2 => p15.other h1 (p13.other h1 (by rw [q11]; exact n6 y c h2)), by rw [p15.2.2, p13.2.2, q11]; exact z8⟩, fun fs hl => c16.trans (X15.returnOut hexec hret (hb hbytes d57) hl)⟩
end New4
namespace New1
def yN : MethodName := ⟨"java/lang/String", "<init>", "([C)V"⟩
abbrev yB : ByteArray := jdk_42_method_3_code
theorem d0 : decode yB 0 = .ok (.aload_n 0, 1) := by decide +kernel
theorem d1 : decode yB 1 = .ok (.aload_n 1, 1) := by decide +kernel
theorem d2 : decode yB 2 = .ok (.iconst 0, 1) := by decide +kernel
theorem d3 : decode yB 3 = .ok (.aload_n 1, 1) := by decide +kernel
theorem d4 : decode yB 4 = .ok (.arraylength, 1) := by decide +kernel
theorem d5 : decode yB 5 = .ok (.aconst_null, 1) := by decide +kernel
theorem d6 : decode yB 6 = .ok (.invokespecial 27, 3) := by decide +kernel
theorem d9 : decode yB 9 = .ok (.return_, 1) := by decide +kernel
def site : List Cond := [New4.tab] ++ initW "java/lang/String" 27 New4.yN
def tab : Cond := tabOf yN yB 2 none site
def P (a : Addr) (D : Cell) (fV fC : Field) (b : Addr) (A : Cell) (z : Int32) (args : Array Value) (s : State) : Prop := args = #[.ref a, .ref b] ∧ Blank "java/lang/String" a D s ∧ Found "java/lang/String" "value" "[B" fV s ∧ Found "java/lang/String" "coder" "B" fC s ∧ Ch b A s ∧ StaticIs s "java/lang/String" "COMPACT_STRINGS" "Z" (.int z) ∧ ¬ z = 0 ∧ 0 < A.slots.size ∧ A.slots.size ≤ 536870912 ∧ ∀ i, i < A.slots.size → ¬ 255 < cv A i
def E (a : Addr) (D : Cell) (fV fC : Field) (A : Cell) (r : Option Value) (s u : State) : Prop := Got a D fV fC A 0 A.slots.size r s u
/-- new String(chars), not empty, no char above 255: a Latin-1 String of their low bytes -/
theorem law (l : Launch) (a : Addr) (D : Cell) (fV fC : Field) (b : Addr) (A : Cell) (z : Int32) : Law l yN 2 1 3 52 yB 2 none site (P a D fV fC b A z) (E a D fV fC A) [⟨a, fC.slot⟩, ⟨a, fV.slot⟩] 1 A.slots.size := by
  refine Law.of_walk (plainFor_of_name (by decide +kernel)) (by decide +kernel) (by decide +kernel) (by decide) (fun _ _ h => by rw [h.1]; rfl) (fun _ U U' hal hh h => ⟨h.1, h.2.1.mv hal hh, h.2.2.1.al hal, h.2.2.2.1.al hal, h.2.2.2.2.1.mv hal hh, h.2.2.2.2.2.1.there hal hh, h.2.2.2.2.2.2⟩) (fun r U U' V V' h1 hal h2 h => Got.mv r U U' V V' h1 hal h2 h) ?_
  intro p e s m args below meth c s₁ X0 hexec hbytes hml hret hlk hnm hown hh0 W hP
  obtain ⟨rfl, hB, f1, f2, hA, s1, hz, l0, l2, hp⟩ := hP
  have c1 : Steps p.tables e below (s₁.setTop (entryFrame m #[.ref a, .ref b] 2)) (s₁.setTop (mkF m 0 #[.val (.ref a), .val (.ref b)] [])) := entry rfl
  have c2 : Steps p.tables e below (s₁.setTop (entryFrame m #[.ref a, .ref b] 2)) (s₁.setTop (mkF m 6 #[.val (.ref a), .val (.ref b)] [.null, .int (Int32.ofNat A.slots.size), .int 0, .ref b, .ref a])) := c1.trans (by
    refine XS.aloadN X0.here hexec rfl (hb hbytes d0) rfl rfl ?_
    refine XS.aloadN X0.here hexec rfl (hb hbytes d1) rfl rfl ?_
    refine iconstV X0.here hexec rfl 0 (hb hbytes d2) (by decide) ?_
    refine XS.aloadN X0.here hexec rfl (hb hbytes d3) rfl rfl ?_
    refine X0.alen hexec (hA.1.mv X0.warmed.alike hh0) rfl rfl (hb hbytes d4) ?_
    refine XS.aconstNull X0.here hexec rfl (hb hbytes d5) ?_
    exact Steps.refl _)
  obtain ⟨v3, T3, X3, E3, g3⟩ := X0.callN hexec (New4.law l a D fV fC b A z 0 A.slots.size) rfl hown (wks W (initW "java/lang/String" 27 New4.yN)) (W New4.tab (by simp only [site, List.mem_cons, List.mem_append, true_or, or_true])) (W := 0) (Nat.le_of_ble_eq_true rfl) (Nat.le_of_ble_eq_true rfl) (Nat.le_refl _) (by show 0 + A.slots.size ≤ A.slots.size; omega) (g := (mkF m 6 #[.val (.ref a), .val (.ref b)] [.null, .int (Int32.ofNat A.slots.size), .int (Int32.ofNat 0), .ref b, .ref a])) rfl (by rw [hml]; rfl) c2 (argsL := [.ref b, .int (Int32.ofNat 0), .int (Int32.ofNat A.slots.size), .null]) (rest := []) rfl rfl (by show 2 * 0 + 0 ≤ _; decide) (hb hbytes d6) (⟨rfl, hB.mv X0.warmed.alike hh0, f1.al X0.warmed.alike, f2.al X0.warmed.alike, hA.mv X0.warmed.alike hh0, s1.there X0.warmed.alike hh0, hz, l0, by omega, l2, fun i hi => by rw [Nat.zero_add]; exact hp i hi⟩)
  have e0 := Got.mv _ s₁ s _ _ hh0.symm (Vm.Alike.refl _) rfl E3
  obtain rfl := e0.1
  have c4 : Steps p.tables e below (s₁.setTop (entryFrame m #[.ref a, .ref b] 2)) (T3.setTop (mkF m 9 #[.val (.ref a), .val (.ref b)] [])) := g3
  exact ⟨T3, none, _, _, _, X3, by simp, rfl, by omega, (fun _ => rfl), e0, fun fs hl => c4.trans (X3.returnOut hexec hret (hb hbytes d9) hl)⟩
theorem pays {l : Launch} {R : Room} {p : Program} {e : Env} {below : List Frame} {s : State} {sargs : Array Value} {len W : Nat} (a : Addr) (D : Cell) (fV fC : Field) (b : Addr) (A : Cell) (z : Int32) (htab : tab.before sargs s = true) (hfr : 4 ≤ R.frames) (hlo : W + 65 ≤ R.locals) :
    Back l R p e below s sargs yN len W (fun A₁ a₁ => A₁.cells + 1 ≤ R.cells ∧ A₁.slots + A.slots.size ≤ R.slots ∧ P a D fV fC b A z a₁ A₁.U) (fun A₁ _ v₁ B₁ => E a D fV fC A v₁ A₁.U B₁.U ∧ B₁.locs = A₁.locs ++ [⟨a, fC.slot⟩, ⟨a, fV.slot⟩] ∧ B₁.cells = A₁.cells + 1 ∧ B₁.slots = A₁.slots + A.slots.size) :=
  (law l a D fV fC b A z).pays htab hfr (by omega)
end New1
/-- the byte, read back as charAt reads it, is the char -/
theorem lo8_mask {x : Int32} (h0 : ¬ x < 0) (h1 : ¬ 255 < x) : lo8 x &&& 255 = x := by
  have t : ∀ k : Fin 256, lo8 (Int32.ofNat k.val) &&& 255 = Int32.ofNat k.val := by decide +kernel
  rw [Int32.lt_iff_toInt_lt] at h0 h1
  have e0 : (0 : Int32).toInt = 0 := rfl
  have e1 : (255 : Int32).toInt = 255 := rfl
  obtain ⟨k, hk⟩ : ∃ k : Nat, x.toInt = k := ⟨x.toInt.toNat, by omega⟩
  have hx : x = Int32.ofNat k := Int32.toInt_inj.mp (by rw [hk, Int32.toInt_ofNat_small (by omega)])
  rw [hx]
  exact t ⟨k, by omega⟩
end StrChars
namespace StrChars.Road
open Jvm Sem ClassFile Op Lib Jvm.Stand Jvm.Free Jvm.Free.XT
open Jvm.Lib.Cold (StaticIs)
abbrev ST : String := "java/lang/String"
/-- every table word that New1's law asks, flat -/
abbrev words : List Jvm.Cond := [.code New1.yN New1.yB 2 none, .initialized ST, .methodLink ST 27 New4.yN, .instanceMethod New4.yN,
  .code New4.yN New4.yB 6 none, .fieldLink ST 38 ST "COMPACT_STRINGS" "Z", .laysFinal ST ST "value" "[B", .fieldLink ST 9 ST "value" "[B", .laysFinal ST ST "coder" "B", .fieldLink ST 15 ST "coder" "B",
  .methodLink ST 1 Lib.objectInit, .instanceMethod Lib.objectInit, .code Lib.objectInit ⟨#[0xb1]⟩ 1 none, .methodLink ST 177 Cmp3.yN, .static Cmp3.yN, .methodLink ST 47 CodL.yN, .static CodL.yN,
  .code Cmp3.yN Cmp3.yB 6 (some (.array .byte)), .initialized U16, .arrayClass .byte, .methodLink U16 115 Cmp5.yN, .static Cmp5.yN, .code Cmp5.yN Cmp5.yB 7 (some .int), .code CodL.yN CodL.yB 2 (some .byte)]
theorem tab_of {a : Array Value} {s : State} (h : ∀ w ∈ words, w.before a s = true) : New1.tab.before a s = true := by
  have h5 : Cmp5.tab.before a s = true := unparts (wk h (.code Cmp5.yN Cmp5.yB 7 (some .int))) (wks h (.initialized Cmp5.yN.cls :: Cmp5.site))
  have hc : CodL.tab.before a s = true := unparts (wk h (.code CodL.yN CodL.yB 2 (some .byte))) (wks h (.initialized CodL.yN.cls :: CodL.site))
  have q5 : ∀ w ∈ Cmp5.tab :: words, w.before a s = true := fun w hw => (List.mem_cons.mp hw).elim (fun e => e ▸ h5) (h w)
  have h3 : Cmp3.tab.before a s = true := unparts (wk q5 (.code Cmp3.yN Cmp3.yB 6 (some (.array .byte)))) (wks q5 (.initialized Cmp3.yN.cls :: Cmp3.site))
  have q3 : ∀ w ∈ Cmp3.tab :: CodL.tab :: words, w.before a s = true := fun w hw => (List.mem_cons.mp hw).elim (fun e => e ▸ h3) fun hw => (List.mem_cons.mp hw).elim (fun e => e ▸ hc) (h w)
  have h4 : New4.tab.before a s = true := unparts (wk q3 (.code New4.yN New4.yB 6 none)) (wks q3 (.initialized New4.yN.cls :: New4.site))
  have q4 : ∀ w ∈ New4.tab :: words, w.before a s = true := fun w hw => (List.mem_cons.mp hw).elim (fun e => e ▸ h4) (h w)
  exact unparts (wk q4 (.code New1.yN New1.yB 2 none)) (wks q4 (.initialized New1.yN.cls :: New1.site))
/-- the words ride from the start Z to the walk's own state -/
theorem moved {Z s : State} {a0 args : Array Value} (hZ : Z.Warmed39 s.vm) (hw : ∀ d ∈ words, d.before a0 Z = true) : ∀ d ∈ words, d.before args s = true := fun d hd => by
  have q := hw d hd
  have t : ∀ d ∈ words, d = .arrayClass .byte ∨ (d.onTables && d.keepsFace) = true := by decide +kernel
  rcases t d hd with rfl | t
  · exact RoadKit.mvA hZ q
  · exact RoadKit.mv hZ q t
/-- WHAT COMES BACK, over the tables of the start Z: h the heap at the call, h' behind it -/
def Q (Z : State) (x : Addr) (A : Cell) (h : Heap) (v : Option Value) (h' : Heap) (L : List Loc) : Prop := v = none ∧ (∀ y ∈ L, y.base = x) ∧ RoadKit.Keep h h' [x] ∧ h'.size = h.size + 1 ∧ RoadKit.Exa Z h' x ST ∧ RoadKit.Fld Z h' x ST "value" "[B" (.ref h.size) ∧ RoadKit.Fld Z h' x ST "coder" "B" (.int 0) ∧
  (∃ V : Cell, RoadKit.Arr Z h' h.size V .byte ∧ V.vm = .none ∧ Z.vm.findClass "[B" = some V.cls ∧ V.slots.size = A.slots.size ∧ ∀ j, j < A.slots.size → V.slots[j]? = some (.int (lo8 (cv A j)))) ∧
  ∀ (O n d : String) (w : Value), RoadKit.Fld Z h x O n d w → RoadKit.slotOf Z O n d ≠ RoadKit.slotOf Z ST "value" "[B" → RoadKit.slotOf Z O n d ≠ RoadKit.slotOf Z ST "coder" "B" → RoadKit.Fld Z h' x O n d w
/-- **new String(chars) AT A CALL, IN THE ROAD'S FORM**: for specialBack behind newO: x the fresh String, b the char[] with the cell A -/
theorem back {p : Program} {l : Launch} {e : Env} {R : Room} {s : State} {args : Array Value} {below : List Frame} {len W : Nat} {Z : State} {a0 : Array Value} {h : Heap} (hZ : Z.Warmed39 s.vm) (hw : ∀ d ∈ words, d.before a0 Z = true) {kI : Nat} (wi : (Jvm.Cond.instantiable ST kI).before a0 Z = true)
    {x b : Addr} {A : Cell} {z : Int32} {v0 c0 : Value} (E : RoadKit.Exa Z h x ST) (V : RoadKit.Fld Z h x ST "value" "[B" v0) (C : RoadKit.Fld Z h x ST "coder" "B" c0) (K : RoadKit.Arr Z h b A .char) (hty : Typed .char A) (S : RoadKit.Sta Z h ST "COMPACT_STRINGS" "Z" (.int z)) (hz : ¬ z = 0)
    (l0 : 0 < A.slots.size) (l2 : A.slots.size ≤ 536870912) (hp : ∀ i, i < A.slots.size → ¬ 255 < cv A i) (hfr : 4 ≤ R.frames) (hlo : W + 65 ≤ R.locals) :
    Back l R p e below s args New1.yN len W (fun P a => a = #[.ref x, .ref b] ∧ P.U.heap = h ∧ P.cells + 1 ≤ R.cells ∧ P.slots + A.slots.size ≤ R.slots)
      (fun P _ v B => ∃ L, Q Z x A h v B.U.heap L ∧ B.locs = P.locs ++ L ∧ B.cells = P.cells + 1 ∧ B.slots = P.slots + A.slots.size) := by
  intro m meth c P g ig mk a X hg hsize hdg hW hn hp'
  obtain ⟨rfl, rfl, r1, r2⟩ := hp'
  have al : Z.vm.Alike P.U.vm := hZ.alike.trans X.warmed.alike
  obtain ⟨D, cfV, kV, iV, fV, hD, gV, stV, knV, obV, asV, slV⟩ := id V
  obtain ⟨D', cfC, kC, iC, fC, hD', gC, stC, -, -, asC, slC⟩ := id C
  cases hD.symm.trans hD'
  obtain ⟨D2, kD, e1, e2, e3, e4, e5⟩ := id E
  cases hD.symm.trans e1
  obtain ⟨c2, k2, i1, i2, i3, -⟩ := Cond.instantiable_spec wi
  cases e2.symm.trans i1
  cases e3.symm.trans i2
  obtain ⟨kU, u1, u2⟩ := al.2.2 _ _ e3
  have hB : Blank ST x D P.U := ⟨hD, ⟨knV, fun q hq => by rw [hq] at obV; cases obV⟩, by rw [al.findClass]; exact e2, kU, u1, by rw [u2]; exact i3, by rw [u2]; exact e5 i3⟩
  have F1 : Found ST "value" "[B" fV P.U := ⟨SBG.found_only al ⟨cfV, kV, iV, gV⟩, stV⟩
  have F2 : Found ST "coder" "B" fC P.U := ⟨SBG.found_only al ⟨cfC, kC, iC, gC⟩, stC⟩
  have hA : Ch b A P.U := ⟨⟨K.1, State.isArrayOf_alike al K.2.1, K.2.2, by omega⟩, hty⟩
  have hS : StaticIs P.U ST "COMPACT_STRINGS" "Z" (.int z) := by
    obtain ⟨cfS, iS, kS, fS, st, cS, t1, t2, t3, t4, t5, t6, t7⟩ := S
    exact StaticIs.there (s := { Z with heap := P.U.heap }) ⟨cfS, iS, kS, fS, st, cS, t1, t2, t3, t4, t5, (fun q => by rw [q] at t6; cases t6), t7⟩ al rfl
  obtain ⟨v, B, X', ⟨⟨hv, E', V', q1, q2, q3, q4, q5, q6, q7, q8, q9, q10, q11⟩, hl, hc, hs⟩, st⟩ := New1.pays x D fV fC b A z (tab_of (moved hZ hw)) hfr hlo m meth c P g ig mk _ X hg hsize hdg hW hn ⟨r1, r2, rfl, hB, F1, F2, hA, hS, hz, l0, l2, hp⟩
  have al' : Z.vm.Alike B.U.vm := hZ.alike.trans X'.warmed.alike
  have hsz : E'.slots.size = D.slots.size := by
    obtain ⟨-, -, -, kB, w1, w2, w3⟩ := q1
    obtain ⟨kB', y1, y2⟩ := al'.2.2 _ _ e3
    rw [q2.2.1] at w1
    cases w1.symm.trans y1
    rw [w3, e5 i3, y2]
  refine ⟨v, B, X', ⟨_, ⟨hv, ?_, ⟨by omega, fun y cy hy hn' => q10 y cy (by simpa using hn') hy, fun y cy hy => ?_⟩, q11, ⟨E', _, q1.1, by rw [q2.2.1]; exact e2, by rw [q2.2.1]; exact e3, by rw [q2.1]; exact obV, fun _ => by rw [hsz]; exact e5 i3⟩,
    ⟨E', cfV, kV, iV, fV, q1.1, gV, stV, by rw [q2.1]; exact knV, by rw [q2.1]; exact obV, by rw [q2.2.1]; exact asV, q3⟩, ⟨E', cfC, kC, iC, fC, q1.1, gC, stC, by rw [q2.1]; exact knV, by rw [q2.1]; exact obV, by rw [q2.2.1]; exact asC, q4⟩,
    ⟨V', ⟨q5.1, State.isArrayOf_alike al'.symm q5.2.1, q5.2.2.1⟩, q6, by rw [← al'.findClass]; exact q7, q8, fun j hj => by have := q9 j hj; rwa [Nat.zero_add] at this⟩, fun O n d w F n1 n2 => ?_⟩, hl, hc, hs⟩, st⟩
  · intro y hy
    simp only [List.mem_cons, List.not_mem_nil, or_false] at hy
    rcases hy with rfl | rfl <;> rfl
  · by_cases q : y = x
    · subst q
      cases hD.symm.trans hy
      exact ⟨E', q1.1, q2.2.1, q2.1, hsz⟩
    · exact ⟨cy, q10 y cy q hy, rfl, rfl, rfl⟩
  · obtain ⟨D3, cf, k, i, f, g1, g2, g3, g4, g5, g6, g7⟩ := F
    cases hD.symm.trans g1
    simp only [RoadKit.slotOf, g2, gV, gC, Option.map_some, Option.getD_some] at n1 n2
    exact ⟨E', cf, k, i, f, q1.1, g2, g3, by rw [q2.1]; exact g4, by rw [q2.1]; exact g5, by rw [q2.2.1]; exact g6, by rw [q2.2.2 f.slot (by simp [n1, n2])]; exact g7⟩
end StrChars.Road
namespace StrChars.Road
open Jvm Sem ClassFile Op Lib Jvm.Stand Jvm.Free Jvm.Free.XT
/-- WHAT COMES BACK, the byte[] as a list of values -/
def QA (Z : State) (x : Addr) (zn : Int32) (cs : List Int32) (h : Heap) (v : Option Value) (h' : Heap) (L : List Loc) : Prop := v = none ∧ (∀ y ∈ L, y.base = x) ∧ RoadKit.Keep h h' [x] ∧ h'.size = h.size + 1 ∧ RoadKit.Exa Z h' x ST ∧ RoadKit.Fld Z h' x ST "value" "[B" (.ref h.size) ∧ RoadKit.Fld Z h' x ST "coder" "B" (.int 0) ∧
  (∃ kb, Z.vm.findClass "[B" = some kb ∧ RoadKit.Arv Z h' h.size kb .byte zn (cs.map fun c => .int (lo8 c)) (.int 0)) ∧
  ∀ (O n d : String) (w : Value), RoadKit.Fld Z h x O n d w → RoadKit.slotOf Z O n d ≠ RoadKit.slotOf Z ST "value" "[B" → RoadKit.slotOf Z O n d ≠ RoadKit.slotOf Z ST "coder" "B" → RoadKit.Fld Z h' x O n d w
/-- **new String(chars) AT A CALL, THE ARRAYS AS LISTS**: the char[] at b holds cs, not empty, no char above 255 -/
theorem backArv {p : Program} {l : Launch} {e : Env} {R : Room} {s : State} {args : Array Value} {below : List Frame} {len W : Nat} {Z : State} {a0 : Array Value} {h : Heap} (hZ : Z.Warmed39 s.vm) (hw : ∀ d ∈ words, d.before a0 Z = true) {kI : Nat} (wi : (Jvm.Cond.instantiable ST kI).before a0 Z = true)
    {x b : Addr} {k : ClassId} {zn z : Int32} {cs : List Int32} {dv v0 c0 : Value} (E : RoadKit.Exa Z h x ST) (V : RoadKit.Fld Z h x ST "value" "[B" v0) (C : RoadKit.Fld Z h x ST "coder" "B" c0) (K : RoadKit.Arv Z h b k .char zn (cs.map Value.int) dv) (S : RoadKit.Sta Z h ST "COMPACT_STRINGS" "Z" (.int z)) (hz : ¬ z = 0)
    (hlen : zn.toNatClampNeg = cs.length) (h0 : 0 < cs.length) (hbig : cs.length ≤ 536870912) (hall : ∀ c ∈ cs, ¬ 255 < c) (hfr : 4 ≤ R.frames) (hlo : W + 65 ≤ R.locals) :
    Back l R p e below s args New1.yN len W (fun P a => a = #[.ref x, .ref b] ∧ P.U.heap = h ∧ P.cells + 1 ≤ R.cells ∧ P.slots + cs.length ≤ R.slots)
      (fun P _ v B => ∃ L, QA Z x zn cs h v B.U.heap L ∧ B.locs = P.locs ++ L ∧ B.cells = P.cells + 1 ∧ B.slots = P.slots + cs.length) := by
  obtain ⟨A, K1, K2, K3, K4, K5, K6⟩ := K
  have e : A.slots.size = cs.length := K3.trans hlen
  have hat : ∀ (i : Nat) (hi : i < cs.length), A.slots[i]? = some (.int cs[i]) := fun i hi => by rw [K5 i (by omega)]; simp [List.getD_eq_getElem?_getD, hi]
  have hcv : ∀ (i : Nat) (hi : i < cs.length), cv A i = cs[i] := fun i hi => by unfold cv; rw [hat i hi]
  have hty : Typed .char A := fun i v hv => by
    have hi : i < A.slots.size := (Array.getElem?_eq_some_iff.mp hv).1
    have q := K5 i hi
    rw [hv] at q
    rw [Option.some.inj q]
    exact K6 i hi
  refine Back.mono (back hZ hw wi E V C K1 hty S hz (by omega) (by omega) (fun i hi => by rw [hcv i (by omega)]; exact hall _ (List.getElem_mem _)) hfr hlo) (fun P a hp => ⟨hp.1, hp.2.1, hp.2.2.1, by rw [e]; exact hp.2.2.2⟩) (fun P a v B hp hq => ?_)
  obtain ⟨L, ⟨q1, q2, q3, q4, q5, q6, q7, ⟨V', v1, v2, v3, v4, v5⟩, q9⟩, hl, hc, hs⟩ := hq
  refine ⟨L, ⟨q1, q2, q3, q4, q5, q6, q7, ⟨V'.cls, v3, V', v1, rfl, by rw [v4, e, hlen], K4, fun i hi => ?_, fun i hi => ?_⟩, q9⟩, hl, hc, by rw [hs, e]⟩
  · have hi' : i < cs.length := by omega
    rw [v5 i (by omega), hcv i hi']; simp [List.getD_eq_getElem?_getD, hi']
  · have hi' : i < cs.length := by omega
    simp only [List.getD_eq_getElem?_getD, List.getElem?_map, List.getElem?_eq_getElem hi', Option.map_some, Option.getD_some]
    exact fits_lo8 _
end StrChars.Road
namespace StrChars.Road
open Jvm Sem ClassFile Op Lib Jvm.Stand Jvm.Free Jvm.Free.XT
/-- WHAT COMES BACK, in the writer's own shape -/
def QV (Z : State) (x : Addr) (N : Int32) (bs : List Int32) (h : Heap) (n0 : Nat) (v : Option Value) (h' : Heap) (L : List Loc) : Prop := v = none ∧ RoadKit.Fr n0 L ∧ RoadKit.Keep h h' [x] ∧ RoadKit.Exa Z h' x ST ∧ RoadKit.Fld Z h' x ST "coder" "B" (.int 0) ∧
  ∃ (t : Addr) (kb : ClassId), n0 ≤ t ∧ h.size ≤ t ∧ ¬ t = x ∧ RoadKit.Fld Z h' x ST "value" "[B" (.ref t) ∧ RoadKit.Arv Z h' t kb .byte N (bs.map Value.int) (.int 0)
/-- **new String(chars) AT A CALL, FOR THE WRITER**: a char[] of n known ints, each 0 to 255 -/
theorem backV {p : Program} {l : Launch} {e : Env} {R : Room} {s : State} {args : Array Value} {below : List Frame} {len W : Nat} {Z : State} {a0 : Array Value} {h : Heap} (hZ : Z.Warmed39 s.vm) (hw : ∀ d ∈ words, d.before a0 Z = true) {kI : Nat} (wi : (Jvm.Cond.instantiable ST kI).before a0 Z = true)
    {x b : Addr} {kC : ClassId} {cs bs : List Int32} {d v0 c0 : Value} {z N : Int32} {n n0 : Nat} (hx0 : n0 ≤ x) (hh0 : n0 ≤ h.size) (E : RoadKit.Exa Z h x ST) (V : RoadKit.Fld Z h x ST "value" "[B" v0) (C : RoadKit.Fld Z h x ST "coder" "B" c0) (K : RoadKit.Arv Z h b kC .char N (cs.map Value.int) d) (S : RoadKit.Sta Z h ST "COMPACT_STRINGS" "Z" (.int z)) (hz : ¬ z = 0)
    (hn : cs.length = n) (hN : N = Int32.ofNat n) (l0 : 0 < n) (l2 : n ≤ 4000) (hp : ∀ c ∈ cs, ¬ c < 0 ∧ ¬ (255 : Int32) < c) (hb : bs = cs.map (fun c => c.toInt8.toInt32)) (hfr : 4 ≤ R.frames) (hlo : W + 65 ≤ R.locals) :
    Back l R p e below s args (⟨"java/lang/String", "<init>", "([C)V"⟩ : MethodName) len W (fun P a => a = #[.ref x, .ref b] ∧ P.U.heap = h ∧ P.cells + 1 ≤ R.cells ∧ P.slots + n ≤ R.slots)
      (fun P _ v B => ∃ L, QV Z x N bs h n0 v B.U.heap L ∧ B.locs = P.locs ++ L ∧ B.cells = P.cells + 1 ∧ B.slots = P.slots + n) := by
  subst hn hN hb
  refine Back.mono (backArv hZ hw wi E V C K S hz (n32 (by omega)) l0 (by omega) (fun c hc => (hp c hc).2) hfr hlo) (fun P a hp => hp) (fun P a v B hp hq => ?_)
  obtain ⟨L, ⟨q1, q2, q3, q4, q5, q6, q7, ⟨kb, v1, v2⟩, q9⟩, hl, hc, hs⟩ := hq
  exact ⟨L, ⟨q1, fun y hy => by rw [q2 y hy]; exact hx0, q3, q5, q7, h.size, kb, hh0, Nat.le_refl _, Nat.ne_of_gt E.lt, q6, by rw [List.map_map]; exact v2⟩, hl, hc, hs⟩
end StrChars.Road
namespace StrChars
open Jvm Sem ClassFile Op Lib Jvm.Stand Jvm.Free.XT Jvm.Free.ALB Jvm.Free.JM Jvm.Free
open Jvm.Lib.Cold (StaticIs)
def hi8 (x : Int32) : Int32 := lo8 (x >>> ((8 : Int32) &&& 31))
/-- what StringUTF16.getChar makes of two bytes -/
def pairCh (u v : Int32) : Int32 := (((u &&& 255) <<< ((0 : Int32) &&& 31)) ||| ((v &&& 255) <<< ((8 : Int32) &&& 31))).toUInt32.toUInt16.toUInt32.toInt32
theorem shr0 (c : Int32) : c >>> ((0 : Int32) &&& 31) = c := by
  have e : ((0 : Int32) &&& 31) = 0 := by decide
  rw [e]
  apply Int32.toBitVec_inj.mp
  rw [Int32.toBitVec_shiftRight]
  have e1 : ((0 : Int32).toBitVec.smod 32) = 0#32 := by decide
  rw [e1, BitVec.sshiftRight_eq']
  exact BitVec.sshiftRight_zero
theorem lo8_and (x : Int32) : (lo8 x &&& 255).toBitVec.toNat = x.toBitVec.toNat % 256 := by
  have h : (lo8 x).toBitVec = (x.toBitVec.signExtend 8).signExtend 32 := by rw [lo8, Int8.toBitVec_toInt32, Int32.toBitVec_toInt8]
  rw [Int32.toBitVec_and, BitVec.toNat_and, h]
  have e : ((x.toBitVec.signExtend 8).signExtend 32).toNat % 256 = x.toBitVec.toNat % 256 := by
    rw [BitVec.toNat_signExtend]
    have hlt := x.toBitVec.isLt
    simp only [BitVec.toNat_setWidth, BitVec.toNat_signExtend]
    split <;> split <;> omega
  rw [← e]
  exact Nat.and_two_pow_sub_one_eq_mod _ 8
theorem pair_says {c : Int32} (h0 : ¬ c < 0) (h1 : ¬ 65535 < c) : pairCh (lo8 c) (hi8 c) = c := by
  rw [Int32.lt_iff_toInt_lt] at h0 h1
  have e0 : (0 : Int32).toInt = 0 := rfl
  have e1 : (65535 : Int32).toInt = 65535 := rfl
  have hc : c.toInt = c.toBitVec.toNat := by
    have := c.toBitVec.isLt
    have e : c.toInt = c.toBitVec.toInt := rfl
    rw [e] at h0 h1
    rw [e]
    rw [BitVec.toInt_eq_toNat_cond] at h0 h1 ⊢
    split at h0 <;> split <;> omega
  have hn : c.toBitVec.toNat < 65536 := by omega
  have a1 := lo8_and c
  have a2 : (hi8 c &&& 255).toBitVec.toNat = c.toBitVec.toNat / 256 := by
    rw [hi8, lo8_and]
    have e : ((8 : Int32) &&& 31) = 8 := by decide
    rw [e, Int32.toBitVec_shiftRight]
    have e2 : ((8 : Int32).toBitVec.smod 32) = 8#32 := by decide
    rw [e2, BitVec.sshiftRight_eq', BitVec.toNat_sshiftRight_of_msb_false (by rw [BitVec.msb_eq_false_iff_two_mul_lt]; omega)]
    show c.toBitVec.toNat >>> 8 % 256 = _
    rw [Nat.shiftRight_eq_div_pow]
    omega
  unfold pairCh
  apply Int32.toBitVec_inj.mp
  apply BitVec.eq_of_toNat_eq
  have f0 : ((0 : Int32) &&& 31) = 0 := by decide
  have f8 : ((8 : Int32) &&& 31) = 8 := by decide
  rw [f0, f8]
  have g : (((lo8 c &&& 255) <<< (0 : Int32)) ||| ((hi8 c &&& 255) <<< (8 : Int32))).toBitVec.toNat = c.toBitVec.toNat := by
    rw [Int32.toBitVec_or, Int32.toBitVec_shiftLeft, Int32.toBitVec_shiftLeft]
    have s0 : ((0 : Int32).toBitVec.smod 32) = 0#32 := by decide
    have s8 : ((8 : Int32).toBitVec.smod 32) = 8#32 := by decide
    rw [s0, s8, BitVec.toNat_or]
    simp only [BitVec.shiftLeft_eq', BitVec.toNat_shiftLeft, a1, a2]
    show (c.toBitVec.toNat % 256) <<< 0 % 2 ^ 32 ||| (c.toBitVec.toNat / 256) <<< 8 % 2 ^ 32 = _
    rw [Nat.shiftLeft_zero, Nat.mod_eq_of_lt (show c.toBitVec.toNat % 256 < 2 ^ 32 by omega), Nat.mod_eq_of_lt (show (c.toBitVec.toNat / 256) <<< 8 < 2 ^ 32 by rw [Nat.shiftLeft_eq]; omega), Nat.or_comm, ← Nat.shiftLeft_add_eq_or_of_lt (by omega), Nat.shiftLeft_eq]
    omega
  show BitVec.toNat (((((lo8 c &&& 255) <<< (0 : Int32)) ||| ((hi8 c &&& 255) <<< (8 : Int32))).toBitVec.setWidth 16).setWidth 32) = _
  rw [BitVec.toNat_setWidth, BitVec.toNat_setWidth, g]
  omega
end StrChars
namespace StrChars
open Jvm Sem ClassFile Op Lib Jvm.Stand Jvm.Free.XT Jvm.Free.ALB Jvm.Free.JM Jvm.Free
open Jvm.Lib.Cold (StaticIs)
theorem shr1 {n : Nat} (h : 2 * n < 2 ^ 31) : Int32.ofNat (2 * n) >>> ((1 : Int32) &&& 31) = Int32.ofNat n := by
  have e : ((1 : Int32) &&& 31) = 1 := by decide
  rw [e]
  apply Int32.toBitVec_inj.mp
  rw [Int32.toBitVec_shiftRight]
  have e1 : ((1 : Int32).toBitVec.smod 32) = 1#32 := by decide
  have hm : (BitVec.ofNat 32 (2 * n)).toNat = 2 * n := by rw [BitVec.toNat_ofNat, Nat.mod_eq_of_lt (by omega)]
  rw [e1, BitVec.sshiftRight_eq']
  apply BitVec.eq_of_toNat_eq
  show ((BitVec.ofNat 32 (2 * n)).sshiftRight 1).toNat = (BitVec.ofNat 32 n).toNat
  rw [BitVec.toNat_sshiftRight_of_msb_false (by rw [BitVec.msb_eq_false_iff_two_mul_lt, hm]; omega), hm, BitVec.toNat_ofNat, Nat.shiftRight_eq_div_pow]
  omega
/-- charAt's cast of a byte read back -/
def chr8 (u : Int32) : Int32 := (u &&& 255).toUInt32.toUInt16.toUInt32.toInt32
theorem chr8_lo8 {c : Int32} (h0 : ¬ c < 0) (h1 : ¬ 255 < c) : chr8 (lo8 c) = c := by
  have t : ∀ k : Fin 256, (Int32.ofNat k.val).toUInt32.toUInt16.toUInt32.toInt32 = Int32.ofNat k.val := by decide +kernel
  unfold chr8
  rw [lo8_mask h0 h1]
  rw [Int32.lt_iff_toInt_lt] at h0 h1
  have e0 : (0 : Int32).toInt = 0 := rfl
  have e1 : (255 : Int32).toInt = 255 := rfl
  obtain ⟨k, hk⟩ : ∃ k : Nat, c.toInt = k := ⟨c.toInt.toNat, by omega⟩
  have hx : c = Int32.ofNat k := Int32.toInt_inj.mp (by rw [hk, Int32.toInt_ofNat_small (by omega)])
  rw [hx]
  exact t ⟨k, by omega⟩
theorem narrow_ch {c : Int32} (h0 : ¬ c < 0) (h1 : ¬ 65535 < c) : narrow .char (.int c) = .int c := by
  have q : narrow .char (.int (pairCh (lo8 c) (hi8 c))) = .int (pairCh (lo8 c) (hi8 c)) := narrow_c _
  rwa [pair_says h0 h1] at q
/-- the array's cell V codes the n chars f 0 .. f (n - 1) by the coder cd, as the JDK does: coder 1 just where some char is above 255 -/
def Cod (cd : Int32) (n : Nat) (f : Nat → Int32) (V : Cell) : Prop := (cd = 0 ∧ V.slots.size = n ∧ ∀ j, j < n → V.slots[j]? = some (.int (lo8 (f j))) ∧ ¬ 255 < f j) ∨ (cd = 1 ∧ V.slots.size = 2 * n ∧ (∀ j, j < n → V.slots[2 * j]? = some (.int (lo8 (f j))) ∧ V.slots[2 * j + 1]? = some (.int (hi8 (f j)))) ∧ ∃ j, j < n ∧ 255 < f j)
theorem Cod.cd {cd : Int32} {n : Nat} {f : Nat → Int32} {V : Cell} (h : Cod cd n f V) : cd = 0 ∨ cd = 1 := h.imp (fun q => q.1) fun q => q.1
theorem Cod.len {cd : Int32} {n : Nat} {f : Nat → Int32} {V : Cell} (h : Cod cd n f V) (hs : V.slots.size < 2 ^ 31) : Int32.ofNat V.slots.size >>> (cd &&& 31) = Int32.ofNat n := by
  rcases h with ⟨rfl, h, -⟩ | ⟨rfl, h, -⟩
  · rw [shr0, h]
  · rw [h, shr1 (by omega)]
/-- **x is a String of the n chars f 0 .. f (n - 1)**, Latin-1 or UTF-16; its array at t has the cell V -/
def Txt (x t : Addr) (V : Cell) (cd : Int32) (n : Nat) (f : Nat → Int32) (U : State) : Prop := Exact "java/lang/String" x U ∧ Has x "java/lang/String" "value" "[B" (.ref t) U ∧ Has x "java/lang/String" "coder" "B" (.int cd) U ∧ XT.Arr .byte t V U ∧ Cod cd n f V ∧ ∀ j, j < n → ¬ f j < 0 ∧ ¬ 65535 < f j
theorem Txt.mv {x t : Addr} {V : Cell} {cd : Int32} {n : Nat} {f : Nat → Int32} {U U' : State} (h : Txt x t V cd n f U) (hal : U.vm.Alike U'.vm) (hh : U'.heap = U.heap) : Txt x t V cd n f U' := ⟨h.1.mv hal hh, h.2.1.mv hal hh, h.2.2.1.mv hal hh, h.2.2.2.1.mv hal hh, h.2.2.2.2⟩
namespace Cdr
def yN : MethodName := ⟨"java/lang/String", "coder", "()B"⟩
abbrev yB : ByteArray := jdk_42_method_152_code
theorem d0 : decode yB 0 = .ok (.getstatic 38, 3) := by decide +kernel
theorem d3 : decode yB 3 = .ok (.ifCond (.eq) 10, 3) := by decide +kernel
theorem d6 : decode yB 6 = .ok (.aload_n 0, 1) := by decide +kernel
theorem d7 : decode yB 7 = .ok (.getfield 15, 3) := by decide +kernel
theorem d10 : decode yB 10 = .ok (.goto 4, 3) := by decide +kernel
theorem d14 : decode yB 14 = .ok (.ireturn, 1) := by decide +kernel
def site : List Cond := [.fieldLink "java/lang/String" 38 "java/lang/String" "COMPACT_STRINGS" "Z", .fieldLink "java/lang/String" 15 "java/lang/String" "coder" "B"]
def tab : Cond := tabOf yN yB 1 (some .byte) site
def P (x : Addr) (cd z : Int32) (args : Array Value) (s : State) : Prop := args = #[.ref x] ∧ Has x "java/lang/String" "coder" "B" (.int cd) s ∧ (cd = 0 ∨ cd = 1) ∧ StaticIs s "java/lang/String" "COMPACT_STRINGS" "Z" (.int z) ∧ ¬ z = 0
def E (cd : Int32) (r : Option Value) (s u : State) : Prop := XT.PureE (some (.int cd)) r s u
theorem law (l : Launch) (x : Addr) (cd z : Int32) : Law l yN 1 0 0 0 yB 1 (some .byte) site (P x cd z) (E cd) [] 0 0 := by
  refine Law.of_walk (plainFor_of_name (by decide +kernel)) (by decide +kernel) (by decide +kernel) (by decide) (fun _ _ h => by rw [h.1]; rfl) (fun _ U U' hal hh h => ⟨h.1, h.2.1.mv hal hh, h.2.2.1, h.2.2.2.1.there hal hh, h.2.2.2.2⟩) (fun r U U' V V' h1 hal h2 h => XT.PureE.mv r U U' V V' h1 hal h2 h) ?_
  intro p e s m args below meth c s₁ X0 hexec hbytes hml hret hlk hnm hown hh0 W hP
  obtain ⟨rfl, hx, hc, s1, hz⟩ := hP
  have c1 : Steps p.tables e below (s₁.setTop (entryFrame m #[.ref x] 1)) (s₁.setTop (mkF m 0 #[.val (.ref x)] [])) := entry rfl
  obtain ⟨T2, X2, q2, st2⟩ := X0.sget hexec hown (wk W (.fieldLink "java/lang/String" 38 "java/lang/String" "COMPACT_STRINGS" "Z")) s1 (fun _ _ h => by rw [hh0]; exact h) (g := (mkF m 0 #[.val (.ref x)] [])) rfl (hb hbytes d0)
  have hh2 := q2.trans hh0
  have c3 : Steps p.tables e below (s₁.setTop (entryFrame m #[.ref x] 1)) (T2.setTop (mkF m 7 #[.val (.ref x)] [.ref x])) := (c1.trans (st2 _ (Steps.refl _))).trans (by
    refine XS.ifNo X2.here hexec rfl (hb hbytes d3) rfl (i0_eq_f hz) ?_
    refine XS.aloadN X2.here hexec rfl (hb hbytes d6) rfl rfl ?_
    exact Steps.refl _)
  obtain ⟨T4, X4, q4, st4⟩ := X2.hget hexec hown (wk W (.fieldLink "java/lang/String" 15 "java/lang/String" "coder" "B")) (hx.mv X2.warmed.alike hh2) (g := (mkF m 7 #[.val (.ref x)] [.ref x])) rfl (rest := []) rfl (hb hbytes d7)
  have c5 : Steps p.tables e below (s₁.setTop (entryFrame m #[.ref x] 1)) (T4.setTop (mkF m 14 #[.val (.ref x)] [.int cd])) := (c3.trans (st4 _ (Steps.refl _))).trans (by
    refine XS.goto X4.here hexec rfl (pc0 := 10) rfl (hb hbytes d10) (by decide) rfl ?_
    exact Steps.refl _)
  exact ⟨T4, some (.int cd), _, _, _, X4, rfl, rfl, rfl, (fun h => by cases h), ⟨rfl, q4.trans hh2⟩, fun fs hl => c5.trans (X4.ireturnOut hexec hret (by rcases hc with rfl | rfl <;> rfl) (Or.inr (Or.inr (Or.inl rfl))) (hb hbytes d14) hl)⟩
end Cdr
namespace Len
def yN : MethodName := ⟨"java/lang/String", "length", "()I"⟩
abbrev yB : ByteArray := jdk_42_method_54_code
theorem d0 : decode yB 0 = .ok (.aload_n 0, 1) := by decide +kernel
theorem d1 : decode yB 1 = .ok (.getfield 9, 3) := by decide +kernel
theorem d4 : decode yB 4 = .ok (.arraylength, 1) := by decide +kernel
theorem d5 : decode yB 5 = .ok (.aload_n 0, 1) := by decide +kernel
theorem d6 : decode yB 6 = .ok (.invokevirtual 335, 3) := by decide +kernel
theorem d9 : decode yB 9 = .ok (.ishr, 1) := by decide +kernel
theorem d10 : decode yB 10 = .ok (.ireturn, 1) := by decide +kernel
def site : List Cond := [.fieldLink "java/lang/String" 9 "java/lang/String" "value" "[B", Cdr.tab] ++ virtW "java/lang/String" 335 "java/lang/String" Cdr.yN Cdr.yN
def tab : Cond := tabOf yN yB 1 (some .int) site
def P (x t : Addr) (V : Cell) (cd : Int32) (n : Nat) (f : Nat → Int32) (z : Int32) (args : Array Value) (s : State) : Prop := args = #[.ref x] ∧ Txt x t V cd n f s ∧ StaticIs s "java/lang/String" "COMPACT_STRINGS" "Z" (.int z) ∧ ¬ z = 0
def E (n : Nat) (r : Option Value) (s u : State) : Prop := XT.PureE (some (.int (Int32.ofNat n))) r s u
/-- length() of a String of n chars, in either coding -/
theorem law (l : Launch) (x t : Addr) (V : Cell) (cd : Int32) (n : Nat) (f : Nat → Int32) (z : Int32) : Law l yN 1 0 1 13 yB 1 (some .int) site (P x t V cd n f z) (E n) [] 0 0 := by
  refine Law.of_walk (plainFor_of_name (by decide +kernel)) (by decide +kernel) (by decide +kernel) (by decide) (fun _ _ h => by rw [h.1]; rfl) (fun _ U U' hal hh h => ⟨h.1, h.2.1.mv hal hh, h.2.2.1.there hal hh, h.2.2.2⟩) (fun r U U' V V' h1 hal h2 h => XT.PureE.mv r U U' V V' h1 hal h2 h) ?_
  intro p e s m args below meth c s₁ X0 hexec hbytes hml hret hlk hnm hown hh0 W hP
  obtain ⟨rfl, hx, s1, hz⟩ := hP
  have v31 := hx.2.2.2.1.2.2.2
  have c1 : Steps p.tables e below (s₁.setTop (entryFrame m #[.ref x] 1)) (s₁.setTop (mkF m 1 #[.val (.ref x)] [.ref x])) := Steps.trans (entry rfl) (by
    show Steps p.tables e below (s₁.setTop (mkF m 0 #[.val (.ref x)] [])) _
    refine XS.aloadN X0.here hexec rfl (hb hbytes d0) rfl rfl ?_
    exact Steps.refl _)
  obtain ⟨T2, X2, q2, st2⟩ := X0.hget hexec hown (wk W (.fieldLink "java/lang/String" 9 "java/lang/String" "value" "[B")) (hx.mv X0.warmed.alike hh0).2.1 (g := (mkF m 1 #[.val (.ref x)] [.ref x])) rfl (rest := []) rfl (hb hbytes d1)
  have hh2 := q2.trans hh0
  have hx2 := hx.mv X2.warmed.alike hh2
  have c3 : Steps p.tables e below (s₁.setTop (entryFrame m #[.ref x] 1)) (T2.setTop (mkF m 6 #[.val (.ref x)] [.ref x, .int (Int32.ofNat V.slots.size)])) := (c1.trans (st2 _ (Steps.refl _))).trans (by
    refine X2.alen hexec hx2.2.2.2.1 rfl rfl (hb hbytes d4) ?_
    refine XS.aloadN X2.here hexec rfl (hb hbytes d5) rfl rfl ?_
    exact Steps.refl _)
  obtain ⟨v4, T4, X4, E4, g4⟩ := X2.callV hexec (Cdr.law l x cd z) hown (wks W (virtW "java/lang/String" 335 "java/lang/String" Cdr.yN Cdr.yN)) rfl (by decide) (wk W Cdr.tab) (W := 1) (Nat.le_of_ble_eq_true rfl) (Nat.le_of_ble_eq_true rfl) (Nat.le_refl _) (Nat.le_refl _) (hx2.1.fc X2.warmed.alike) hx2.1.is (g := (mkF m 6 #[.val (.ref x)] [.ref x, .int (Int32.ofNat V.slots.size)])) rfl (by rw [hml]; rfl) c3 (argsL := []) (rest := [.int (Int32.ofNat V.slots.size)]) rfl rfl (by show 2 * 0 + (1 + 0) ≤ _; decide) (hb hbytes d6) (⟨rfl, hx2.2.2.1, hx.2.2.2.2.1.cd, s1.there X2.warmed.alike hh2, hz⟩)
  obtain ⟨rfl, q4⟩ := E4
  have c5 : Steps p.tables e below (s₁.setTop (entryFrame m #[.ref x] 1)) (T4.setTop (mkF m 10 #[.val (.ref x)] [.int (Int32.ofNat V.slots.size >>> (cd &&& 31))])) := Steps.trans g4 (by
    refine ishr X4.here hexec rfl (hb hbytes d9) rfl ?_
    exact Steps.refl _)
  rw [hx.2.2.2.2.1.len v31] at c5
  exact ⟨T4, some (.int (Int32.ofNat n)), _, _, _, X4, rfl, rfl, rfl, (fun h => by cases h), ⟨rfl, q4.trans hh2⟩, fun fs hl => c5.trans (X4.ireturnOut hexec hret rfl (Or.inl rfl) (hb hbytes d10) hl)⟩
theorem pays {l : Launch} {R : Room} {p : Program} {e : Env} {below : List Frame} {s : State} {sargs : Array Value} {len W : Nat} (x t : Addr) (V : Cell) (cd : Int32) (n : Nat) (f : Nat → Int32) (z : Int32) (htab : tab.before sargs s = true) (hfr : 2 ≤ R.frames) (hlo : W + 25 ≤ R.locals) :
    Back l R p e below s sargs yN len W (fun A₁ a₁ => A₁.cells + 0 ≤ R.cells ∧ A₁.slots + 0 ≤ R.slots ∧ P x t V cd n f z a₁ A₁.U) (fun A₁ _ v₁ B₁ => E n v₁ A₁.U B₁.U ∧ B₁.locs = A₁.locs ++ [] ∧ B₁.cells = A₁.cells + 0 ∧ B₁.slots = A₁.slots + 0) :=
  (law l x t V cd n f z).pays htab hfr (by omega)
end Len
namespace IsL
def yN : MethodName := ⟨"java/lang/String", "isLatin1", "()Z"⟩
abbrev yB : ByteArray := jdk_42_method_154_code
theorem d0 : decode yB 0 = .ok (.getstatic 38, 3) := by decide +kernel
theorem d3 : decode yB 3 = .ok (.ifCond (.eq) 14, 3) := by decide +kernel
theorem d6 : decode yB 6 = .ok (.aload_n 0, 1) := by decide +kernel
theorem d7 : decode yB 7 = .ok (.getfield 15, 3) := by decide +kernel
theorem d10 : decode yB 10 = .ok (.ifCond (.ne) 7, 3) := by decide +kernel
theorem d13 : decode yB 13 = .ok (.iconst 1, 1) := by decide +kernel
theorem d14 : decode yB 14 = .ok (.goto 4, 3) := by decide +kernel
theorem d17 : decode yB 17 = .ok (.iconst 0, 1) := by decide +kernel
theorem d18 : decode yB 18 = .ok (.ireturn, 1) := by decide +kernel
def site : List Cond := [.fieldLink "java/lang/String" 38 "java/lang/String" "COMPACT_STRINGS" "Z", .fieldLink "java/lang/String" 15 "java/lang/String" "coder" "B"]
def tab : Cond := tabOf yN yB 1 (some .boolean) site
def P (x : Addr) (cd z : Int32) (args : Array Value) (s : State) : Prop := args = #[.ref x] ∧ Has x "java/lang/String" "coder" "B" (.int cd) s ∧ (cd = 0 ∨ cd = 1) ∧ StaticIs s "java/lang/String" "COMPACT_STRINGS" "Z" (.int z) ∧ ¬ z = 0
def E (cd : Int32) (r : Option Value) (s u : State) : Prop := XT.PureE (some (.int (1 - cd))) r s u
theorem law (l : Launch) (x : Addr) (cd z : Int32) : Law l yN 1 0 0 0 yB 1 (some .boolean) site (P x cd z) (E cd) [] 0 0 := by
  refine Law.of_walk (plainFor_of_name (by decide +kernel)) (by decide +kernel) (by decide +kernel) (by decide) (fun _ _ h => by rw [h.1]; rfl) (fun _ U U' hal hh h => ⟨h.1, h.2.1.mv hal hh, h.2.2.1, h.2.2.2.1.there hal hh, h.2.2.2.2⟩) (fun r U U' V V' h1 hal h2 h => XT.PureE.mv r U U' V V' h1 hal h2 h) ?_
  intro p e s m args below meth c s₁ X0 hexec hbytes hml hret hlk hnm hown hh0 W hP
  obtain ⟨rfl, hx, hc, s1, hz⟩ := hP
  have c1 : Steps p.tables e below (s₁.setTop (entryFrame m #[.ref x] 1)) (s₁.setTop (mkF m 0 #[.val (.ref x)] [])) := entry rfl
  obtain ⟨T2, X2, q2, st2⟩ := X0.sget hexec hown (wk W (.fieldLink "java/lang/String" 38 "java/lang/String" "COMPACT_STRINGS" "Z")) s1 (fun _ _ h => by rw [hh0]; exact h) (g := (mkF m 0 #[.val (.ref x)] [])) rfl (hb hbytes d0)
  have hh2 := q2.trans hh0
  have c3 : Steps p.tables e below (s₁.setTop (entryFrame m #[.ref x] 1)) (T2.setTop (mkF m 7 #[.val (.ref x)] [.ref x])) := (c1.trans (st2 _ (Steps.refl _))).trans (by
    refine XS.ifNo X2.here hexec rfl (hb hbytes d3) rfl (i0_eq_f hz) ?_
    refine XS.aloadN X2.here hexec rfl (hb hbytes d6) rfl rfl ?_
    exact Steps.refl _)
  obtain ⟨T4, X4, q4, st4⟩ := X2.hget hexec hown (wk W (.fieldLink "java/lang/String" 15 "java/lang/String" "coder" "B")) (hx.mv X2.warmed.alike hh2) (g := (mkF m 7 #[.val (.ref x)] [.ref x])) rfl (rest := []) rfl (hb hbytes d7)
  have c5 : Steps p.tables e below (s₁.setTop (entryFrame m #[.ref x] 1)) (T4.setTop (mkF m 10 #[.val (.ref x)] [.int cd])) := c3.trans (st4 _ (Steps.refl _))
  have c6 : Steps p.tables e below (s₁.setTop (entryFrame m #[.ref x] 1)) (T4.setTop (mkF m 18 #[.val (.ref x)] [.int (1 - cd)])) := by
    rcases hc with rfl | rfl
    · exact c5.trans (by
        refine XS.ifNo X4.here hexec rfl (hb hbytes d10) rfl (i0_ne_f rfl) ?_
        refine iconstV X4.here hexec rfl 1 (hb hbytes d13) (by decide) ?_
        refine XS.goto X4.here hexec rfl (pc0 := 14) rfl (hb hbytes d14) (by decide) rfl ?_
        exact Steps.refl _)
    · exact c5.trans (by
        refine XS.ifYes X4.here hexec rfl (pc0 := 10) rfl (hb hbytes d10) rfl (i0_ne_t (by decide)) (by decide) rfl ?_
        refine iconstV X4.here hexec rfl 0 (hb hbytes d17) (by decide) ?_
        exact Steps.refl _)
  exact ⟨T4, some (.int (1 - cd)), _, _, _, X4, rfl, rfl, rfl, (fun h => by cases h), ⟨rfl, q4.trans hh2⟩, fun fs hl => c6.trans (X4.ireturnOut hexec hret (by rcases hc with rfl | rfl <;> rfl) (Or.inr (Or.inl rfl)) (hb hbytes d18) hl)⟩
end IsL
namespace LChA
def yN : MethodName := ⟨"java/lang/StringLatin1", "charAt", "([BI)C"⟩
abbrev yB : ByteArray := jdk_43_method_2_code
theorem d0 : decode yB 0 = .ok (.iload_n 1, 1) := by decide +kernel
theorem d1 : decode yB 1 = .ok (.aload_n 0, 1) := by decide +kernel
theorem d2 : decode yB 2 = .ok (.arraylength, 1) := by decide +kernel
theorem d3 : decode yB 3 = .ok (.invokestatic 9, 3) := by decide +kernel
theorem d6 : decode yB 6 = .ok (.aload_n 0, 1) := by decide +kernel
theorem d7 : decode yB 7 = .ok (.iload_n 1, 1) := by decide +kernel
theorem d8 : decode yB 8 = .ok (.baload, 1) := by decide +kernel
theorem d9 : decode yB 9 = .ok (.sipush 255, 3) := by decide +kernel
theorem d12 : decode yB 12 = .ok (.iand, 1) := by decide +kernel
theorem d13 : decode yB 13 = .ok (.i2c, 1) := by decide +kernel
theorem d14 : decode yB 14 = .ok (.ireturn, 1) := by decide +kernel
def site : List Cond := [JO.Str_checkIndex.tab] ++ staticW "java/lang/StringLatin1" 9 JO.Str_checkIndex.yN
def tab : Cond := tabOf yN yB 2 (some .char) site
def P (t : Addr) (V : Cell) (i : Nat) (u : Int32) (fm : Value) (args : Array Value) (s : State) : Prop := args = #[.ref t, .int (Int32.ofNat i)] ∧ XT.Arr .byte t V s ∧ V.slots[i]? = some (.int u) ∧ (StaticIs s "jdk/internal/util/Preconditions" "SIOOBE_FORMATTER" "Ljava/util/function/BiFunction;" fm ∧ fm.isRef = true)
def E (u : Int32) (r : Option Value) (s w : State) : Prop := XT.PureE (some (.int (chr8 u))) r s w
theorem law (l : Launch) (t : Addr) (V : Cell) (i : Nat) (u : Int32) (fm : Value) : Law l yN 2 2 2 27 yB 2 (some .char) site (P t V i u fm) (E u) [] 0 0 := by
  refine Law.of_walk (plainFor_of_name (by decide +kernel)) (by decide +kernel) (by decide +kernel) (by decide) (fun _ _ h => by rw [h.1]; rfl) (fun _ U U' hal hh h => ⟨h.1, h.2.1.mv hal hh, h.2.2.1, h.2.2.2.1.there hal hh, h.2.2.2.2⟩) (fun r U U' V V' h1 hal h2 h => XT.PureE.mv r U U' V V' h1 hal h2 h) ?_
  intro p e s m args below meth c s₁ X0 hexec hbytes hml hret hlk hnm hown hh0 W hP
  obtain ⟨rfl, hV, hu, s1, rf⟩ := hP
  have v31 := hV.2.2.2
  have hi : i < V.slots.size := (Array.getElem?_eq_some_iff.mp hu).1
  have c1 : Steps p.tables e below (s₁.setTop (entryFrame m #[.ref t, .int (Int32.ofNat i)] 2)) (s₁.setTop (mkF m 0 #[.val (.ref t), .val (.int (Int32.ofNat i))] [])) := entry rfl
  have c2 : Steps p.tables e below (s₁.setTop (entryFrame m #[.ref t, .int (Int32.ofNat i)] 2)) (s₁.setTop (mkF m 3 #[.val (.ref t), .val (.int (Int32.ofNat i))] [.int (Int32.ofNat V.slots.size), .int (Int32.ofNat i)])) := c1.trans (by
    refine XS.iloadN X0.here hexec rfl (hb hbytes d0) rfl ?_
    refine XS.aloadN X0.here hexec rfl (hb hbytes d1) rfl rfl ?_
    refine X0.alen hexec (hV.mv X0.warmed.alike hh0) rfl rfl (hb hbytes d2) ?_
    exact Steps.refl _)
  obtain ⟨v3, T3, X3, E3, g3⟩ := X0.callS hexec (JO.Str_checkIndex.law l (Int32.ofNat i) (Int32.ofNat V.slots.size) fm) hown (wks W (staticW "java/lang/StringLatin1" 9 JO.Str_checkIndex.yN)) (wk W JO.Str_checkIndex.tab) (W := 0) (Nat.le_of_ble_eq_true rfl) (Nat.le_of_ble_eq_true rfl) (Nat.le_refl _) (Nat.le_refl _) (g := (mkF m 3 #[.val (.ref t), .val (.int (Int32.ofNat i))] [.int (Int32.ofNat V.slots.size), .int (Int32.ofNat i)])) rfl (by rw [hml]; rfl) c2 (argsL := [.int (Int32.ofNat i), .int (Int32.ofNat V.slots.size)]) (rest := []) rfl rfl (by show 2 * 0 + 0 ≤ _; decide) (hb hbytes d3) (⟨rfl, rf, s1.there X0.warmed.alike hh0, Int32.ofNat_not_neg (by omega), lt32 v31 hi⟩)
  obtain ⟨rfl, q3⟩ := E3
  have hh3 := q3.trans hh0
  have c4 : Steps p.tables e below (s₁.setTop (entryFrame m #[.ref t, .int (Int32.ofNat i)] 2)) (T3.setTop (mkF m 14 #[.val (.ref t), .val (.int (Int32.ofNat i))] [.int (chr8 u)])) := Steps.trans g3 (by
    refine XS.aloadN X3.here hexec rfl (hb hbytes d6) rfl rfl ?_
    refine XS.iloadN X3.here hexec rfl (hb hbytes d7) rfl ?_
    refine X3.aget hexec (hV.mv X3.warmed.alike hh3) rfl hu rfl rfl (hb hbytes d8) ?_
    refine sipushV X3.here hexec rfl 255 (hb hbytes d9) (by decide) ?_
    refine XS.iand X3.here hexec rfl (hb hbytes d12) rfl ?_
    refine i2c X3.here hexec rfl (hb hbytes d13) rfl ?_
    exact Steps.refl _)
  exact ⟨T3, some (.int (chr8 u)), _, _, _, X3, rfl, rfl, rfl, (fun h => by cases h), ⟨rfl, hh3⟩, fun fs hl => c4.trans (X3.ireturnOut hexec hret (narrow_c _) (Or.inr (Or.inr (Or.inr (Or.inl rfl)))) (hb hbytes d14) hl)⟩
end LChA
end StrChars
namespace StrChars.Road
open Jvm Sem ClassFile Op Lib Jvm.Stand Jvm.Free Jvm.Free.XT
open Jvm.Lib.Cold (StaticIs)
theorem consq {a : Array Value} {s : State} {c : Jvm.Cond} {L : List Jvm.Cond} (h0 : c.before a s = true) (h : ∀ w ∈ L, w.before a s = true) : ∀ w ∈ c :: L, w.before a s = true := fun w hw => (List.mem_cons.mp hw).elim (fun e => e ▸ h0) (h w)
/-- the words of String.length(), either coding -/
abbrev wordsLen : List Jvm.Cond := [.code Len.yN Len.yB 1 (some .int), .initialized ST, .fieldLink ST 9 ST "value" "[B", .fieldLink ST 38 ST "COMPACT_STRINGS" "Z", .fieldLink ST 15 ST "coder" "B", .code Cdr.yN Cdr.yB 1 (some .byte), .methodLink ST 335 Cdr.yN, .declares Cdr.yN, .selects ST Cdr.yN Cdr.yN, .instanceMethod Cdr.yN]
theorem tabLen_of {a : Array Value} {s : State} (h : ∀ w ∈ wordsLen, w.before a s = true) : Len.tab.before a s = true := by
  have hc : Cdr.tab.before a s = true := unparts (wk h (.code Cdr.yN Cdr.yB 1 (some .byte))) (wks h (.initialized Cdr.yN.cls :: Cdr.site))
  have q := consq hc h
  exact unparts (wk q (.code Len.yN Len.yB 1 (some .int))) (wks q (.initialized Len.yN.cls :: Len.site))
theorem movedLen {Z s : State} {a0 args : Array Value} (hZ : Z.Warmed39 s.vm) (hw : ∀ d ∈ wordsLen, d.before a0 Z = true) : ∀ d ∈ wordsLen, d.before args s = true := fun d hd => by
  have q := hw d hd
  have t : ∀ d ∈ wordsLen, d = .arrayClass .byte ∨ (d.onTables && d.keepsFace) = true := by decide +kernel
  rcases t d hd with rfl | t
  · exact RoadKit.mvA hZ q
  · exact RoadKit.mv hZ q t
/-- the bytes of the chars cs, low before high -/
def wideBytes : List Int32 → List Value
  | [] => []
  | c :: cs => .int (lo8 c) :: .int (hi8 c) :: wideBytes cs
theorem wide_lo (d : Value) : ∀ (cs : List Int32) (j : Nat), j < cs.length → (wideBytes cs).getD (2 * j) d = .int (lo8 (cs.getD j 0))
  | [], j, h => absurd h (Nat.not_lt_zero j)
  | c :: cs, 0, _ => rfl
  | c :: cs, j + 1, h => by
    have q := wide_lo d cs j (by simpa using h)
    rw [show 2 * (j + 1) = 2 * j + 1 + 1 from by omega]
    simpa [wideBytes] using q
theorem wide_hi (d : Value) : ∀ (cs : List Int32) (j : Nat), j < cs.length → (wideBytes cs).getD (2 * j + 1) d = .int (hi8 (cs.getD j 0))
  | [], j, h => absurd h (Nat.not_lt_zero j)
  | c :: cs, 0, _ => rfl
  | c :: cs, j + 1, h => by
    have q := wide_hi d cs j (by simpa using h)
    rw [show 2 * (j + 1) + 1 = 2 * j + 1 + 1 + 1 from by omega]
    simpa [wideBytes] using q
theorem low_at (d : Value) (cs : List Int32) (j : Nat) (h : j < cs.length) : (cs.map fun c => Value.int (lo8 c)).getD j d = .int (lo8 (cs.getD j 0)) := by
  simp [List.getD_eq_getElem?_getD, h]
/-- an array of N2 bytes vs codes the chars cs by the coder cd -/
def CodA (cs : List Int32) (cd N2 : Int32) (vs : List Value) : Prop := (cd = 0 ∧ N2 = Int32.ofNat cs.length ∧ vs = (cs.map fun c => Value.int (lo8 c)) ∧ ∀ c ∈ cs, ¬ 255 < c) ∨ (cd = 1 ∧ N2 = Int32.ofNat (2 * cs.length) ∧ vs = wideBytes cs ∧ ∃ c ∈ cs, 255 < c)
theorem CodA.cod {cs : List Int32} {cd N2 : Int32} {vs : List Value} {V : Cell} (h : CodA cs cd N2 vs) (hn : 2 * cs.length < 2 ^ 31) (hs : V.slots.size = N2.toNatClampNeg) (hv : RoadKit.Has V vs (.int 0)) : Cod cd cs.length (fun j => cs.getD j 0) V := by
  rcases h with ⟨rfl, rfl, rfl, h⟩ | ⟨rfl, rfl, rfl, c, hc, hw⟩
  · rw [n32 (by omega)] at hs
    exact Or.inl ⟨rfl, hs, fun j hj => ⟨by rw [hv j (by omega), low_at _ _ _ hj], by
      have e : cs.getD j 0 = cs[j] := by simp [List.getD_eq_getElem?_getD, hj]
      show ¬ 255 < cs.getD j 0
      rw [e]; exact h _ (List.getElem_mem _)⟩⟩
  · rw [n32 (by omega)] at hs
    obtain ⟨j, hj, rfl⟩ := List.getElem_of_mem hc
    exact Or.inr ⟨rfl, hs, fun j hj => ⟨by rw [hv _ (by omega), wide_lo _ _ _ hj], by rw [hv _ (by omega), wide_hi _ _ _ hj]⟩, j, hj, by
      have e : cs.getD j 0 = cs[j] := by simp [List.getD_eq_getElem?_getD, hj]
      show 255 < cs.getD j 0
      rw [e]; exact hw⟩
/-- an object of exactly java/lang/String, its two fields found: as the laws ask it -/
theorem strObj {Z U : State} {a0 : Array Value} {kI : Nat} (wi : (Jvm.Cond.instantiable ST kI).before a0 Z = true) (al : Z.vm.Alike U.vm) {x : Addr} {v0 c0 : Value} (E : RoadKit.Exa Z U.heap x ST) (V : RoadKit.Fld Z U.heap x ST "value" "[B" v0) (C : RoadKit.Fld Z U.heap x ST "coder" "B" c0) :
    ∃ (D : Cell) (fV fC : Field), Blank ST x D U ∧ Found ST "value" "[B" fV U ∧ Found ST "coder" "B" fC U ∧ D.slots[fV.slot]? = some v0 ∧ D.slots[fC.slot]? = some c0 ∧ RoadKit.slotOf Z ST "value" "[B" = fV.slot ∧ RoadKit.slotOf Z ST "coder" "B" = fC.slot := by
  obtain ⟨D, cfV, kV, iV, fV, hD, gV, stV, knV, obV, asV, slV⟩ := V
  obtain ⟨D', cfC, kC, iC, fC, hD', gC, stC, -, -, asC, slC⟩ := C
  cases hD.symm.trans hD'
  obtain ⟨D2, kD, e1, e2, e3, e4, e5⟩ := E
  cases hD.symm.trans e1
  obtain ⟨c2, k2, i1, i2, i3, -⟩ := Cond.instantiable_spec wi
  cases e2.symm.trans i1
  cases e3.symm.trans i2
  obtain ⟨kU, u1, u2⟩ := al.2.2 _ _ e3
  exact ⟨D, fV, fC, ⟨hD, ⟨knV, fun q hq => by rw [hq] at obV; cases obV⟩, by rw [al.findClass]; exact e2, kU, u1, by rw [u2]; exact i3, by rw [u2]; exact e5 i3⟩, ⟨SBG.found_only al ⟨cfV, kV, iV, gV⟩, stV⟩, ⟨SBG.found_only al ⟨cfC, kC, iC, gC⟩, stC⟩, slV, slC, by simp [RoadKit.slotOf, gV], by simp [RoadKit.slotOf, gC]⟩
theorem sta_is {Z U : State} (al : Z.vm.Alike U.vm) {C n d : String} {v : Value} (S : RoadKit.Sta Z U.heap C n d v) : StaticIs U C n d v := by
  obtain ⟨cfS, iS, kS, fS, st, cS, t1, t2, t3, t4, t5, t6, t7⟩ := S
  exact StaticIs.there (s := { Z with heap := U.heap }) ⟨cfS, iS, kS, fS, st, cS, t1, t2, t3, t4, t5, (fun q => by rw [q] at t6; cases t6), t7⟩ al rfl
/-- **length() OF SUCH A STRING** -/
theorem lenW {p : Program} {l : Launch} {e : Env} {R : Room} {s : State} {args : Array Value} {below : List Frame} {len W : Nat} {Z : State} {a0 : Array Value} {h : Heap} (hZ : Z.Warmed39 s.vm) (hw : ∀ d ∈ wordsLen, d.before a0 Z = true) {kI : Nat} (wi : (Jvm.Cond.instantiable ST kI).before a0 Z = true)
    {x t : Addr} {kb : ClassId} {cs : List Int32} {cd N2 z : Int32} {vs : List Value} (E : RoadKit.Exa Z h x ST) (V : RoadKit.Fld Z h x ST "value" "[B" (.ref t)) (C : RoadKit.Fld Z h x ST "coder" "B" (.int cd)) (K : RoadKit.Arv Z h t kb .byte N2 vs (.int 0)) (hc : CodA cs cd N2 vs) (hb : ∀ c ∈ cs, ¬ c < 0 ∧ ¬ (65535 : Int32) < c)
    (S : RoadKit.Sta Z h ST "COMPACT_STRINGS" "Z" (.int z)) (hz : ¬ z = 0) (l2 : cs.length ≤ 4000) (hfr : 2 ≤ R.frames) (hlo : W + 25 ≤ R.locals) :
    Back l R p e below s args (⟨"java/lang/String", "length", "()I"⟩ : MethodName) len W (fun P a => a = #[.ref x] ∧ P.U.heap = h ∧ P.cells + 0 ≤ R.cells ∧ P.slots + 0 ≤ R.slots)
      (fun P _ v B => ∃ L, (v = some (.int (Int32.ofNat cs.length)) ∧ L = [] ∧ B.U.heap = h) ∧ B.locs = P.locs ++ L ∧ B.cells = P.cells + 0 ∧ B.slots = P.slots + 0) := by
  obtain ⟨A, K1, K2, K3, K4, K5, K6⟩ := K
  have hcod := hc.cod (by omega) K3 K5
  intro m meth c P g ig mk a X hg hsize hdg hW hn hp'
  obtain ⟨rfl, rfl, r1, r2⟩ := hp'
  have al : Z.vm.Alike P.U.vm := hZ.alike.trans X.warmed.alike
  obtain ⟨D, fV, fC, hB, F1, F2, g1, g2, -, -⟩ := strObj wi al E V C
  have hx : Txt x t A cd cs.length (fun j => cs.getD j 0) P.U := ⟨⟨_, hB.2.2.1, D, hB.1, rfl, by cases q : D.vm <;> first | rfl | exact absurd q (hB.2.1.2 _)⟩, Has.of hB F1 g1, Has.of hB F2 g2, ⟨K1.1, State.isArrayOf_alike al K1.2.1, K1.2.2, by rcases hcod with ⟨-, q, -⟩ | ⟨-, q, -⟩ <;> omega⟩, hcod, fun j hj => by
    have e : cs.getD j 0 = cs[j] := by simp [List.getD_eq_getElem?_getD, hj]
    show ¬ cs.getD j 0 < 0 ∧ ¬ 65535 < cs.getD j 0
    rw [e]; exact hb _ (List.getElem_mem _)⟩
  obtain ⟨v, B, X', ⟨⟨hv, hh⟩, hl, hk, hs⟩, st⟩ := Len.pays x t A cd cs.length (fun j => cs.getD j 0) z (tabLen_of (movedLen hZ hw)) hfr hlo m meth c P g ig mk _ X hg hsize hdg hW hn ⟨r1, r2, rfl, hx, sta_is al S, hz⟩
  exact ⟨v, B, X', ⟨[], ⟨hv, rfl, hh⟩, hl, hk, hs⟩, st⟩
end StrChars.Road
namespace StrChars
open Jvm Sem ClassFile Op Lib Jvm.Stand Jvm.Free.XT Jvm.Free.ALB Jvm.Free.JM Jvm.Free
open Jvm.Lib.Cold (StaticIs)
/-- what place i of a byte[]'s cell holds -/
def yv (A : Cell) (i : Nat) : Int32 := match A.slots[i]? with | some (.int x) => x | _ => 0
theorem yv_get {a : Addr} {A : Cell} {U : State} (h : XT.Arr .byte a A U) (ht : Typed .byte A) {i : Nat} (hi : i < A.slots.size) : A.slots[i]? = some (.int (yv A i)) := by
  have e := Array.getElem?_eq_getElem hi
  have f := ht i _ e
  unfold yv; rw [e]
  generalize A.slots[i] = v at f
  cases v <;> simp [fits] at f ⊢
/-- the two arrays are equal, place for place -/
def EqC (A B : Cell) : Prop := A.slots.size = B.slots.size ∧ ∀ i, i < A.slots.size → yv A i = yv B i
/-- a boolean that says whether p -/
def Says01 (q : Prop) (r : Option Value) (s u : State) : Prop := ∃ v : Int32, r = some (.int v) ∧ u.heap = s.heap ∧ ((v = 1 ∧ q) ∨ (v = 0 ∧ ¬ q))
theorem Says01.mv {q : Prop} : ∀ r (U U' V V' : State), U'.heap = U.heap → V.vm.Alike V'.vm → V'.heap = V.heap → Says01 q r U V → Says01 q r U' V' :=
  fun r U U' V V' h1 _ h2 ⟨v, a, b, c⟩ => ⟨v, a, by rw [h1, h2]; exact b, c⟩
namespace LEq
def yN : MethodName := ⟨"java/lang/StringLatin1", "equals", "([B[B)Z"⟩
abbrev yB : ByteArray := jdk_43_method_13_code
theorem d0 : decode yB 0 = .ok (.aload_n 0, 1) := by decide +kernel
theorem d1 : decode yB 1 = .ok (.arraylength, 1) := by decide +kernel
theorem d2 : decode yB 2 = .ok (.aload_n 1, 1) := by decide +kernel
theorem d3 : decode yB 3 = .ok (.arraylength, 1) := by decide +kernel
theorem d4 : decode yB 4 = .ok (.if_icmp (.ne) 30, 3) := by decide +kernel
theorem d7 : decode yB 7 = .ok (.iconst 0, 1) := by decide +kernel
theorem d8 : decode yB 8 = .ok (.istore_n 2, 1) := by decide +kernel
theorem d9 : decode yB 9 = .ok (.iload_n 2, 1) := by decide +kernel
theorem d10 : decode yB 10 = .ok (.aload_n 0, 1) := by decide +kernel
theorem d11 : decode yB 11 = .ok (.arraylength, 1) := by decide +kernel
theorem d12 : decode yB 12 = .ok (.if_icmp (.ge) 20, 3) := by decide +kernel
theorem d15 : decode yB 15 = .ok (.aload_n 0, 1) := by decide +kernel
theorem d16 : decode yB 16 = .ok (.iload_n 2, 1) := by decide +kernel
theorem d17 : decode yB 17 = .ok (.baload, 1) := by decide +kernel
theorem d18 : decode yB 18 = .ok (.aload_n 1, 1) := by decide +kernel
theorem d19 : decode yB 19 = .ok (.iload_n 2, 1) := by decide +kernel
theorem d20 : decode yB 20 = .ok (.baload, 1) := by decide +kernel
theorem d21 : decode yB 21 = .ok (.if_icmp (.eq) 5, 3) := by decide +kernel
theorem d24 : decode yB 24 = .ok (.iconst 0, 1) := by decide +kernel
theorem d25 : decode yB 25 = .ok (.ireturn, 1) := by decide +kernel
theorem d26 : decode yB 26 = .ok (.iinc 2 1, 3) := by decide +kernel
theorem d29 : decode yB 29 = .ok (.goto (-20), 3) := by decide +kernel
theorem d32 : decode yB 32 = .ok (.iconst 1, 1) := by decide +kernel
theorem d33 : decode yB 33 = .ok (.ireturn, 1) := by decide +kernel
theorem d34 : decode yB 34 = .ok (.iconst 0, 1) := by decide +kernel
theorem d35 : decode yB 35 = .ok (.ireturn, 1) := by decide +kernel
def site : List Cond := []
def tab : Cond := tabOf yN yB 3 (some .boolean) site
def P (a : Addr) (A : Cell) (b : Addr) (B : Cell) (args : Array Value) (s : State) : Prop := args = #[.ref a, .ref b] ∧ XT.Arr .byte a A s ∧ Typed .byte A ∧ XT.Arr .byte b B s ∧ Typed .byte B
/-- whether two byte[] are equal, place for place -/
theorem law (l : Launch) (a : Addr) (A : Cell) (b : Addr) (B : Cell) : Law l yN 2 2 0 0 yB 3 (some .boolean) site (P a A b B) (Says01 (EqC A B)) [] 0 0 := by
  refine Law.of_walk (plainFor_of_name (by decide +kernel)) (by decide +kernel) (by decide +kernel) (by decide) (fun _ _ h => by rw [h.1]; rfl) (fun _ U U' hal hh h => ⟨h.1, h.2.1.mv hal hh, h.2.2.1, h.2.2.2.1.mv hal hh, h.2.2.2.2⟩) (fun r U U' V V' h1 hal h2 h => Says01.mv r U U' V V' h1 hal h2 h) ?_
  intro p e s m args below meth c s₁ X0 hexec hbytes hml hret hlk hnm hown hh0 W hP
  obtain ⟨rfl, hA, tA, hB, tB⟩ := hP
  have a31 := hA.2.2.2
  have b31 := hB.2.2.2
  have hA0 := hA.mv X0.warmed.alike hh0
  have hB0 := hB.mv X0.warmed.alike hh0
  have c1 : Steps p.tables e below (s₁.setTop (entryFrame m #[.ref a, .ref b] 3)) (s₁.setTop (mkF m 0 #[.val (.ref a), .val (.ref b), .unset] [])) := entry rfl
  have c2 : Steps p.tables e below (s₁.setTop (entryFrame m #[.ref a, .ref b] 3)) (s₁.setTop (mkF m 4 #[.val (.ref a), .val (.ref b), .unset] [.int (Int32.ofNat B.slots.size), .int (Int32.ofNat A.slots.size)])) := c1.trans (by
    refine XS.aloadN X0.here hexec rfl (hb hbytes d0) rfl rfl ?_
    refine X0.alen hexec hA0 rfl rfl (hb hbytes d1) ?_
    refine XS.aloadN X0.here hexec rfl (hb hbytes d2) rfl rfl ?_
    refine X0.alen hexec hB0 rfl rfl (hb hbytes d3) ?_
    exact Steps.refl _)
  by_cases hs : A.slots.size = B.slots.size
  · have c3 : Steps p.tables e below (s₁.setTop (entryFrame m #[.ref a, .ref b] 3)) (s₁.setTop (mkF m 9 #[.val (.ref a), .val (.ref b), .val (.int 0)] [])) := c2.trans (by
      refine XS.icmpNo X0.here hexec rfl (hb hbytes d4) rfl (ii_ne_f (by rw [hs])) ?_
      refine iconstV X0.here hexec rfl 0 (hb hbytes d7) (by decide) ?_
      refine XS.istoreN X0.here hexec rfl (hb hbytes d8) rfl rfl ?_
      exact Steps.refl _)
    have loop : ∀ (r i : Nat), i + r = A.slots.size → (∀ j, j < i → yv A j = yv B j) → Steps p.tables e below (s₁.setTop (entryFrame m #[.ref a, .ref b] 3)) (s₁.setTop (mkF m 9 #[.val (.ref a), .val (.ref b), .val (.int (Int32.ofNat i))] [])) → ∃ (pc : Nat) (Ls : Array Slot) (v : Int32), (pc = 25 ∨ pc = 33) ∧ ((v = 1 ∧ EqC A B) ∨ (v = 0 ∧ ¬ EqC A B)) ∧ Steps p.tables e below (s₁.setTop (entryFrame m #[.ref a, .ref b] 3)) (s₁.setTop (mkF m pc Ls [.int v])) := by
      intro r
      induction r with
      | zero =>
        intro i hi he cl
        exact ⟨33, _, 1, Or.inr rfl, Or.inl ⟨rfl, hs, fun j hj => he j (by omega)⟩, cl.trans (by
          refine XS.iloadN X0.here hexec rfl (hb hbytes d9) rfl ?_
          refine XS.aloadN X0.here hexec rfl (hb hbytes d10) rfl rfl ?_
          refine X0.alen hexec hA0 rfl rfl (hb hbytes d11) ?_
          refine XS.icmpYes X0.here hexec rfl (pc0 := 12) rfl (hb hbytes d12) rfl (ii_ge_t (nlt32 (by omega) (by omega))) (by decide) rfl ?_
          refine iconstV X0.here hexec rfl 1 (hb hbytes d32) (by decide) ?_
          exact Steps.refl _)⟩
      | succ r ih =>
        intro i hi he cl
        have c4 : Steps p.tables e below (s₁.setTop (entryFrame m #[.ref a, .ref b] 3)) (s₁.setTop (mkF m 21 #[.val (.ref a), .val (.ref b), .val (.int (Int32.ofNat i))] [.int (yv B i), .int (yv A i)])) := cl.trans (by
          refine XS.iloadN X0.here hexec rfl (hb hbytes d9) rfl ?_
          refine XS.aloadN X0.here hexec rfl (hb hbytes d10) rfl rfl ?_
          refine X0.alen hexec hA0 rfl rfl (hb hbytes d11) ?_
          refine XS.icmpNo X0.here hexec rfl (hb hbytes d12) rfl (ii_ge_f (lt32 (by omega) (by omega))) ?_
          refine XS.aloadN X0.here hexec rfl (hb hbytes d15) rfl rfl ?_
          refine XS.iloadN X0.here hexec rfl (hb hbytes d16) rfl ?_
          refine X0.aget hexec hA0 rfl (yv_get hA tA (i := i) (by omega)) rfl rfl (hb hbytes d17) ?_
          refine XS.aloadN X0.here hexec rfl (hb hbytes d18) rfl rfl ?_
          refine XS.iloadN X0.here hexec rfl (hb hbytes d19) rfl ?_
          refine X0.aget hexec hB0 rfl (yv_get hB tB (i := i) (by omega)) rfl rfl (hb hbytes d20) ?_
          exact Steps.refl _)
        by_cases hv : yv A i = yv B i
        · have c5 : Steps p.tables e below (s₁.setTop (entryFrame m #[.ref a, .ref b] 3)) (s₁.setTop (mkF m 9 #[.val (.ref a), .val (.ref b), .val (.int (Int32.ofNat i + 1))] [])) := c4.trans (by
            refine XS.icmpYes X0.here hexec rfl (pc0 := 21) rfl (hb hbytes d21) rfl (ii_eq_t hv) (by decide) rfl ?_
            refine iincV X0.here hexec rfl 1 (hb hbytes d26) (by decide) rfl rfl ?_
            refine XS.goto X0.here hexec rfl (pc0 := 29) rfl (hb hbytes d29) (by decide) rfl ?_
            exact Steps.refl _)
          rw [succ32] at c5
          exact ih (i + 1) (by omega) (fun j hj => by
            by_cases e : j = i
            · rw [e]; exact hv
            · exact he j (by omega)) c5
        · exact ⟨25, _, 0, Or.inl rfl, Or.inr ⟨rfl, fun q => hv (q.2 i (by omega))⟩, c4.trans (by
            refine XS.icmpNo X0.here hexec rfl (hb hbytes d21) rfl (ii_eq_f hv) ?_
            refine iconstV X0.here hexec rfl 0 (hb hbytes d24) (by decide) ?_
            exact Steps.refl _)⟩
    obtain ⟨pc, Ls, v, hpc, hv, cz⟩ := loop A.slots.size 0 (by omega) (fun j hj => absurd hj (Nat.not_lt_zero j)) c3
    have nv : narrow .boolean (.int v) = .int v := by rcases hv with ⟨rfl, -⟩ | ⟨rfl, -⟩ <;> rfl
    rcases hpc with rfl | rfl
    · exact ⟨s₁, some (.int v), _, _, _, X0, rfl, rfl, rfl, (fun h => by cases h), ⟨v, rfl, hh0, hv⟩, fun fs hl => cz.trans (X0.ireturnOut hexec hret nv (Or.inr (Or.inl rfl)) (hb hbytes d25) hl)⟩
    · exact ⟨s₁, some (.int v), _, _, _, X0, rfl, rfl, rfl, (fun h => by cases h), ⟨v, rfl, hh0, hv⟩, fun fs hl => cz.trans (X0.ireturnOut hexec hret nv (Or.inr (Or.inl rfl)) (hb hbytes d33) hl)⟩
  · have c3 : Steps p.tables e below (s₁.setTop (entryFrame m #[.ref a, .ref b] 3)) (s₁.setTop (mkF m 35 #[.val (.ref a), .val (.ref b), .unset] [.int 0])) := c2.trans (by
      refine XS.icmpYes X0.here hexec rfl (pc0 := 4) rfl (hb hbytes d4) rfl (ii_ne_t (ne32 a31 b31 hs)) (by decide) rfl ?_
      refine iconstV X0.here hexec rfl 0 (hb hbytes d34) (by decide) ?_
      exact Steps.refl _)
    exact ⟨s₁, some (.int 0), _, _, _, X0, rfl, rfl, rfl, (fun h => by cases h), ⟨0, rfl, hh0, Or.inr ⟨rfl, fun q => hs q.1⟩⟩, fun fs hl => c3.trans (X0.ireturnOut hexec hret rfl (Or.inr (Or.inl rfl)) (hb hbytes d35) hl)⟩
end LEq
theorem Cod.ty {cd : Int32} {n : Nat} {f : Nat → Int32} {V : Cell} (h : Cod cd n f V) : Typed .byte V := fun i v hv => by
  have hi : i < V.slots.size := (Array.getElem?_eq_some_iff.mp hv).1
  rcases h with ⟨-, k1, k2⟩ | ⟨-, k1, k2, -⟩
  · rw [(k2 i (by omega)).1] at hv; cases hv; exact fits_lo8 _
  · rcases Nat.mod_two_eq_zero_or_one i with e | e
    · obtain ⟨j, rfl⟩ : ∃ j, i = 2 * j := ⟨i / 2, by omega⟩
      rw [(k2 j (by omega)).1] at hv; cases hv; exact fits_lo8 _
    · obtain ⟨j, rfl⟩ : ∃ j, i = 2 * j + 1 := ⟨i / 2, by omega⟩
      rw [(k2 j (by omega)).2] at hv; cases hv; exact fits_lo8 _
/-- the same text -/
def SameT (n : Nat) (f : Nat → Int32) (k : Nat) (g : Nat → Int32) : Prop := n = k ∧ ∀ j, j < n → f j = g j
theorem lo8_inj {x y : Int32} (h0 : ¬ x < 0) (h1 : ¬ 255 < x) (k0 : ¬ y < 0) (k1 : ¬ 255 < y) (h : lo8 x = lo8 y) : x = y := by
  rw [← lo8_mask h0 h1, ← lo8_mask k0 k1, h]
/-- arrays coded by one coder are equal just where the texts are -/
theorem Cod.eqv {cd : Int32} {n k : Nat} {f g : Nat → Int32} {V V' : Cell} (h : Cod cd n f V) (h' : Cod cd k g V') (hf : ∀ j, j < n → ¬ f j < 0 ∧ ¬ 65535 < f j) (hg : ∀ j, j < k → ¬ g j < 0 ∧ ¬ 65535 < g j) : EqC V V' ↔ SameT n f k g := by
  have yvv : ∀ {W : Cell} {i : Nat} {x : Int32}, W.slots[i]? = some (.int x) → yv W i = x := fun q => by unfold yv; rw [q]
  rcases h with ⟨rfl, k1, k2⟩ | ⟨rfl, k1, k2, -⟩
  · rcases h' with ⟨-, m1, m2⟩ | ⟨e, -⟩
    · constructor
      · rintro ⟨e1, e2⟩
        refine ⟨by omega, fun j hj => ?_⟩
        have q := e2 j (by omega)
        rw [yvv (k2 j hj).1, yvv (m2 j (by omega)).1] at q
        exact lo8_inj (hf j hj).1 (k2 j hj).2 (hg j (by omega)).1 (m2 j (by omega)).2 q
      · rintro ⟨rfl, e2⟩
        refine ⟨by omega, fun j hj => ?_⟩
        rw [yvv (k2 j (by omega)).1, yvv (m2 j (by omega)).1, e2 j (by omega)]
    · exact absurd e (by decide)
  · rcases h' with ⟨e, -⟩ | ⟨-, m1, m2, -⟩
    · exact absurd e (by decide)
    · constructor
      · rintro ⟨e1, e2⟩
        refine ⟨by omega, fun j hj => ?_⟩
        have q1 := e2 (2 * j) (by omega)
        have q2 := e2 (2 * j + 1) (by omega)
        rw [yvv (k2 j hj).1, yvv (m2 j (by omega)).1] at q1
        rw [yvv (k2 j hj).2, yvv (m2 j (by omega)).2] at q2
        rw [← pair_says (hf j hj).1 (hf j hj).2, ← pair_says (hg j (by omega)).1 (hg j (by omega)).2, q1, q2]
      · rintro ⟨rfl, e2⟩
        refine ⟨by omega, fun i hi => ?_⟩
        rcases Nat.mod_two_eq_zero_or_one i with e | e
        · obtain ⟨j, rfl⟩ : ∃ j, i = 2 * j := ⟨i / 2, by omega⟩
          rw [yvv (k2 j (by omega)).1, yvv (m2 j (by omega)).1, e2 j (by omega)]
        · obtain ⟨j, rfl⟩ : ∃ j, i = 2 * j + 1 := ⟨i / 2, by omega⟩
          rw [yvv (k2 j (by omega)).2, yvv (m2 j (by omega)).2, e2 j (by omega)]
/-- two codings differ: so do the texts -/
theorem Cod.dif {cd cd' : Int32} {n k : Nat} {f g : Nat → Int32} {V V' : Cell} (h : Cod cd n f V) (h' : Cod cd' k g V') (hne : ¬ cd = cd') : ¬ SameT n f k g := by
  rintro ⟨rfl, e⟩
  rcases h with ⟨rfl, -, k2⟩ | ⟨rfl, -, -, j, hj, hw⟩
  · rcases h' with ⟨rfl, -⟩ | ⟨-, -, -, j, hj, hw⟩
    · exact hne rfl
    · exact (k2 j hj).2 (by rw [e j hj]; exact hw)
  · rcases h' with ⟨-, -, m2⟩ | ⟨rfl, -⟩
    · exact (m2 j hj).2 (by rw [← e j hj]; exact hw)
    · exact hne rfl
/-- an object of exactly C is an instance of C -/
theorem cinst {p : Program} {l : Launch} {e : Env} {R : Room} {s : State} {m : MethodId} {args : Array Value} {below : List Frame} {meth : Method} {c : Code} {T : State} {locs : List Loc} {cells slots : Nat} (X : Stand p l e R s m args below meth c T locs cells slots) (hexec : p.tables.exec = Jvm.exec) {own C : String} {index : Nat} (hown : s.vm.findClass own = some m.cls) (hlink : (Cond.classLink own index C).before args s = true) {a : Addr} (hE : Exact C a T)
    {g : JFrame} (hg : g.method = m) {rest : List Value} (hstack : g.stack = .ref a :: rest) (hdg : decode c.code g.pc = .ok (.instanceof index, 3)) :
    ∃ T', Stand p l e R s m args below meth c T' locs cells slots ∧ T'.heap = T.heap ∧ ∀ target, Steps p.tables e below (T'.setTop { g with pc := g.pc + 3, stack := .int 1 :: rest }) target → Steps p.tables e below (T.setTop g) target := by
  obtain ⟨cB, h1, D, h2, h3, h4⟩ := hE
  have h1' : s.vm.findClass C = some cB := by rw [← X.warmed.alike.findClass]; exact h1
  obtain ⟨vm', X', st⟩ := X.instanceofYes hexec hown hlink h2 h4 h1' (by rw [h3]; exact Jvm.Free.SB.assignable_self _ _) hg hstack hdg
  exact ⟨_, X', rfl, st⟩
theorem cself {p : Program} {l : Launch} {e : Env} {R : Room} {s : State} {m : MethodId} {args : Array Value} {below : List Frame} {meth : Method} {c : Code} {T : State} {locs : List Loc} {cells slots : Nat} (X : Stand p l e R s m args below meth c T locs cells slots) (hexec : p.tables.exec = Jvm.exec) {own C : String} {index : Nat} (hown : s.vm.findClass own = some m.cls) (hlink : (Cond.classLink own index C).before args s = true) {a : Addr} (hE : Exact C a T)
    {g : JFrame} (hg : g.method = m) {rest : List Value} (hstack : g.stack = .ref a :: rest) (hdg : decode c.code g.pc = .ok (.checkcast index, 3)) :
    ∃ T', Stand p l e R s m args below meth c T' locs cells slots ∧ T'.heap = T.heap ∧ ∀ target, Steps p.tables e below (T'.setTop { g with pc := g.pc + 3, stack := .ref a :: rest }) target → Steps p.tables e below (T.setTop g) target := by
  obtain ⟨cB, h1, D, h2, h3, h4⟩ := hE
  have h1' : s.vm.findClass C = some cB := by rw [← X.warmed.alike.findClass]; exact h1
  obtain ⟨vm', X', st⟩ := X.checkcastYes hexec hown hlink h2 h4 h1' (by rw [h3]; exact Jvm.Free.SB.assignable_self _ _) hg hstack hdg
  exact ⟨_, X', rfl, fun t h => st t (by rw [← hstack] at h; exact h)⟩
namespace SEq
def yN : MethodName := ⟨"java/lang/String", "equals", "(Ljava/lang/Object;)Z"⟩
abbrev yB : ByteArray := jdk_42_method_66_code
theorem d0 : decode yB 0 = .ok (.aload_n 0, 1) := by decide +kernel
theorem d1 : decode yB 1 = .ok (.aload_n 1, 1) := by decide +kernel
theorem d2 : decode yB 2 = .ok (.if_acmp (.ne) 5, 3) := by decide +kernel
theorem d5 : decode yB 5 = .ok (.iconst 1, 1) := by decide +kernel
theorem d6 : decode yB 6 = .ok (.ireturn, 1) := by decide +kernel
theorem d7 : decode yB 7 = .ok (.aload_n 1, 1) := by decide +kernel
theorem d8 : decode yB 8 = .ok (.instanceof 10, 3) := by decide +kernel
theorem d11 : decode yB 11 = .ok (.ifCond (.eq) 43, 3) := by decide +kernel
theorem d14 : decode yB 14 = .ok (.aload_n 1, 1) := by decide +kernel
theorem d15 : decode yB 15 = .ok (.checkcast 10, 3) := by decide +kernel
theorem d18 : decode yB 18 = .ok (.astore_n 2, 1) := by decide +kernel
theorem d19 : decode yB 19 = .ok (.getstatic 38, 3) := by decide +kernel
theorem d22 : decode yB 22 = .ok (.ifCond (.eq) 14, 3) := by decide +kernel
theorem d25 : decode yB 25 = .ok (.aload_n 0, 1) := by decide +kernel
theorem d26 : decode yB 26 = .ok (.getfield 15, 3) := by decide +kernel
theorem d29 : decode yB 29 = .ok (.aload_n 2, 1) := by decide +kernel
theorem d30 : decode yB 30 = .ok (.getfield 15, 3) := by decide +kernel
theorem d33 : decode yB 33 = .ok (.if_icmp (.ne) 21, 3) := by decide +kernel
theorem d36 : decode yB 36 = .ok (.aload_n 0, 1) := by decide +kernel
theorem d37 : decode yB 37 = .ok (.getfield 9, 3) := by decide +kernel
theorem d40 : decode yB 40 = .ok (.aload_n 2, 1) := by decide +kernel
theorem d41 : decode yB 41 = .ok (.getfield 9, 3) := by decide +kernel
theorem d44 : decode yB 44 = .ok (.invokestatic 541, 3) := by decide +kernel
theorem d47 : decode yB 47 = .ok (.ifCond (.eq) 7, 3) := by decide +kernel
theorem d50 : decode yB 50 = .ok (.iconst 1, 1) := by decide +kernel
theorem d51 : decode yB 51 = .ok (.goto 4, 3) := by decide +kernel
theorem d54 : decode yB 54 = .ok (.iconst 0, 1) := by decide +kernel
theorem d55 : decode yB 55 = .ok (.ireturn, 1) := by decide +kernel
def site : List Cond := [.classLink "java/lang/String" 10 "java/lang/String", .fieldLink "java/lang/String" 38 "java/lang/String" "COMPACT_STRINGS" "Z", .fieldLink "java/lang/String" 15 "java/lang/String" "coder" "B", .fieldLink "java/lang/String" 9 "java/lang/String" "value" "[B", LEq.tab] ++ staticW "java/lang/String" 541 LEq.yN
def tab : Cond := tabOf yN yB 3 (some .boolean) site
def P (x t : Addr) (V : Cell) (cd : Int32) (n : Nat) (f : Nat → Int32) (y t' : Addr) (V' : Cell) (cd' : Int32) (k : Nat) (g : Nat → Int32) (z : Int32) (args : Array Value) (s : State) : Prop := args = #[.ref x, .ref y] ∧ Txt x t V cd n f s ∧ Txt y t' V' cd' k g s ∧ StaticIs s "java/lang/String" "COMPACT_STRINGS" "Z" (.int z) ∧ ¬ z = 0
/-- equals(Object) of two Strings: whether the texts are the same -/
theorem law (l : Launch) (x t : Addr) (V : Cell) (cd : Int32) (n : Nat) (f : Nat → Int32) (y t' : Addr) (V' : Cell) (cd' : Int32) (k : Nat) (g : Nat → Int32) (z : Int32) : Law l yN 2 1 1 14 yB 3 (some .boolean) site (P x t V cd n f y t' V' cd' k g z) (Says01 (SameT n f k g)) [] 0 0 := by
  refine Law.of_walk (plainFor_of_name (by decide +kernel)) (by decide +kernel) (by decide +kernel) (by decide) (fun _ _ h => by rw [h.1]; rfl) (fun _ U U' hal hh h => ⟨h.1, h.2.1.mv hal hh, h.2.2.1.mv hal hh, h.2.2.2.1.there hal hh, h.2.2.2.2⟩) (fun r U U' V V' h1 hal h2 h => Says01.mv r U U' V V' h1 hal h2 h) ?_
  intro p e s m args below meth c s₁ X0 hexec hbytes hml hret hlk hnm hown hh0 W hP
  obtain ⟨rfl, hx, hy, s1, hz⟩ := hP
  have c1 : Steps p.tables e below (s₁.setTop (entryFrame m #[.ref x, .ref y] 3)) (s₁.setTop (mkF m 2 #[.val (.ref x), .val (.ref y), .unset] [.ref y, .ref x])) := Steps.trans (entry rfl) (by
    show Steps p.tables e below (s₁.setTop (mkF m 0 #[.val (.ref x), .val (.ref y), .unset] [])) _
    refine XS.aloadN X0.here hexec rfl (hb hbytes d0) rfl rfl ?_
    refine XS.aloadN X0.here hexec rfl (hb hbytes d1) rfl rfl ?_
    exact Steps.refl _)
  by_cases hxy : x = y
  · have c2 : Steps p.tables e below (s₁.setTop (entryFrame m #[.ref x, .ref y] 3)) (s₁.setTop (mkF m 6 #[.val (.ref x), .val (.ref y), .unset] [.int 1])) := c1.trans (by
      refine acmpNo X0.here hexec rfl (hb hbytes d2) rfl rfl rfl (by simp [acmp, hxy]) ?_
      refine iconstV X0.here hexec rfl 1 (hb hbytes d5) (by decide) ?_
      exact Steps.refl _)
    subst hxy
    have ec : cd = cd' := by
      obtain ⟨D, fd, a1, a2, a3⟩ := hx.2.2.1
      obtain ⟨D', fd', b1, b2, b3⟩ := hy.2.2.1
      cases a1.symm.trans b1
      obtain ⟨q1, q2, q3, q4⟩ := a2.1
      obtain ⟨r1, r2, r3, r4⟩ := b2.1
      cases q4.symm.trans r4
      cases a3.symm.trans b3; rfl
    have et : t = t' := by
      obtain ⟨D, fd, a1, a2, a3⟩ := hx.2.1
      obtain ⟨D', fd', b1, b2, b3⟩ := hy.2.1
      cases a1.symm.trans b1
      obtain ⟨q1, q2, q3, q4⟩ := a2.1
      obtain ⟨r1, r2, r3, r4⟩ := b2.1
      cases q4.symm.trans r4
      cases a3.symm.trans b3; rfl
    subst ec et
    have ev : V = V' := by cases hx.2.2.2.1.1.symm.trans hy.2.2.2.1.1; rfl
    subst ev
    have hs : SameT n f k g := (Cod.eqv hx.2.2.2.2.1 hy.2.2.2.2.1 hx.2.2.2.2.2 hy.2.2.2.2.2).mp ⟨rfl, fun _ _ => rfl⟩
    exact ⟨s₁, some (.int 1), _, _, _, X0, rfl, rfl, rfl, (fun h => by cases h), ⟨1, rfl, hh0, Or.inl ⟨rfl, hs⟩⟩, fun fs hl => c2.trans (X0.ireturnOut hexec hret rfl (Or.inr (Or.inl rfl)) (hb hbytes d6) hl)⟩
  · have c2 : Steps p.tables e below (s₁.setTop (entryFrame m #[.ref x, .ref y] 3)) (s₁.setTop (mkF m 8 #[.val (.ref x), .val (.ref y), .unset] [.ref y])) := c1.trans (by
      refine acmpYes X0.here hexec rfl (pc0 := 2) rfl (hb hbytes d2) rfl rfl rfl (by simp [acmp, hxy]) (by decide) rfl ?_
      refine XS.aloadN X0.here hexec rfl (hb hbytes d7) rfl rfl ?_
      exact Steps.refl _)
    obtain ⟨T3, X3, q3, st3⟩ := cinst X0 hexec hown (wk W (.classLink "java/lang/String" 10 "java/lang/String")) (hy.mv X0.warmed.alike hh0).1 (g := (mkF m 8 #[.val (.ref x), .val (.ref y), .unset] [.ref y])) rfl (rest := []) rfl (hb hbytes d8)
    have hh3 := q3.trans hh0
    have c4 : Steps p.tables e below (s₁.setTop (entryFrame m #[.ref x, .ref y] 3)) (T3.setTop (mkF m 15 #[.val (.ref x), .val (.ref y), .unset] [.ref y])) := (c2.trans (st3 _ (Steps.refl _))).trans (by
      refine XS.ifNo X3.here hexec rfl (hb hbytes d11) rfl (i0_eq_f (by decide)) ?_
      refine XS.aloadN X3.here hexec rfl (hb hbytes d14) rfl rfl ?_
      exact Steps.refl _)
    obtain ⟨T5, X5, q5, st5⟩ := cself X3 hexec hown (wk W (.classLink "java/lang/String" 10 "java/lang/String")) (hy.mv X3.warmed.alike hh3).1 (g := (mkF m 15 #[.val (.ref x), .val (.ref y), .unset] [.ref y])) rfl (rest := []) rfl (hb hbytes d15)
    have hh5 := q5.trans hh3
    have c6 : Steps p.tables e below (s₁.setTop (entryFrame m #[.ref x, .ref y] 3)) (T5.setTop (mkF m 19 #[.val (.ref x), .val (.ref y), .val (.ref y)] [])) := (c4.trans (st5 _ (Steps.refl _))).trans (by
      refine XS.astoreN X5.here hexec rfl (hb hbytes d18) rfl rfl rfl ?_
      exact Steps.refl _)
    obtain ⟨T7, X7, q7, st7⟩ := X5.sget hexec hown (wk W (.fieldLink "java/lang/String" 38 "java/lang/String" "COMPACT_STRINGS" "Z")) s1 (fun _ _ h => by rw [hh5]; exact h) (g := (mkF m 19 #[.val (.ref x), .val (.ref y), .val (.ref y)] [])) rfl (hb hbytes d19)
    have hh7 := q7.trans hh5
    have c8 : Steps p.tables e below (s₁.setTop (entryFrame m #[.ref x, .ref y] 3)) (T7.setTop (mkF m 26 #[.val (.ref x), .val (.ref y), .val (.ref y)] [.ref x])) := (c6.trans (st7 _ (Steps.refl _))).trans (by
      refine XS.ifNo X7.here hexec rfl (hb hbytes d22) rfl (i0_eq_f hz) ?_
      refine XS.aloadN X7.here hexec rfl (hb hbytes d25) rfl rfl ?_
      exact Steps.refl _)
    obtain ⟨T9, X9, q9, st9⟩ := X7.hget hexec hown (wk W (.fieldLink "java/lang/String" 15 "java/lang/String" "coder" "B")) (hx.mv X7.warmed.alike hh7).2.2.1 (g := (mkF m 26 #[.val (.ref x), .val (.ref y), .val (.ref y)] [.ref x])) rfl (rest := []) rfl (hb hbytes d26)
    have hh9 := q9.trans hh7
    have c10 : Steps p.tables e below (s₁.setTop (entryFrame m #[.ref x, .ref y] 3)) (T9.setTop (mkF m 30 #[.val (.ref x), .val (.ref y), .val (.ref y)] [.ref y, .int cd])) := (c8.trans (st9 _ (Steps.refl _))).trans (by
      refine XS.aloadN X9.here hexec rfl (hb hbytes d29) rfl rfl ?_
      exact Steps.refl _)
    obtain ⟨T11, X11, q11, st11⟩ := X9.hget hexec hown (wk W (.fieldLink "java/lang/String" 15 "java/lang/String" "coder" "B")) (hy.mv X9.warmed.alike hh9).2.2.1 (g := (mkF m 30 #[.val (.ref x), .val (.ref y), .val (.ref y)] [.ref y, .int cd])) rfl (rest := [.int cd]) rfl (hb hbytes d30)
    have hh11 := q11.trans hh9
    have c12 : Steps p.tables e below (s₁.setTop (entryFrame m #[.ref x, .ref y] 3)) (T11.setTop (mkF m 33 #[.val (.ref x), .val (.ref y), .val (.ref y)] [.int cd', .int cd])) := c10.trans (st11 _ (Steps.refl _))
    by_cases hcd : cd = cd'
    · subst hcd
      have c13 : Steps p.tables e below (s₁.setTop (entryFrame m #[.ref x, .ref y] 3)) (T11.setTop (mkF m 37 #[.val (.ref x), .val (.ref y), .val (.ref y)] [.ref x])) := c12.trans (by
        refine XS.icmpNo X11.here hexec rfl (hb hbytes d33) rfl (ii_ne_f rfl) ?_
        refine XS.aloadN X11.here hexec rfl (hb hbytes d36) rfl rfl ?_
        exact Steps.refl _)
      obtain ⟨T14, X14, q14, st14⟩ := X11.hget hexec hown (wk W (.fieldLink "java/lang/String" 9 "java/lang/String" "value" "[B")) (hx.mv X11.warmed.alike hh11).2.1 (g := (mkF m 37 #[.val (.ref x), .val (.ref y), .val (.ref y)] [.ref x])) rfl (rest := []) rfl (hb hbytes d37)
      have hh14 := q14.trans hh11
      have c15 : Steps p.tables e below (s₁.setTop (entryFrame m #[.ref x, .ref y] 3)) (T14.setTop (mkF m 41 #[.val (.ref x), .val (.ref y), .val (.ref y)] [.ref y, .ref t])) := (c13.trans (st14 _ (Steps.refl _))).trans (by
        refine XS.aloadN X14.here hexec rfl (hb hbytes d40) rfl rfl ?_
        exact Steps.refl _)
      obtain ⟨T16, X16, q16, st16⟩ := X14.hget hexec hown (wk W (.fieldLink "java/lang/String" 9 "java/lang/String" "value" "[B")) (hy.mv X14.warmed.alike hh14).2.1 (g := (mkF m 41 #[.val (.ref x), .val (.ref y), .val (.ref y)] [.ref y, .ref t])) rfl (rest := [.ref t]) rfl (hb hbytes d41)
      have hh16 := q16.trans hh14
      have c17 : Steps p.tables e below (s₁.setTop (entryFrame m #[.ref x, .ref y] 3)) (T16.setTop (mkF m 44 #[.val (.ref x), .val (.ref y), .val (.ref y)] [.ref t', .ref t])) := c15.trans (st16 _ (Steps.refl _))
      obtain ⟨v18, T18, X18, E18, g18⟩ := X16.callS hexec (LEq.law l t V t' V') hown (wks W (staticW "java/lang/String" 541 LEq.yN)) (wk W LEq.tab) (W := 0) (Nat.le_of_ble_eq_true rfl) (Nat.le_of_ble_eq_true rfl) (Nat.le_refl _) (Nat.le_refl _) (g := (mkF m 44 #[.val (.ref x), .val (.ref y), .val (.ref y)] [.ref t', .ref t])) rfl (by rw [hml]; rfl) c17 (argsL := [.ref t, .ref t']) (rest := []) rfl rfl (by show 2 * 0 + 0 ≤ _; decide) (hb hbytes d44) (⟨rfl, hx.2.2.2.1.mv X16.warmed.alike hh16, hx.2.2.2.2.1.ty, hy.2.2.2.1.mv X16.warmed.alike hh16, hy.2.2.2.2.1.ty⟩)
      obtain ⟨v, rfl, q18, hv⟩ := E18
      have iff := Cod.eqv hx.2.2.2.2.1 hy.2.2.2.2.1 hx.2.2.2.2.2 hy.2.2.2.2.2
      rcases hv with ⟨rfl, he⟩ | ⟨rfl, he⟩
      · have c19 : Steps p.tables e below (s₁.setTop (entryFrame m #[.ref x, .ref y] 3)) (T18.setTop (mkF m 55 #[.val (.ref x), .val (.ref y), .val (.ref y)] [.int 1])) := Steps.trans g18 (by
          refine XS.ifNo X18.here hexec rfl (hb hbytes d47) rfl (i0_eq_f (by decide)) ?_
          refine iconstV X18.here hexec rfl 1 (hb hbytes d50) (by decide) ?_
          refine XS.goto X18.here hexec rfl (pc0 := 51) rfl (hb hbytes d51) (by decide) rfl ?_
          exact Steps.refl _)
        exact ⟨T18, some (.int 1), _, _, _, X18, rfl, rfl, rfl, (fun h => by cases h), ⟨1, rfl, q18.trans hh16, Or.inl ⟨rfl, iff.mp he⟩⟩, fun fs hl => c19.trans (X18.ireturnOut hexec hret rfl (Or.inr (Or.inl rfl)) (hb hbytes d55) hl)⟩
      · have c19 : Steps p.tables e below (s₁.setTop (entryFrame m #[.ref x, .ref y] 3)) (T18.setTop (mkF m 55 #[.val (.ref x), .val (.ref y), .val (.ref y)] [.int 0])) := Steps.trans g18 (by
          refine XS.ifYes X18.here hexec rfl (pc0 := 47) rfl (hb hbytes d47) rfl (i0_eq_t rfl) (by decide) rfl ?_
          refine iconstV X18.here hexec rfl 0 (hb hbytes d54) (by decide) ?_
          exact Steps.refl _)
        exact ⟨T18, some (.int 0), _, _, _, X18, rfl, rfl, rfl, (fun h => by cases h), ⟨0, rfl, q18.trans hh16, Or.inr ⟨rfl, fun q => he (iff.mpr q)⟩⟩, fun fs hl => c19.trans (X18.ireturnOut hexec hret rfl (Or.inr (Or.inl rfl)) (hb hbytes d55) hl)⟩
    · have c13 : Steps p.tables e below (s₁.setTop (entryFrame m #[.ref x, .ref y] 3)) (T11.setTop (mkF m 55 #[.val (.ref x), .val (.ref y), .val (.ref y)] [.int 0])) := c12.trans (by
        refine XS.icmpYes X11.here hexec rfl (pc0 := 33) rfl (hb hbytes d33) rfl (ii_ne_t hcd) (by decide) rfl ?_
        refine iconstV X11.here hexec rfl 0 (hb hbytes d54) (by decide) ?_
        exact Steps.refl _)
      exact ⟨T11, some (.int 0), _, _, _, X11, rfl, rfl, rfl, (fun h => by cases h), ⟨0, rfl, hh11, Or.inr ⟨rfl, Cod.dif hx.2.2.2.2.1 hy.2.2.2.2.1 hcd⟩⟩, fun fs hl => c13.trans (X11.ireturnOut hexec hret rfl (Or.inr (Or.inl rfl)) (hb hbytes d55) hl)⟩
theorem pays {l : Launch} {R : Room} {p : Program} {e : Env} {below : List Frame} {s : State} {sargs : Array Value} {len W : Nat} (x t : Addr) (V : Cell) (cd : Int32) (n : Nat) (f : Nat → Int32) (y t' : Addr) (V' : Cell) (cd' : Int32) (k : Nat) (g : Nat → Int32) (z : Int32) (htab : tab.before sargs s = true) (hfr : 2 ≤ R.frames) (hlo : W + 28 ≤ R.locals) :
    Back l R p e below s sargs yN len W (fun A₁ a₁ => A₁.cells + 0 ≤ R.cells ∧ A₁.slots + 0 ≤ R.slots ∧ P x t V cd n f y t' V' cd' k g z a₁ A₁.U) (fun A₁ _ v₁ B₁ => Says01 (SameT n f k g) v₁ A₁.U B₁.U ∧ B₁.locs = A₁.locs ++ [] ∧ B₁.cells = A₁.cells + 0 ∧ B₁.slots = A₁.slots + 0) :=
  (law l x t V cd n f y t' V' cd' k g z).pays htab hfr (by omega)
end SEq
end StrChars
namespace StrChars.Road
open Jvm Sem ClassFile Op Lib Jvm.Stand Jvm.Free Jvm.Free.XT
open Jvm.Lib.Cold (StaticIs)
/-- the words of String.equals(Object) -/
abbrev wordsEq : List Jvm.Cond := [.code SEq.yN SEq.yB 3 (some .boolean), .initialized ST, .classLink ST 10 ST, .fieldLink ST 38 ST "COMPACT_STRINGS" "Z", .fieldLink ST 15 ST "coder" "B", .fieldLink ST 9 ST "value" "[B", .methodLink ST 541 LEq.yN, .static LEq.yN, .code LEq.yN LEq.yB 3 (some .boolean), .initialized "java/lang/StringLatin1"]
theorem tabEq_of {a : Array Value} {s : State} (h : ∀ w ∈ wordsEq, w.before a s = true) : SEq.tab.before a s = true := by
  have hl : LEq.tab.before a s = true := unparts (wk h (.code LEq.yN LEq.yB 3 (some .boolean))) (wks h (.initialized LEq.yN.cls :: LEq.site))
  have q := consq hl h
  exact unparts (wk q (.code SEq.yN SEq.yB 3 (some .boolean))) (wks q (.initialized SEq.yN.cls :: SEq.site))
theorem movedEq {Z s : State} {a0 args : Array Value} (hZ : Z.Warmed39 s.vm) (hw : ∀ d ∈ wordsEq, d.before a0 Z = true) : ∀ d ∈ wordsEq, d.before args s = true := fun d hd => by
  have t : ∀ d ∈ wordsEq, (d.onTables && d.keepsFace) = true := by decide +kernel
  exact RoadKit.mv hZ (hw d hd) (t d hd)
/-- the road's facts of a String, as the laws ask it -/
theorem txt_of {Z U : State} {a0 : Array Value} {kI : Nat} (wi : (Jvm.Cond.instantiable ST kI).before a0 Z = true) (al : Z.vm.Alike U.vm) {x t : Addr} {kb : ClassId} {cs : List Int32} {cd N2 : Int32} {vs : List Value} (E : RoadKit.Exa Z U.heap x ST) (V : RoadKit.Fld Z U.heap x ST "value" "[B" (.ref t)) (C : RoadKit.Fld Z U.heap x ST "coder" "B" (.int cd)) (K : RoadKit.Arv Z U.heap t kb .byte N2 vs (.int 0)) (hc : CodA cs cd N2 vs) (hb : ∀ c ∈ cs, ¬ c < 0 ∧ ¬ (65535 : Int32) < c) (l2 : cs.length ≤ 4000) :
    ∃ A, Txt x t A cd cs.length (fun j => cs.getD j 0) U := by
  obtain ⟨A, K1, K2, K3, K4, K5, K6⟩ := K
  have hcod := hc.cod (by omega) K3 K5
  obtain ⟨D, fV, fC, hB, F1, F2, g1, g2, -, -⟩ := strObj wi al E V C
  exact ⟨A, ⟨_, hB.2.2.1, D, hB.1, rfl, by cases q : D.vm <;> first | rfl | exact absurd q (hB.2.1.2 _)⟩, Has.of hB F1 g1, Has.of hB F2 g2, ⟨K1.1, State.isArrayOf_alike al K1.2.1, K1.2.2, by rcases hcod with ⟨-, q, -⟩ | ⟨-, q, -⟩ <;> omega⟩, hcod, fun j hj => by
    have e : cs.getD j 0 = cs[j] := by simp [List.getD_eq_getElem?_getD, hj]
    show ¬ cs.getD j 0 < 0 ∧ ¬ 65535 < cs.getD j 0
    rw [e]; exact hb _ (List.getElem_mem _)⟩
theorem same_list (cs ds : List Int32) : SameT cs.length (fun j => cs.getD j 0) ds.length (fun j => ds.getD j 0) ↔ cs = ds := by
  constructor
  · rintro ⟨e, q⟩
    refine List.ext_getElem e fun j h1 h2 => ?_
    have := q j h1
    simpa [List.getD_eq_getElem?_getD, h1, h2] using this
  · rintro rfl
    exact ⟨rfl, fun _ _ => rfl⟩
/-- **equals(Object) OF TWO SUCH STRINGS**: 1 just where the chars are the same -/
theorem eqW {p : Program} {l : Launch} {e : Env} {R : Room} {s : State} {args : Array Value} {below : List Frame} {len W : Nat} {Z : State} {a0 : Array Value} {h : Heap} (hZ : Z.Warmed39 s.vm) (hw : ∀ d ∈ wordsEq, d.before a0 Z = true) {kI : Nat} (wi : (Jvm.Cond.instantiable ST kI).before a0 Z = true)
    {x t : Addr} {kb : ClassId} {cs : List Int32} {cd N2 : Int32} {vs : List Value} (E : RoadKit.Exa Z h x ST) (V : RoadKit.Fld Z h x ST "value" "[B" (.ref t)) (C : RoadKit.Fld Z h x ST "coder" "B" (.int cd)) (K : RoadKit.Arv Z h t kb .byte N2 vs (.int 0)) (hc : CodA cs cd N2 vs) (hb : ∀ c ∈ cs, ¬ c < 0 ∧ ¬ (65535 : Int32) < c) (l2 : cs.length ≤ 4000)
    {y t' : Addr} {kb' : ClassId} {ds : List Int32} {cd' N2' : Int32} {vs' : List Value} (E' : RoadKit.Exa Z h y ST) (V' : RoadKit.Fld Z h y ST "value" "[B" (.ref t')) (C' : RoadKit.Fld Z h y ST "coder" "B" (.int cd')) (K' : RoadKit.Arv Z h t' kb' .byte N2' vs' (.int 0)) (hc' : CodA ds cd' N2' vs') (hb' : ∀ c ∈ ds, ¬ c < 0 ∧ ¬ (65535 : Int32) < c) (l2' : ds.length ≤ 4000)
    {z : Int32} (S : RoadKit.Sta Z h ST "COMPACT_STRINGS" "Z" (.int z)) (hz : ¬ z = 0) (hfr : 2 ≤ R.frames) (hlo : W + 28 ≤ R.locals) :
    Back l R p e below s args (⟨"java/lang/String", "equals", "(Ljava/lang/Object;)Z"⟩ : MethodName) len W (fun P a => a = #[.ref x, .ref y] ∧ P.U.heap = h ∧ P.cells + 0 ≤ R.cells ∧ P.slots + 0 ≤ R.slots)
      (fun P _ v B => ∃ L, (((v = some (.int 1) ∧ cs = ds) ∨ (v = some (.int 0) ∧ ¬ cs = ds)) ∧ L = [] ∧ B.U.heap = h) ∧ B.locs = P.locs ++ L ∧ B.cells = P.cells + 0 ∧ B.slots = P.slots + 0) := by
  intro m meth c P g ig mk a X hg hsize hdg hW hn hp'
  obtain ⟨rfl, rfl, r1, r2⟩ := hp'
  have al : Z.vm.Alike P.U.vm := hZ.alike.trans X.warmed.alike
  obtain ⟨A, hx⟩ := txt_of wi al E V C K hc hb l2
  obtain ⟨A', hy⟩ := txt_of wi al E' V' C' K' hc' hb' l2'
  obtain ⟨v, B, X', ⟨⟨w, hv, hh, hq⟩, hl, hk, hs⟩, st⟩ := SEq.pays x t A cd cs.length (fun j => cs.getD j 0) y t' A' cd' ds.length (fun j => ds.getD j 0) z (tabEq_of (movedEq hZ hw)) hfr hlo m meth c P g ig mk _ X hg hsize hdg hW hn ⟨r1, r2, rfl, hx, hy, sta_is al S, hz⟩
  refine ⟨v, B, X', ⟨[], ⟨?_, rfl, hh⟩, hl, hk, hs⟩, st⟩
  rcases hq with ⟨rfl, q⟩ | ⟨rfl, q⟩
  · exact Or.inl ⟨hv, (same_list cs ds).mp q⟩
  · exact Or.inr ⟨hv, fun e => q ((same_list cs ds).mpr e)⟩
end StrChars.Road
namespace StrChars
open Jvm Sem ClassFile Op Lib Jvm.Stand Jvm.Free.XT Jvm.Free.ALB Jvm.Free.JM Jvm.Free
open Jvm.Lib.Cold (StaticIs)
namespace ChN
def yN : MethodName := ⟨"java/lang/String", "charAt", "(I)C"⟩
abbrev yB : ByteArray := jdk_42_method_56_code
theorem d0 : decode yB 0 = .ok (.aload_n 0, 1) := by decide +kernel
theorem d1 : decode yB 1 = .ok (.invokevirtual 492, 3) := by decide +kernel
theorem d4 : decode yB 4 = .ok (.ifCond (.eq) 12, 3) := by decide +kernel
theorem d7 : decode yB 7 = .ok (.aload_n 0, 1) := by decide +kernel
theorem d8 : decode yB 8 = .ok (.getfield 9, 3) := by decide +kernel
theorem d11 : decode yB 11 = .ok (.iload_n 1, 1) := by decide +kernel
theorem d12 : decode yB 12 = .ok (.invokestatic 495, 3) := by decide +kernel
theorem d15 : decode yB 15 = .ok (.ireturn, 1) := by decide +kernel
def site : List Cond := [.fieldLink "java/lang/String" 9 "java/lang/String" "value" "[B", IsL.tab, LChA.tab] ++ virtW "java/lang/String" 492 "java/lang/String" IsL.yN IsL.yN ++ staticW "java/lang/String" 495 LChA.yN
def tab : Cond := tabOf yN yB 2 (some .char) site
def P (x t : Addr) (V : Cell) (n : Nat) (f : Nat → Int32) (z : Int32) (fm : Value) (i : Nat) (args : Array Value) (s : State) : Prop := args = #[.ref x, .int (Int32.ofNat i)] ∧ Txt x t V 0 n f s ∧ i < n ∧ StaticIs s "java/lang/String" "COMPACT_STRINGS" "Z" (.int z) ∧ ¬ z = 0 ∧ StaticIs s "jdk/internal/util/Preconditions" "SIOOBE_FORMATTER" "Ljava/util/function/BiFunction;" fm ∧ fm.isRef = true
def E (f : Nat → Int32) (i : Nat) (r : Option Value) (s u : State) : Prop := XT.PureE (some (.int (f i))) r s u
/-- charAt(i) of a Latin-1 String of n chars, i < n: f i -/
theorem law (l : Launch) (x t : Addr) (V : Cell) (n : Nat) (f : Nat → Int32) (z : Int32) (fm : Value) (i : Nat) : Law l yN 2 1 3 40 yB 2 (some .char) site (P x t V n f z fm i) (E f i) [] 0 0 := by
  refine Law.of_walk (plainFor_of_name (by decide +kernel)) (by decide +kernel) (by decide +kernel) (by decide) (fun _ _ h => by rw [h.1]; rfl) (fun _ U U' hal hh h => ⟨h.1, h.2.1.mv hal hh, h.2.2.1, h.2.2.2.1.there hal hh, h.2.2.2.2.1, h.2.2.2.2.2.1.there hal hh, h.2.2.2.2.2.2⟩) (fun r U U' V V' h1 hal h2 h => XT.PureE.mv r U U' V V' h1 hal h2 h) ?_
  intro p e s m args below meth c s₁ X0 hexec hbytes hml hret hlk hnm hown hh0 W hP
  obtain ⟨rfl, hx, hi, s1, hz, s3, rf⟩ := hP
  have v31 := hx.2.2.2.1.2.2.2
  have hr := hx.2.2.2.2.2 i hi
  have hx0 := hx.mv X0.warmed.alike hh0
  have c1 : Steps p.tables e below (s₁.setTop (entryFrame m #[.ref x, .int (Int32.ofNat i)] 2)) (s₁.setTop (mkF m 1 #[.val (.ref x), .val (.int (Int32.ofNat i))] [.ref x])) := Steps.trans (entry rfl) (by
    show Steps p.tables e below (s₁.setTop (mkF m 0 #[.val (.ref x), .val (.int (Int32.ofNat i))] [])) _
    refine XS.aloadN X0.here hexec rfl (hb hbytes d0) rfl rfl ?_
    exact Steps.refl _)
  obtain ⟨v2, T2, X2, E2, g2⟩ := X0.callV hexec (IsL.law l x 0 z) hown (wks W (virtW "java/lang/String" 492 "java/lang/String" IsL.yN IsL.yN)) rfl (by decide) (wk W IsL.tab) (W := 0) (Nat.le_of_ble_eq_true rfl) (Nat.le_of_ble_eq_true rfl) (Nat.le_refl _) (Nat.le_refl _) (hx0.1.fc X0.warmed.alike) hx0.1.is (g := (mkF m 1 #[.val (.ref x), .val (.int (Int32.ofNat i))] [.ref x])) rfl (by rw [hml]; rfl) c1 (argsL := []) (rest := []) rfl rfl (by show 2 * 0 + 0 ≤ _; decide) (hb hbytes d1) (⟨rfl, hx0.2.2.1, hx.2.2.2.2.1.cd, s1.there X0.warmed.alike hh0, hz⟩)
  obtain ⟨rfl, q2⟩ := E2
  have hh2 := q2.trans hh0
  have hx2 := hx.mv X2.warmed.alike hh2
  obtain ⟨-, k1, k2⟩ | ⟨k0, -⟩ := hx.2.2.2.2.1
  · have c3 : Steps p.tables e below (s₁.setTop (entryFrame m #[.ref x, .int (Int32.ofNat i)] 2)) (T2.setTop (mkF m 8 #[.val (.ref x), .val (.int (Int32.ofNat i))] [.ref x])) := Steps.trans g2 (by
      refine XS.ifNo X2.here hexec rfl (hb hbytes d4) rfl (i0_eq_f (by decide)) ?_
      refine XS.aloadN X2.here hexec rfl (hb hbytes d7) rfl rfl ?_
      exact Steps.refl _)
    obtain ⟨T4, X4, q4, st4⟩ := X2.hget hexec hown (wk W (.fieldLink "java/lang/String" 9 "java/lang/String" "value" "[B")) hx2.2.1 (g := (mkF m 8 #[.val (.ref x), .val (.int (Int32.ofNat i))] [.ref x])) rfl (rest := []) rfl (hb hbytes d8)
    have hh4 := q4.trans hh2
    have c5 : Steps p.tables e below (s₁.setTop (entryFrame m #[.ref x, .int (Int32.ofNat i)] 2)) (T4.setTop (mkF m 12 #[.val (.ref x), .val (.int (Int32.ofNat i))] [.int (Int32.ofNat i), .ref t])) := (c3.trans (st4 _ (Steps.refl _))).trans (by
      refine XS.iloadN X4.here hexec rfl (hb hbytes d11) rfl ?_
      exact Steps.refl _)
    obtain ⟨v6, T6, X6, E6, g6⟩ := X4.callS hexec (LChA.law l t V i (lo8 (f i)) fm) hown (wks W (staticW "java/lang/String" 495 LChA.yN)) (wk W LChA.tab) (W := 0) (Nat.le_of_ble_eq_true rfl) (Nat.le_of_ble_eq_true rfl) (Nat.le_refl _) (Nat.le_refl _) (g := (mkF m 12 #[.val (.ref x), .val (.int (Int32.ofNat i))] [.int (Int32.ofNat i), .ref t])) rfl (by rw [hml]; rfl) c5 (argsL := [.ref t, .int (Int32.ofNat i)]) (rest := []) rfl rfl (by show 2 * 0 + 0 ≤ _; decide) (hb hbytes d12) (⟨rfl, hx.2.2.2.1.mv X4.warmed.alike hh4, (k2 i hi).1, s3.there X4.warmed.alike hh4, rf⟩)
    obtain ⟨rfl, q6⟩ := E6
    rw [chr8_lo8 hr.1 (k2 i hi).2] at g6
    exact ⟨T6, some (.int (f i)), _, _, _, X6, rfl, rfl, rfl, (fun h => by cases h), ⟨rfl, q6.trans hh4⟩, fun fs hl => Steps.trans g6 (X6.ireturnOut hexec hret (narrow_ch hr.1 hr.2) (Or.inr (Or.inr (Or.inr (Or.inl rfl)))) (hb hbytes d15) hl)⟩
  · exact absurd k0 (by decide)
theorem pays {l : Launch} {R : Room} {p : Program} {e : Env} {below : List Frame} {s : State} {sargs : Array Value} {len W : Nat} (x t : Addr) (V : Cell) (n : Nat) (f : Nat → Int32) (z : Int32) (fm : Value) (i : Nat) (htab : tab.before sargs s = true) (hfr : 4 ≤ R.frames) (hlo : W + 53 ≤ R.locals) :
    Back l R p e below s sargs yN len W (fun A₁ a₁ => A₁.cells + 0 ≤ R.cells ∧ A₁.slots + 0 ≤ R.slots ∧ P x t V n f z fm i a₁ A₁.U) (fun A₁ _ v₁ B₁ => E f i v₁ A₁.U B₁.U ∧ B₁.locs = A₁.locs ++ [] ∧ B₁.cells = A₁.cells + 0 ∧ B₁.slots = A₁.slots + 0) :=
  (law l x t V n f z fm i).pays htab hfr (by omega)
end ChN
end StrChars
namespace StrChars.Road
open Jvm Sem ClassFile Op Lib Jvm.Stand Jvm.Free Jvm.Free.XT
open Jvm.Lib.Cold (StaticIs)
/-- the words of String.charAt(int), the Latin-1 road alone -/
abbrev wordsChN : List Jvm.Cond := [.code ChN.yN ChN.yB 2 (some .char), .initialized ST, .fieldLink ST 9 ST "value" "[B", .fieldLink ST 38 ST "COMPACT_STRINGS" "Z", .fieldLink ST 15 ST "coder" "B", .code IsL.yN IsL.yB 1 (some .boolean), .methodLink ST 492 IsL.yN, .declares IsL.yN, .selects ST IsL.yN IsL.yN, .instanceMethod IsL.yN,
  .methodLink ST 495 LChA.yN, .static LChA.yN, .code LChA.yN LChA.yB 2 (some .char), .initialized "java/lang/StringLatin1", .methodLink "java/lang/StringLatin1" 9 JO.Str_checkIndex.yN, .static JO.Str_checkIndex.yN, .code JO.Str_checkIndex.yN JO.Str_checkIndex.yB 2 none,
  .fieldLink ST 1053 "jdk/internal/util/Preconditions" "SIOOBE_FORMATTER" "Ljava/util/function/BiFunction;", .methodLink ST 1059 JC.PreCheck.yN, .static JC.PreCheck.yN, .code JC.PreCheck.yN JC.PreCheck.yB 3 (some .int), .initialized "jdk/internal/util/Preconditions"]
theorem tabChN_of {a : Array Value} {s : State} (h : ∀ w ∈ wordsChN, w.before a s = true) : ChN.tab.before a s = true := by
  have hp : JC.PreCheck.tab.before a s = true := unparts (wk h (.code JC.PreCheck.yN JC.PreCheck.yB 3 (some .int))) (wks h (.initialized JC.PreCheck.yN.cls :: JC.PreCheck.site))
  have qk := consq hp h
  have hk : JO.Str_checkIndex.tab.before a s = true := unparts (wk qk (.code JO.Str_checkIndex.yN JO.Str_checkIndex.yB 2 none)) (wks qk (.initialized JO.Str_checkIndex.yN.cls :: JO.Str_checkIndex.site))
  have ql := consq hk h
  have hl : LChA.tab.before a s = true := unparts (wk ql (.code LChA.yN LChA.yB 2 (some .char))) (wks ql (.initialized LChA.yN.cls :: LChA.site))
  have hi : IsL.tab.before a s = true := unparts (wk h (.code IsL.yN IsL.yB 1 (some .boolean))) (wks h (.initialized IsL.yN.cls :: IsL.site))
  have q := consq hi (consq hl h)
  exact unparts (wk q (.code ChN.yN ChN.yB 2 (some .char))) (wks q (.initialized ChN.yN.cls :: ChN.site))
theorem movedChN {Z s : State} {a0 args : Array Value} (hZ : Z.Warmed39 s.vm) (hw : ∀ d ∈ wordsChN, d.before a0 Z = true) : ∀ d ∈ wordsChN, d.before args s = true := fun d hd => by
  have t : ∀ d ∈ wordsChN, (d.onTables && d.keepsFace) = true := by decide +kernel
  exact RoadKit.mv hZ (hw d hd) (t d hd)
/-- **charAt(i) OF A LATIN-1 STRING**, i < n: the char -/
theorem chN {p : Program} {l : Launch} {e : Env} {R : Room} {s : State} {args : Array Value} {below : List Frame} {len W : Nat} {Z : State} {a0 : Array Value} {h : Heap} (hZ : Z.Warmed39 s.vm) (hw : ∀ d ∈ wordsChN, d.before a0 Z = true) {kI : Nat} (wi : (Jvm.Cond.instantiable ST kI).before a0 Z = true)
    {x t : Addr} {kb : ClassId} {cs : List Int32} {N2 z : Int32} {vs : List Value} {fm : Value} {i : Nat} {j : Int32} (E : RoadKit.Exa Z h x ST) (V : RoadKit.Fld Z h x ST "value" "[B" (.ref t)) (C : RoadKit.Fld Z h x ST "coder" "B" (.int 0)) (K : RoadKit.Arv Z h t kb .byte N2 vs (.int 0)) (hc : CodA cs 0 N2 vs) (hb : ∀ c ∈ cs, ¬ c < 0 ∧ ¬ (65535 : Int32) < c)
    (S : RoadKit.Sta Z h ST "COMPACT_STRINGS" "Z" (.int z)) (hz : ¬ z = 0) (F : RoadKit.Sta Z h "jdk/internal/util/Preconditions" "SIOOBE_FORMATTER" "Ljava/util/function/BiFunction;" fm) (rf : fm.isRef = true) (l2 : cs.length ≤ 4000) (hi : i < cs.length) (hj : j = Int32.ofNat i) (hfr : 4 ≤ R.frames) (hlo : W + 53 ≤ R.locals) :
    Back l R p e below s args (⟨"java/lang/String", "charAt", "(I)C"⟩ : MethodName) len W (fun P a => a = #[.ref x, .int j] ∧ P.U.heap = h ∧ P.cells + 0 ≤ R.cells ∧ P.slots + 0 ≤ R.slots)
      (fun P _ v B => ∃ L, (v = some (.int (cs.getD i 0)) ∧ L = [] ∧ B.U.heap = h) ∧ B.locs = P.locs ++ L ∧ B.cells = P.cells + 0 ∧ B.slots = P.slots + 0) := by
  subst hj
  intro m meth c P g ig mk a X hg hsize hdg hW hn hp'
  obtain ⟨rfl, rfl, r1, r2⟩ := hp'
  have al : Z.vm.Alike P.U.vm := hZ.alike.trans X.warmed.alike
  obtain ⟨A, hx⟩ := txt_of wi al E V C K hc hb l2
  obtain ⟨v, B, X', ⟨⟨hv, hh⟩, hl, hk, hs⟩, st⟩ := ChN.pays x t A cs.length (fun j => cs.getD j 0) z fm i (tabChN_of (movedChN hZ hw)) hfr hlo m meth c P g ig mk _ X hg hsize hdg hW hn ⟨r1, r2, rfl, hx, hi, sta_is al S, hz, sta_is al F, rf⟩
  exact ⟨v, B, X', ⟨[], ⟨hv, rfl, hh⟩, hl, hk, hs⟩, st⟩
/-- what backV says of its String, as the contracts of this text ask it: cs's low bytes, coder 0 -/
theorem codOf {cs : List Int32} {n : Nat} (hn : cs.length = n) (hb : ∀ c ∈ cs, ¬ 255 < c) : CodA cs 0 (Int32.ofNat n) ((cs.map lo8).map Value.int) := Or.inl ⟨rfl, by rw [hn], by simp [List.map_map, Function.comp_def], hb⟩
end StrChars.Road
end Jvm.Pilot.@@N@@

namespace Jvm.Pilot.@@N@@
open Jvm Jvm.ClassFile Sem Op Lib Jvm.Free Jvm.Stand Jvm.LawKit Jvm.RoadKit Bundle Jvm.Pilot.@@N@@.Jvm.D
theorem mI {α : Type} {l : List α} {a : α} (i : Nat) (h : l[i]? = some a) : a ∈ l := List.mem_of_getElem? h
set_option maxRecDepth 65536
set_option maxHeartbeats 40000000
abbrev HW (a0 : Array Value) (Z : State) : Prop := ∀ d ∈ tables_1, d.before a0 Z = true
theorem lE {a b : Nat} (h : Nat.ble a b = true) : a ≤ b := Nat.le_of_ble_eq_true h
theorem own_hw {a b : Nat} (h : 2 * 0 + a = b) : 2 * 0 + a ≤ b := Nat.le_of_eq h
abbrev Sx (p : Program) (e : Env) (b : List Frame) (T : State) (m : MethodId) (pc : Nat) (L : Array Slot) (S : List Value) (t : State) : Prop := Steps p.tables e b (T.setTop (mkF m pc L S)) t
abbrev Pr (p : Program) (e : Env) (b : List Frame) (T : State) (m : MethodId) (pc : Nat) (L : Array Slot) (S : List Value) (s₁ : State) (f : JFrame) : Prop := ∀ t, Steps p.tables e b (T.setTop (mkF m pc L S)) t → Steps p.tables e b (s₁.setTop f) t
section
variable {a0 : Array Value} {Z : State} (hw : ∀ d ∈ tables_1, d.before a0 Z = true)
def w0_ := hw _ (List.mem_of_getElem? (i := 0) rfl)
def w1_ := hw _ (List.mem_of_getElem? (i := 1) rfl)
def w2_ := hw _ (List.mem_of_getElem? (i := 2) rfl)
def w3_ := hw _ (List.mem_of_getElem? (i := 3) rfl)
def w4_ := hw _ (List.mem_of_getElem? (i := 4) rfl)
def w5_ := hw _ (List.mem_of_getElem? (i := 5) rfl)
def w6_ := hw _ (List.mem_of_getElem? (i := 6) rfl)
def w7_ := hw _ (List.mem_of_getElem? (i := 7) rfl)
def w8_ := hw _ (List.mem_of_getElem? (i := 8) rfl)
def w9_ := hw _ (List.mem_of_getElem? (i := 9) rfl)
def w10_ := hw _ (List.mem_of_getElem? (i := 10) rfl)
def w11_ := hw _ (List.mem_of_getElem? (i := 11) rfl)
def w12_ := hw _ (List.mem_of_getElem? (i := 12) rfl)
def w14_ := hw _ (List.mem_of_getElem? (i := 14) rfl)
def w15_ := hw _ (List.mem_of_getElem? (i := 15) rfl)
def w16_ := hw _ (List.mem_of_getElem? (i := 16) rfl)
def w17_ := hw _ (List.mem_of_getElem? (i := 17) rfl)
def w18_ := hw _ (List.mem_of_getElem? (i := 18) rfl)
def w19_ := hw _ (List.mem_of_getElem? (i := 19) rfl)
def w20_ := hw _ (List.mem_of_getElem? (i := 20) rfl)
def w21_ := hw _ (List.mem_of_getElem? (i := 21) rfl)
def w24_ := hw _ (List.mem_of_getElem? (i := 24) rfl)
def w25_ := hw _ (List.mem_of_getElem? (i := 25) rfl)
def w26_ := hw _ (List.mem_of_getElem? (i := 26) rfl)
def w27_ := hw _ (List.mem_of_getElem? (i := 27) rfl)
def w28_ := hw _ (List.mem_of_getElem? (i := 28) rfl)
def w29_ := hw _ (List.mem_of_getElem? (i := 29) rfl)
def w40_ := hw _ (List.mem_of_getElem? (i := 40) rfl)
def w41_ := hw _ (List.mem_of_getElem? (i := 41) rfl)
def w42_ := hw _ (List.mem_of_getElem? (i := 42) rfl)
def w43_ := hw _ (List.mem_of_getElem? (i := 43) rfl)
def w44_ := hw _ (List.mem_of_getElem? (i := 44) rfl)
def w45_ := hw _ (List.mem_of_getElem? (i := 45) rfl)
def w46_ := hw _ (List.mem_of_getElem? (i := 46) rfl)
def w47_ := hw _ (List.mem_of_getElem? (i := 47) rfl)
def w48_ := hw _ (List.mem_of_getElem? (i := 48) rfl)
def w49_ := hw _ (List.mem_of_getElem? (i := 49) rfl)
def w50_ := hw _ (List.mem_of_getElem? (i := 50) rfl)
def w51_ := hw _ (List.mem_of_getElem? (i := 51) rfl)
def w52_ := hw _ (List.mem_of_getElem? (i := 52) rfl)
def w53_ := hw _ (List.mem_of_getElem? (i := 53) rfl)
def w54_ := hw _ (List.mem_of_getElem? (i := 54) rfl)
def w55_ := hw _ (List.mem_of_getElem? (i := 55) rfl)
def w56_ := hw _ (List.mem_of_getElem? (i := 56) rfl)
def w57_ := hw _ (List.mem_of_getElem? (i := 57) rfl)
def w58_ := hw _ (List.mem_of_getElem? (i := 58) rfl)
def w59_ := hw _ (List.mem_of_getElem? (i := 59) rfl)
def w60_ := hw _ (List.mem_of_getElem? (i := 60) rfl)
def w61_ := hw _ (List.mem_of_getElem? (i := 61) rfl)
def w63_ := hw _ (List.mem_of_getElem? (i := 63) rfl)
def w64_ := hw _ (List.mem_of_getElem? (i := 64) rfl)
def w65_ := hw _ (List.mem_of_getElem? (i := 65) rfl)
def w66_ := hw _ (List.mem_of_getElem? (i := 66) rfl)
def w67_ := hw _ (List.mem_of_getElem? (i := 67) rfl)
def w68_ := hw _ (List.mem_of_getElem? (i := 68) rfl)
def w69_ := hw _ (List.mem_of_getElem? (i := 69) rfl)
def w70_ := hw _ (List.mem_of_getElem? (i := 70) rfl)
def w71_ := hw _ (List.mem_of_getElem? (i := 71) rfl)
def w89_ := hw _ (List.mem_of_getElem? (i := 89) rfl)
def w90_ := hw _ (List.mem_of_getElem? (i := 90) rfl)
def w91_ := hw _ (List.mem_of_getElem? (i := 91) rfl)
def w92_ := hw _ (List.mem_of_getElem? (i := 92) rfl)
def w93_ := hw _ (List.mem_of_getElem? (i := 93) rfl)
def w94_ := hw _ (List.mem_of_getElem? (i := 94) rfl)
def w95_ := hw _ (List.mem_of_getElem? (i := 95) rfl)
def w96_ := hw _ (List.mem_of_getElem? (i := 96) rfl)
def w97_ := hw _ (List.mem_of_getElem? (i := 97) rfl)
def w98_ := hw _ (List.mem_of_getElem? (i := 98) rfl)
def w99_ := hw _ (List.mem_of_getElem? (i := 99) rfl)
def w100_ := hw _ (List.mem_of_getElem? (i := 100) rfl)
def w101_ := hw _ (List.mem_of_getElem? (i := 101) rfl)
def w102_ := hw _ (List.mem_of_getElem? (i := 102) rfl)
def w103_ := hw _ (List.mem_of_getElem? (i := 103) rfl)
def w104_ := hw _ (List.mem_of_getElem? (i := 104) rfl)
def w105_ := hw _ (List.mem_of_getElem? (i := 105) rfl)
def w106_ := hw _ (List.mem_of_getElem? (i := 106) rfl)
def w107_ := hw _ (List.mem_of_getElem? (i := 107) rfl)
def w108_ := hw _ (List.mem_of_getElem? (i := 108) rfl)
def w109_ := hw _ (List.mem_of_getElem? (i := 109) rfl)
def w110_ := hw _ (List.mem_of_getElem? (i := 110) rfl)
def w111_ := hw _ (List.mem_of_getElem? (i := 111) rfl)
def w112_ := hw _ (List.mem_of_getElem? (i := 112) rfl)
def w113_ := hw _ (List.mem_of_getElem? (i := 113) rfl)
def w114_ := hw _ (List.mem_of_getElem? (i := 114) rfl)
def w115_ := hw _ (List.mem_of_getElem? (i := 115) rfl)
def w116_ := hw _ (List.mem_of_getElem? (i := 116) rfl)
def w117_ := hw _ (List.mem_of_getElem? (i := 117) rfl)
def w118_ := hw _ (List.mem_of_getElem? (i := 118) rfl)
def w119_ := hw _ (List.mem_of_getElem? (i := 119) rfl)
def w120_ := hw _ (List.mem_of_getElem? (i := 120) rfl)
def w121_ := hw _ (List.mem_of_getElem? (i := 121) rfl)
def w122_ := hw _ (List.mem_of_getElem? (i := 122) rfl)
def w123_ := hw _ (List.mem_of_getElem? (i := 123) rfl)
def w124_ := hw _ (List.mem_of_getElem? (i := 124) rfl)
def w125_ := hw _ (List.mem_of_getElem? (i := 125) rfl)
def w126_ := hw _ (List.mem_of_getElem? (i := 126) rfl)
def w127_ := hw _ (List.mem_of_getElem? (i := 127) rfl)
def w128_ := hw _ (List.mem_of_getElem? (i := 128) rfl)
def w129_ := hw _ (List.mem_of_getElem? (i := 129) rfl)
def w130_ := hw _ (List.mem_of_getElem? (i := 130) rfl)
def w131_ := hw _ (List.mem_of_getElem? (i := 131) rfl)
def w132_ := hw _ (List.mem_of_getElem? (i := 132) rfl)
def w133_ := hw _ (List.mem_of_getElem? (i := 133) rfl)
def w134_ := hw _ (List.mem_of_getElem? (i := 134) rfl)
def w135_ := hw _ (List.mem_of_getElem? (i := 135) rfl)
def w136_ := hw _ (List.mem_of_getElem? (i := 136) rfl)
def w137_ := hw _ (List.mem_of_getElem? (i := 137) rfl)
def w138_ := hw _ (List.mem_of_getElem? (i := 138) rfl)
def w139_ := hw _ (List.mem_of_getElem? (i := 139) rfl)
def w140_ := hw _ (List.mem_of_getElem? (i := 140) rfl)
def w141_ := hw _ (List.mem_of_getElem? (i := 141) rfl)
def w142_ := hw _ (List.mem_of_getElem? (i := 142) rfl)
def w143_ := hw _ (List.mem_of_getElem? (i := 143) rfl)
def w144_ := hw _ (List.mem_of_getElem? (i := 144) rfl)
def w145_ := hw _ (List.mem_of_getElem? (i := 145) rfl)
def w146_ := hw _ (List.mem_of_getElem? (i := 146) rfl)
def w147_ := hw _ (List.mem_of_getElem? (i := 147) rfl)
def w148_ := hw _ (List.mem_of_getElem? (i := 148) rfl)
def w149_ := hw _ (List.mem_of_getElem? (i := 149) rfl)
def w150_ := hw _ (List.mem_of_getElem? (i := 150) rfl)
def w151_ := hw _ (List.mem_of_getElem? (i := 151) rfl)
def w152_ := hw _ (List.mem_of_getElem? (i := 152) rfl)
def w153_ := hw _ (List.mem_of_getElem? (i := 153) rfl)
def w154_ := hw _ (List.mem_of_getElem? (i := 154) rfl)
def w155_ := hw _ (List.mem_of_getElem? (i := 155) rfl)
def w156_ := hw _ (List.mem_of_getElem? (i := 156) rfl)
def w157_ := hw _ (List.mem_of_getElem? (i := 157) rfl)
def w158_ := hw _ (List.mem_of_getElem? (i := 158) rfl)
def w159_ := hw _ (List.mem_of_getElem? (i := 159) rfl)
def w160_ := hw _ (List.mem_of_getElem? (i := 160) rfl)
def w161_ := hw _ (List.mem_of_getElem? (i := 161) rfl)
def w162_ := hw _ (List.mem_of_getElem? (i := 162) rfl)
def w163_ := hw _ (List.mem_of_getElem? (i := 163) rfl)
def w164_ := hw _ (List.mem_of_getElem? (i := 164) rfl)
def w165_ := hw _ (List.mem_of_getElem? (i := 165) rfl)
def w168_ := hw _ (List.mem_of_getElem? (i := 168) rfl)
def w169_ := hw _ (List.mem_of_getElem? (i := 169) rfl)
def w170_ := hw _ (List.mem_of_getElem? (i := 170) rfl)
def w171_ := hw _ (List.mem_of_getElem? (i := 171) rfl)
def w172_ := hw _ (List.mem_of_getElem? (i := 172) rfl)
def w173_ := hw _ (List.mem_of_getElem? (i := 173) rfl)
def w174_ := hw _ (List.mem_of_getElem? (i := 174) rfl)
def w175_ := hw _ (List.mem_of_getElem? (i := 175) rfl)
def w176_ := hw _ (List.mem_of_getElem? (i := 176) rfl)
def w177_ := hw _ (List.mem_of_getElem? (i := 177) rfl)
def w178_ := hw _ (List.mem_of_getElem? (i := 178) rfl)
def w179_ := hw _ (List.mem_of_getElem? (i := 179) rfl)
def w180_ := hw _ (List.mem_of_getElem? (i := 180) rfl)
def w181_ := hw _ (List.mem_of_getElem? (i := 181) rfl)
def w182_ := hw _ (List.mem_of_getElem? (i := 182) rfl)
def w183_ := hw _ (List.mem_of_getElem? (i := 183) rfl)
def w184_ := hw _ (List.mem_of_getElem? (i := 184) rfl)
def w186_ := hw _ (List.mem_of_getElem? (i := 186) rfl)
def w187_ := hw _ (List.mem_of_getElem? (i := 187) rfl)
def w188_ := hw _ (List.mem_of_getElem? (i := 188) rfl)
def w189_ := hw _ (List.mem_of_getElem? (i := 189) rfl)
def w190_ := hw _ (List.mem_of_getElem? (i := 190) rfl)
def w191_ := hw _ (List.mem_of_getElem? (i := 191) rfl)
def w192_ := hw _ (List.mem_of_getElem? (i := 192) rfl)
def w193_ := hw _ (List.mem_of_getElem? (i := 193) rfl)
def w194_ := hw _ (List.mem_of_getElem? (i := 194) rfl)
def w195_ := hw _ (List.mem_of_getElem? (i := 195) rfl)
def w196_ := hw _ (List.mem_of_getElem? (i := 196) rfl)
def w197_ := hw _ (List.mem_of_getElem? (i := 197) rfl)
def w198_ := hw _ (List.mem_of_getElem? (i := 198) rfl)
def w199_ := hw _ (List.mem_of_getElem? (i := 199) rfl)
def w200_ := hw _ (List.mem_of_getElem? (i := 200) rfl)
def w201_ := hw _ (List.mem_of_getElem? (i := 201) rfl)
def w202_ := hw _ (List.mem_of_getElem? (i := 202) rfl)
def w203_ := hw _ (List.mem_of_getElem? (i := 203) rfl)
def w204_ := hw _ (List.mem_of_getElem? (i := 204) rfl)
def w205_ := hw _ (List.mem_of_getElem? (i := 205) rfl)
def w206_ := hw _ (List.mem_of_getElem? (i := 206) rfl)
def w207_ := hw _ (List.mem_of_getElem? (i := 207) rfl)
def w208_ := hw _ (List.mem_of_getElem? (i := 208) rfl)
def w209_ := hw _ (List.mem_of_getElem? (i := 209) rfl)
def w210_ := hw _ (List.mem_of_getElem? (i := 210) rfl)
def w211_ := hw _ (List.mem_of_getElem? (i := 211) rfl)
def w212_ := hw _ (List.mem_of_getElem? (i := 212) rfl)
def w213_ := hw _ (List.mem_of_getElem? (i := 213) rfl)
def w214_ := hw _ (List.mem_of_getElem? (i := 214) rfl)
def w215_ := hw _ (List.mem_of_getElem? (i := 215) rfl)
def w216_ := hw _ (List.mem_of_getElem? (i := 216) rfl)
def w217_ := hw _ (List.mem_of_getElem? (i := 217) rfl)
def w218_ := hw _ (List.mem_of_getElem? (i := 218) rfl)
def w219_ := hw _ (List.mem_of_getElem? (i := 219) rfl)
def w220_ := hw _ (List.mem_of_getElem? (i := 220) rfl)
def w221_ := hw _ (List.mem_of_getElem? (i := 221) rfl)
def w222_ := hw _ (List.mem_of_getElem? (i := 222) rfl)
def w223_ := hw _ (List.mem_of_getElem? (i := 223) rfl)
def w224_ := hw _ (List.mem_of_getElem? (i := 224) rfl)
def w225_ := hw _ (List.mem_of_getElem? (i := 225) rfl)
def w226_ := hw _ (List.mem_of_getElem? (i := 226) rfl)
def w227_ := hw _ (List.mem_of_getElem? (i := 227) rfl)
def w228_ := hw _ (List.mem_of_getElem? (i := 228) rfl)
def w229_ := hw _ (List.mem_of_getElem? (i := 229) rfl)
def w230_ := hw _ (List.mem_of_getElem? (i := 230) rfl)
def w231_ := hw _ (List.mem_of_getElem? (i := 231) rfl)
def w232_ := hw _ (List.mem_of_getElem? (i := 232) rfl)
def w233_ := hw _ (List.mem_of_getElem? (i := 233) rfl)
def w234_ := hw _ (List.mem_of_getElem? (i := 234) rfl)
def w235_ := hw _ (List.mem_of_getElem? (i := 235) rfl)
def w236_ := hw _ (List.mem_of_getElem? (i := 236) rfl)
def w237_ := hw _ (List.mem_of_getElem? (i := 237) rfl)
def w238_ := hw _ (List.mem_of_getElem? (i := 238) rfl)
def w239_ := hw _ (List.mem_of_getElem? (i := 239) rfl)
def w240_ := hw _ (List.mem_of_getElem? (i := 240) rfl)
def w241_ := hw _ (List.mem_of_getElem? (i := 241) rfl)
def w242_ := hw _ (List.mem_of_getElem? (i := 242) rfl)
def w243_ := hw _ (List.mem_of_getElem? (i := 243) rfl)
def w244_ := hw _ (List.mem_of_getElem? (i := 244) rfl)
def w245_ := hw _ (List.mem_of_getElem? (i := 245) rfl)
def w246_ := hw _ (List.mem_of_getElem? (i := 246) rfl)
def w247_ := hw _ (List.mem_of_getElem? (i := 247) rfl)
def w248_ := hw _ (List.mem_of_getElem? (i := 248) rfl)
def w249_ := hw _ (List.mem_of_getElem? (i := 249) rfl)
def w250_ := hw _ (List.mem_of_getElem? (i := 250) rfl)
def w251_ := hw _ (List.mem_of_getElem? (i := 251) rfl)
def w252_ := hw _ (List.mem_of_getElem? (i := 252) rfl)
def w253_ := hw _ (List.mem_of_getElem? (i := 253) rfl)
def w254_ := hw _ (List.mem_of_getElem? (i := 254) rfl)
def w255_ := hw _ (List.mem_of_getElem? (i := 255) rfl)
def w256_ := hw _ (List.mem_of_getElem? (i := 256) rfl)
def w257_ := hw _ (List.mem_of_getElem? (i := 257) rfl)
def w258_ := hw _ (List.mem_of_getElem? (i := 258) rfl)
def w259_ := hw _ (List.mem_of_getElem? (i := 259) rfl)
def w260_ := hw _ (List.mem_of_getElem? (i := 260) rfl)
def w264_ := hw _ (List.mem_of_getElem? (i := 264) rfl)
def w265_ := hw _ (List.mem_of_getElem? (i := 265) rfl)
def w266_ := hw _ (List.mem_of_getElem? (i := 266) rfl)
def w267_ := hw _ (List.mem_of_getElem? (i := 267) rfl)
def w268_ := hw _ (List.mem_of_getElem? (i := 268) rfl)
def w269_ := hw _ (List.mem_of_getElem? (i := 269) rfl)
def w270_ := hw _ (List.mem_of_getElem? (i := 270) rfl)
def w271_ := hw _ (List.mem_of_getElem? (i := 271) rfl)
def w272_ := hw _ (List.mem_of_getElem? (i := 272) rfl)
end
abbrev Y0_ : MethodName := ⟨"java/lang/String", "<init>", "([CIILjava/lang/Void;)V"⟩
abbrev Y1_ : MethodName := ⟨"java/lang/String", "<init>", "([C)V"⟩
abbrev Y2_ : MethodName := ⟨"com/example/echoes_to_canon/echoestocanon/UrlKeysRestPinLaw", "nameOf", "(ICCC)Ljava/lang/String;"⟩
abbrev Y3_ : MethodName := ⟨"com/example/echoes_to_canon/echoestocanon/UrlKeysRestPinLaw", "shownOf", "(ICCC)Ljava/lang/String;"⟩
abbrev Y4_ : MethodName := ⟨"java/lang/StringLatin1", "canEncode", "(C)Z"⟩
abbrev Y5_ : MethodName := ⟨"java/lang/StringLatin1", "toBytes", "(C)[B"⟩
abbrev Y6_ : MethodName := ⟨"java/lang/String", "<init>", "([BB)V"⟩
abbrev Y7_ : MethodName := ⟨"java/lang/String", "valueOf", "(C)Ljava/lang/String;"⟩
abbrev Y8_ : MethodName := ⟨"com/example/echoes_to_canon/echoestocanon/HttpUrl$CharClass", "<init>", "(JJ)V"⟩
abbrev Y9_ : MethodName := ⟨"com/example/echoes_to_canon/echoestocanon/HttpUrl$CharClass", "of", "(Ljava/lang/String;)Lcom/example/echoes_to_canon/echoestocanon/HttpUrl$CharClass;"⟩
abbrev Y10_ : MethodName := ⟨"java/lang/String", "length", "()I"⟩
abbrev Y11_ : MethodName := ⟨"java/lang/String", "charAt", "(I)C"⟩
abbrev Y12_ : MethodName := ⟨"java/util/Objects", "requireNonNull", "(Ljava/lang/Object;Ljava/lang/String;)Ljava/lang/Object;"⟩
abbrev Y13_ : MethodName := ⟨"com/example/echoes_to_canon/echoestocanon/UrlKeys$Value", "<init>", "(Ljava/lang/String;Ljava/lang/String;ZLcom/example/echoes_to_canon/echoestocanon/Conversion;)V"⟩
abbrev Y14_ : MethodName := ⟨"com/example/echoes_to_canon/echoestocanon/UrlKeys$Value", "rest", "(Ljava/lang/String;)Lcom/example/echoes_to_canon/echoestocanon/UrlKeys$Value;"⟩
abbrev Y15_ : MethodName := ⟨"com/example/echoes_to_canon/echoestocanon/UrlKeys$Value", "isVariable", "()Z"⟩
abbrev Y16_ : MethodName := ⟨"com/example/echoes_to_canon/echoestocanon/UrlKeys$Value", "isRun", "()Z"⟩
abbrev Y17_ : MethodName := ⟨"com/example/echoes_to_canon/echoestocanon/UrlKeys$Value", "getText", "()Ljava/lang/String;"⟩
abbrev Y18_ : MethodName := ⟨"com/example/echoes_to_canon/echoestocanon/UrlKeys$Value", "getVariable", "()Ljava/lang/String;"⟩
abbrev Y19_ : MethodName := ⟨"java/lang/String", "equals", "(Ljava/lang/Object;)Z"⟩
abbrev Y20_ : MethodName := ⟨"com/example/echoes_to_canon/echoestocanon/UrlKeys$Value", "getConversion", "()Lcom/example/echoes_to_canon/echoestocanon/Conversion;"⟩
abbrev Y21_ : MethodName := ⟨"java/lang/AbstractStringBuilder", "<init>", "(I)V"⟩
abbrev Y22_ : MethodName := ⟨"java/lang/StringBuilder", "<init>", "()V"⟩
abbrev Y23_ : MethodName := ⟨"java/lang/AbstractStringBuilder", "ensureCapacityInternal", "(I)V"⟩
abbrev Y24_ : MethodName := ⟨"java/lang/String", "coder", "()B"⟩
abbrev Y25_ : MethodName := ⟨"java/lang/AbstractStringBuilder", "inflateIfNeededFor", "(Ljava/lang/String;)V"⟩
abbrev Y26_ : MethodName := ⟨"java/lang/String", "getBytes", "([BIB)V"⟩
abbrev Y27_ : MethodName := ⟨"java/lang/AbstractStringBuilder", "putStringAt", "(ILjava/lang/String;)V"⟩
abbrev Y28_ : MethodName := ⟨"java/lang/AbstractStringBuilder", "append", "(Ljava/lang/String;)Ljava/lang/AbstractStringBuilder;"⟩
abbrev Y29_ : MethodName := ⟨"java/lang/StringBuilder", "append", "(Ljava/lang/String;)Ljava/lang/StringBuilder;"⟩
abbrev Y30_ : MethodName := ⟨"java/lang/AbstractStringBuilder", "getValue", "()[B"⟩
abbrev Y31_ : MethodName := ⟨"java/lang/AbstractStringBuilder", "length", "()I"⟩
abbrev Y32_ : MethodName := ⟨"java/lang/StringBuilder", "length", "()I"⟩
abbrev Y33_ : MethodName := ⟨"java/lang/AbstractStringBuilder", "isLatin1", "()Z"⟩
abbrev Y34_ : MethodName := ⟨"java/util/Arrays", "checkLength", "(II)V"⟩
abbrev Y35_ : MethodName := ⟨"java/lang/Math", "min", "(II)I"⟩
abbrev Y36_ : MethodName := ⟨"java/util/Arrays", "copyOfRangeByte", "([BII)[B"⟩
abbrev Y37_ : MethodName := ⟨"java/util/Arrays", "copyOfRange", "([BII)[B"⟩
abbrev Y38_ : MethodName := ⟨"java/lang/String", "<init>", "(Ljava/lang/AbstractStringBuilder;Ljava/lang/Void;)V"⟩
abbrev Y39_ : MethodName := ⟨"java/lang/String", "<init>", "(Ljava/lang/StringBuilder;)V"⟩
abbrev Y40_ : MethodName := ⟨"java/lang/StringBuilder", "toString", "()Ljava/lang/String;"⟩
abbrev Y41_ : MethodName := ⟨"com/example/echoes_to_canon/echoestocanon/UrlKeys$Value", "toString", "()Ljava/lang/String;"⟩
abbrev Y42_ : MethodName := ⟨"com/example/echoes_to_canon/echoestocanon/UrlKeys$Value", "converted", "(Ljava/lang/String;)Ljava/lang/String;"⟩
abbrev Y43_ : MethodName := ⟨"com/example/echoes_to_canon/echoestocanon/UrlKeys$Value", "copied", "(Ljava/lang/String;Lcom/example/echoes_to_canon/echoestocanon/HttpUrl$CharClass;)Ljava/lang/String;"⟩
abbrev ab0_ (p2 : Int32) := (((p2 &&& (255 : Int32))).toUInt32.toUInt16.toUInt32.toInt32)
abbrev ab1_ (p3 : Int32) := (((p3 &&& (255 : Int32))).toUInt32.toUInt16.toUInt32.toInt32)
abbrev ab2_ (p4 : Int32) := (((p4 &&& (255 : Int32))).toUInt32.toUInt16.toUInt32.toInt32)
abbrev ab3_ (p5 : Int32) := (((p5 &&& (127 : Int32))).toUInt32.toUInt16.toUInt32.toInt32)
theorem own_cat {v : Value} (h : v.isRef = true) : v.category = 1 := by cases v <;> first | rfl | cases h
theorem own_and255 (x : Int32) : ∃ k : Fin 256, x &&& 255 = Int32.ofNat k.val := by
  have h : (x &&& 255).toBitVec.toNat < 256 := by
    simp only [Int32.toBitVec_and, BitVec.toNat_and]
    exact Nat.lt_succ_of_le Nat.and_le_right
  refine ⟨⟨_, h⟩, ?_⟩
  apply Int32.toBitVec_inj.mp
  show _ = BitVec.ofNat 32 _
  rw [BitVec.ofNat_toNat]; simp
theorem own_lat (x : Int32) : ¬ (((x &&& (255 : Int32))).toUInt32.toUInt16.toUInt32.toInt32) < 0 ∧ ¬ (255 : Int32) < (((x &&& (255 : Int32))).toUInt32.toUInt16.toUInt32.toInt32) := by
  obtain ⟨k, e⟩ := own_and255 x
  have t : ∀ k : Fin 256, ¬ ((Int32.ofNat k.val).toUInt32.toUInt16.toUInt32.toInt32) < 0 ∧ ¬ (255 : Int32) < ((Int32.ofNat k.val).toUInt32.toUInt16.toUInt32.toInt32) := by decide +kernel
  rw [e]; exact t k
theorem own_lat7 (x : Int32) : ¬ (((x &&& (127 : Int32))).toUInt32.toUInt16.toUInt32.toInt32) < 0 ∧ ¬ (255 : Int32) < (((x &&& (127 : Int32))).toUInt32.toUInt16.toUInt32.toInt32) := by
  have e : x &&& (127 : Int32) = (x &&& (127 : Int32)) &&& 255 := by rw [Int32.and_assoc]; rfl
  rw [e]; exact own_lat _
theorem own_nar_i2c (x : Int32) : nar .char (x.toUInt32.toUInt16.toUInt32.toInt32) = x.toUInt32.toUInt16.toUInt32.toInt32 := by simp only [nar, UInt32.toUInt32_toInt32, UInt16.toUInt16_toUInt32]
theorem own_nar_i2b (x : Int32) : nar .byte (x.toInt8.toInt32) = x.toInt8.toInt32 := by simp [nar]
theorem own_nar_lat {x : Int32} (h : ¬ x < 0 ∧ ¬ (255 : Int32) < x) : nar .char x = x := by
  have e0 : (0 : Int32).toInt = 0 := rfl
  have e1 : (255 : Int32).toInt = 255 := rfl
  have h1 := h.1
  have h2 := h.2
  rw [Int32.lt_iff_toInt_lt, e0] at h1
  rw [Int32.lt_iff_toInt_lt, e1] at h2
  have e : x = Int32.ofNat x.toInt.toNat := by
    apply Int32.toInt_inj.mp
    rw [Int32.toInt_ofNat_small (by omega)]; omega
  have t : ∀ k : Fin 256, nar .char (Int32.ofNat k.val) = Int32.ofNat k.val := by decide +kernel
  rw [e]; exact t ⟨x.toInt.toNat, by omega⟩
theorem own_up (cs : List Int32) (h : ∀ c ∈ cs, ¬ c < 0 ∧ ¬ (255 : Int32) < c) : ∀ c ∈ cs, ¬ c < 0 ∧ ¬ (65535 : Int32) < c := fun c hc => ⟨(h c hc).1, fun q => (h c hc).2 (by rw [Int32.lt_iff_toInt_lt] at q ⊢; have e1 : (65535 : Int32).toInt = 65535 := rfl; have e2 : (255 : Int32).toInt = 255 := rfl; omega)⟩
theorem own_sub {a b : Int32} {p : Int32 → Prop} (h : a = b) (hp : p b) : p a := by rw [h]; exact hp
theorem own_cons {a b : Int32} {l m : List Int32} (h : a = b) (h2 : l = m) : a :: l = b :: m := by rw [h, h2]
theorem own_and3 (x : Int32) : x &&& (3 : Int32) = 0 ∨ x &&& (3 : Int32) = 1 ∨ x &&& (3 : Int32) = 2 ∨ x &&& (3 : Int32) = 3 := by
  have h : (x &&& 3).toBitVec.toNat < 4 := by
    simp only [Int32.toBitVec_and, BitVec.toNat_and]
    exact Nat.lt_succ_of_le Nat.and_le_right
  have e : x &&& 3 = Int32.ofNat (x &&& 3).toBitVec.toNat := by
    apply Int32.toBitVec_inj.mp
    show _ = BitVec.ofNat 32 _
    rw [BitVec.ofNat_toNat]; simp
  rw [e]
  generalize (x &&& 3).toBitVec.toNat = n at h
  have : n = 0 ∨ n = 1 ∨ n = 2 ∨ n = 3 := by omega
  rcases this with rfl | rfl | rfl | rfl <;> simp
theorem own_three3 {x : Int32} (h0 : ¬ (x &&& (3 : Int32)) = (0 : Int32)) (h1 : ¬ (x &&& (3 : Int32)) = (1 : Int32)) (h2 : ¬ (x &&& (3 : Int32)) = (2 : Int32)) : (x &&& (3 : Int32)) = (3 : Int32) := by
  rcases own_and3 x with h | h | h | h
  · exact absurd h h0
  · exact absurd h h1
  · exact absurd h h2
  · exact h
section Own
variable {p : Program} {l : Launch} {e : Env} {R : Room} {s : State} {m : MethodId} {args : Array Value} {below : List Frame} {meth : Method} {c : Code} {T : State} {locs : List Loc} (cells slots rc rs C S : Nat) {Z : State} {h : Heap}
theorem own_cb {Q : Option Value → Heap → List Loc → Prop} {P : Option Value → Pt → Prop} (H : ∃ (v : Option Value) (vm₁ : Vm) (B : Pt), s.WarmedH vm₁ ∧ Stand p l e R s m args below meth c B.U B.locs B.cells B.slots ∧ (∃ L, Q v B.U.heap L ∧ B.locs = locs ++ L ∧ B.cells = cells + rc ∧ B.slots = slots + rs) ∧ P v B)
    (hc : cells + rc = C) (hs : slots + rs = S) : ∃ (v : Option Value) (T' : State) (L : List Loc), Stand p l e R s m args below meth c T' (locs ++ L) C S ∧ Q v T'.heap L ∧ P v (T', locs ++ L, C, S) := by
  obtain ⟨v, vm₁, ⟨T', L', k', n'⟩, -, X, ⟨L, hQ, h1, h2, h3⟩, hP⟩ := H
  dsimp only [Pt.U, Pt.locs, Pt.cells, Pt.slots] at X hQ h1 h2 h3
  subst h1 h2 h3 hc hs
  exact ⟨v, T', L, X, hQ, hP⟩
theorem own_cb0 {Q : Option Value → Pt → List Loc → Prop} {P : Option Value → Pt → Prop} (H : ∃ (v : Option Value) (vm₁ : Vm) (B : Pt), s.WarmedH vm₁ ∧ Stand p l e R s m args below meth c B.U B.locs B.cells B.slots ∧ (∃ L, Q v B L ∧ B.locs = locs ++ L ∧ B.cells = cells + rc ∧ B.slots = slots + rs) ∧ P v B)
    (hc : cells + rc = C) (hs : slots + rs = S) : ∃ (v : Option Value) (T' : State) (L : List Loc), Stand p l e R s m args below meth c T' (locs ++ L) C S ∧ Q v (T', locs ++ L, C, S) L ∧ P v (T', locs ++ L, C, S) := by
  obtain ⟨v, vm₁, ⟨T', L', k', n'⟩, -, X, ⟨L, hQ, h1, h2, h3⟩, hP⟩ := H
  dsimp only [Pt.U, Pt.locs, Pt.cells, Pt.slots] at X h1 h2 h3
  subst h1 h2 h3 hc hs
  exact ⟨v, T', L, X, hQ, hP⟩
theorem own_cbS {EL : List (String × Nat)} {vm0 : Vm} {k0 : Nat} {own : String} {Q : Option Value → Heap → List Loc → Prop} {P : Option Value → Pt → Prop} (H : ∃ (v : Option Value) (vm₁ : Vm) (B : Pt), (s.setVm vm0).WarmedH vm₁ ∧ Stand p l e R ((s.setVm vm0).setVm B.U.vm) m args below meth c B.U B.locs B.cells B.slots ∧ (s.setVm vm0).Since B.U.vm B.U.heap.size ∧ T.heap.size ≤ B.U.heap.size ∧ (∃ L, Q v B.U.heap L ∧ B.locs = locs ++ L ∧ B.cells = cells + rc ∧ B.slots = slots + rs ∧ CHr Z EL vm0 h B.U.vm B.U.heap) ∧ P v B)
    (hc : cells + rc = C) (hs : slots + rs = S) (hS : s.Since vm0 k0) (hk : k0 ≤ T.heap.size) (hZ : Z.Warmed39 vm0) (ho : vm0.findClass own = some m.cls) : ∃ (v : Option Value) (T' : State) (L : List Loc), Stand p l e R (s.setVm T'.vm) m args below meth c T' (locs ++ L) C S ∧ Q v T'.heap L ∧ s.Since T'.vm T'.heap.size ∧ Z.Warmed39 T'.vm ∧ T'.vm.findClass own = some m.cls ∧ CHr Z EL vm0 h T'.vm T'.heap ∧ P v (T', locs ++ L, C, S) := by
  obtain ⟨v, vm₁, ⟨T', L', k', n'⟩, -, X, hS2, hg, ⟨L, hQ, h1, h2, h3, hC⟩, hP⟩ := H
  dsimp only [Pt.U, Pt.locs, Pt.cells, Pt.slots] at X hQ h1 h2 h3 hS2 hg hC
  subst h1 h2 h3 hc hs
  exact ⟨v, T', L, X, hQ, hS.trans hS2 (Nat.le_trans hk hg), State.Warmed39.trans (t := s.setVm vm0) hZ hS2.1, by rw [hS2.1.alike.findClass]; exact ho, hC, hP⟩
theorem own_lvG {cells slots : Nat} {h : Heap} {s₁ : State} {fr : JFrame} {Q : Option Value → Heap → List Loc → Prop} (X : Stand p l e R s m args below meth c T locs cells slots) (hlocks : meth.locks = false) {v : Option Value} (hv : meth.sig.returnType = none → v = none) (hE : T.heap = h) (hQ : Q v h locs) (hk : (Nat.ble cells R.cells && Nat.ble slots R.slots) = true)
    (H : ∀ fs, (∀ (f : JFrame) (acts : List Action), f.method = m → f.locked = none → f.entered = [] → (doReturn e (T.setTop f) acts v).1 = T.setFrames fs) → Steps p.tables e below (s₁.setTop fr) (T.setFrames fs)) :
    ∃ s₂ o, Steps p.tables e below (s₁.setTop fr) s₂ ∧ s₂.status = .running ∧ Ended s₂ below o ∧ ∃ v L, o = .returned v ∧ Q v s₂.heap L ∧ FrameEnd s o s₂ L R.cells R.slots := by
  obtain ⟨fs, hr, hrun, hended, hW, hsame⟩ := X.leave hv hlocks
  rw [Bool.and_eq_true] at hk
  subst hE
  exact ⟨_, _, H fs hr, hrun, hended, _, _, rfl, hQ, ⟨_, rfl⟩, hW, hsame.mono (Nat.le_of_ble_eq_true hk.1) (Nat.le_of_ble_eq_true hk.2)⟩
theorem own_lvF {cells slots : Nat} {h : Heap} {s₁ : State} {fr : JFrame} {Q : Option Value → Heap → List Loc → Prop} {y : MethodName} {S : Spec} {cd : ByteArray} {ml : Nat} {t : FieldType} {s' sa : State} {a' : Array Value} {b' : List Frame} (X : Stand p l e R s m args below meth c T locs cells slots) (B : BodyLoose p l y S cd ml (some t) e s' m a' b' meth c sa) (v : Value) (hE : T.heap = h) (hQ : Q (some v) h locs) (hk : (Nat.ble cells R.cells && Nat.ble slots R.slots) = true)
    (H : ∀ fs, (∀ (f : JFrame) (acts : List Action), f.method = m → f.locked = none → f.entered = [] → (doReturn e (T.setTop f) acts (some v)).1 = T.setFrames fs) → Steps p.tables e below (s₁.setTop fr) (T.setFrames fs)) :
    ∃ s₂ o, Steps p.tables e below (s₁.setTop fr) s₂ ∧ s₂.status = .running ∧ Ended s₂ below o ∧ ∃ v L, o = .returned v ∧ Q v s₂.heap L ∧ FrameEnd s o s₂ L R.cells R.slots :=
  own_lvG X B.notSynchronized (v := some v) (fun h => by rw [B.returns] at h; cases h) hE hQ hk H
theorem own_lvN {cells slots : Nat} {h : Heap} {s₁ : State} {fr : JFrame} {Q : Option Value → Heap → List Loc → Prop} {y : MethodName} {S : Spec} {cd : ByteArray} {ml : Nat} {rt : Option FieldType} {s' sa : State} {a' : Array Value} {b' : List Frame} (X : Stand p l e R s m args below meth c T locs cells slots) (B : BodyLoose p l y S cd ml rt e s' m a' b' meth c sa) (hE : T.heap = h) (hQ : Q none h locs) (hk : (Nat.ble cells R.cells && Nat.ble slots R.slots) = true)
    (H : ∀ fs, (∀ (f : JFrame) (acts : List Action), f.method = m → f.locked = none → f.entered = [] → (doReturn e (T.setTop f) acts none).1 = T.setFrames fs) → Steps p.tables e below (s₁.setTop fr) (T.setFrames fs)) :
    ∃ s₂ o, Steps p.tables e below (s₁.setTop fr) s₂ ∧ s₂.status = .running ∧ Ended s₂ below o ∧ ∃ v L, o = .returned v ∧ Q v s₂.heap L ∧ FrameEnd s o s₂ L R.cells R.slots :=
  own_lvG X B.notSynchronized (v := none) (fun _ => rfl) hE hQ hk H
theorem own_lvW {cells slots : Nat} {h h0 : Heap} {s₁ : State} {fr : JFrame} {Q : Option Value → Heap → List Loc → Prop} {EL : List (String × Nat)} {vm1 : Vm} {n : Nat} (X : Stand p l e R (s.setVm vm1) m args below meth c T locs cells slots) (hlocks : meth.locks = false) (hS : s.Since vm1 n) (hk0 : n ≤ h.size) {v : Option Value} (hv : meth.sig.returnType = none → v = none) (hE : T.heap = h) (hh : s.heap = h0) (hQ : Q v h locs) (hC : CHr Z EL s.vm h0 T.vm h) (hk : cells ≤ R.cells) (hn : slots ≤ R.slots)
    (H : ∀ fs, (∀ (f : JFrame) (acts : List Action), f.method = m → f.locked = none → f.entered = [] → (doReturn e (T.setTop f) acts v).1 = T.setFrames fs) → Steps p.tables e below (s₁.setTop fr) (T.setFrames fs)) :
    ∃ s₂ o, Steps p.tables e below (s₁.setTop fr) s₂ ∧ s₂.status = .running ∧ Ended s₂ below o ∧ ∃ v L, o = .returned v ∧ Q v s₂.heap L ∧ CHr Z EL s.vm s.heap s₂.vm s₂.heap ∧ ReturnedEndW s o s₂ L R.cells R.slots := by
  subst hE hh
  obtain ⟨fs, hr, hrun, hended, hEnd⟩ := X.leaveW (s := s) hS hk0 hv hlocks
  exact ⟨_, _, H fs hr, hrun, hended, _, _, rfl, hQ, hC, hEnd.1, hEnd.2.1, hEnd.2.2.1, hEnd.2.2.2.mono hk hn⟩
end Own
abbrev Rm (f c s l : Nat) : Room := { frames := f, cells := c, slots := s, locals := l }
abbrev MF (l : Launch) (Z : State) (y : MethodName) (cd : ByteArray) (ml : Nat) (rt : Option FieldType) (R : Room) (a : Array Value) (h0 : Heap) (Q : Option Value → Heap → List Loc → Prop) : Prop :=
  MetFree l y (head1 [Jvm.Cond.code y cd ml rt] R) (fun b U => b = a ∧ Z.Warmed39 U.vm ∧ U.heap = h0) (fun _ _ _ _ _ => True) (fun _ U o U' => ∃ v L, o = .returned v ∧ Q v U'.heap L ∧ FrameEnd U o U' L R.cells R.slots)
theorem own_sFm {l : Launch} {Z : State} {y : MethodName} {cd : ByteArray} {ml : Nat} {rt : Option FieldType} {R : Room} {a : Array Value} {h0 : Heap} {Q : Option Value → Heap → List Loc → Prop} {K : String} {L0 : Array Slot} (hpn : plainFor y = true) (hK : y.cls = K) (hE : ∀ m, entryFrame m a ml = mkF m 0 L0 [])
    (H : ∀ p e s m below meth c s₁, BodyLoose p l y (head1 [Jvm.Cond.code y cd ml rt] R) cd ml rt e s m a below meth c s₁ → Z.Warmed39 s.vm → s.heap = h0 → p.tables.exec = Jvm.exec → c.code = cd → c.maxLocals = ml → s.vm.findClass K = some m.cls → meth.name = y.name → Stand p l e R s m a below meth c s₁ [] 0 0 → s₁.heap = h0 → (∀ t, Steps p.tables e below (s₁.setTop (mkF m 0 L0 [])) t → Steps p.tables e below (s₁.setTop (entryFrame m a ml)) t) →
      ∃ s₂ o, Steps p.tables e below (s₁.setTop (entryFrame m a ml)) s₂ ∧ s₂.status = .running ∧ Ended s₂ below o ∧ ∃ v L, o = .returned v ∧ Q v s₂.heap L ∧ FrameEnd s o s₂ L R.cells R.slots) : MF l Z y cd ml rt R a h0 Q := by
  subst hK
  refine MetFree.of_bodySF hpn hisR ?_
  intro p e s m args below meth c s₁ Bd hml0 hP hK
  obtain ⟨rfl, hZ, hh⟩ := hP
  exact H p e s m below meth c s₁ Bd hZ hh Bd.exec Bd.bytes hml0 (findClass_of_methodNamed Bd.named) (name_of_methodNamed Bd.named Bd.method).1 (Stand.of_body Bd) (by rw [← hh, Bd.state]; rfl) (fun t k => castTop (hE m) k)
theorem own_sF {l : Launch} {Z : State} {y : MethodName} {cd : ByteArray} {ml : Nat} {rt : Option FieldType} {R : Room} {a : Array Value} {h0 : Heap} {Q : Option Value → Heap → List Loc → Prop} {K : String} {L0 : Array Slot} (hpn : plainName K = true) (hK : y.cls = K) (hE : ∀ m, entryFrame m a ml = mkF m 0 L0 [])
    (H : ∀ p e s m below meth c s₁, BodyLoose p l y (head1 [Jvm.Cond.code y cd ml rt] R) cd ml rt e s m a below meth c s₁ → Z.Warmed39 s.vm → s.heap = h0 → p.tables.exec = Jvm.exec → c.code = cd → c.maxLocals = ml → s.vm.findClass K = some m.cls → meth.name = y.name → Stand p l e R s m a below meth c s₁ [] 0 0 → s₁.heap = h0 → (∀ t, Steps p.tables e below (s₁.setTop (mkF m 0 L0 [])) t → Steps p.tables e below (s₁.setTop (entryFrame m a ml)) t) →
      ∃ s₂ o, Steps p.tables e below (s₁.setTop (entryFrame m a ml)) s₂ ∧ s₂.status = .running ∧ Ended s₂ below o ∧ ∃ v L, o = .returned v ∧ Q v s₂.heap L ∧ FrameEnd s o s₂ L R.cells R.slots) : MF l Z y cd ml rt R a h0 Q := own_sFm (plainFor_of_name (hK ▸ hpn)) hK hE H
section Own3
variable {p : Program} {l : Launch} {e : Env} {R : Room} {s : State} {m : MethodId} {args : Array Value} {below : List Frame} {meth : Method} {c : Code} {T : State} {locs : List Loc} {cells slots : Nat} {Z : State} {h : Heap} {own C : String} {index : Nat} {y z : MethodName} {bytes : ByteArray} {maxL : Nat} {ret : Option FieldType} {rm : Room} {Q : Option Value → Heap → List Loc → Prop} {argsL : List Value} {ps : List FieldType} {r : Option FieldType} {a0 : Array Value}
abbrev own_num (rm R : Room) (rest : List Value) (maxL cells slots : Nat) : Bool := Nat.ble (rm.frames + 1) R.frames && (Nat.ble ((rest.map fun v => v.category).sum + (maxL + 11) + rm.locals) R.locals && (Nat.ble (cells + rm.cells) R.cells && Nat.ble (slots + rm.slots) R.slots))
theorem own_numE {rest : List Value} (h : own_num rm R rest maxL cells slots = true) : rm.frames + 1 ≤ R.frames ∧ (rest.map fun v => v.category).sum + (maxL + 11) + rm.locals ≤ R.locals ∧ cells + rm.cells ≤ R.cells ∧ slots + rm.slots ≤ R.slots := by
  simp only [own_num, Bool.and_eq_true] at h
  exact ⟨Nat.le_of_ble_eq_true h.1, Nat.le_of_ble_eq_true h.2.1, Nat.le_of_ble_eq_true h.2.2.1, Nat.le_of_ble_eq_true h.2.2.2⟩
theorem own_cS (C' S' : Nat) (rest : List Value) (pc : Nat) (Ls : Array Slot) (X : Stand p l e R s m args below meth c T locs cells slots) (hx : p.tables.exec = Jvm.exec) (hZ : Z.Warmed39 s.vm) (hown : s.vm.findClass own = some m.cls) (w1 : (Cond.methodLink own index y).before a0 Z = true) (w2 : (Cond.static y).before a0 Z = true) (w3 : (Cond.initialized y.cls).before a0 Z = true) (w4 : (Cond.code y bytes maxL ret).before a0 Z = true)
    (hM : MF l Z y bytes maxL ret rm argsL.toArray h Q) (pd : parseMethodDescriptor y.desc = some ⟨ps, r⟩) (hsz : Ls.size = c.maxLocals) (hd : decode c.code pc = .ok (.invokestatic index, 3)) (hE : T.heap = h) (hl : argsL.length = ps.length) (hc : cells + rm.cells = C') (hs : slots + rm.slots = S') (hn : own_num rm R rest maxL cells slots = true) (hy : y.cls ≠ "java/lang/invoke/MethodHandle" ∧ y.cls ≠ "java/lang/invoke/VarHandle") :
    ∃ (v : Option Value) (T' : State) (L : List Loc), Stand p l e R s m args below meth c T' (locs ++ L) C' S' ∧ Q v T'.heap L ∧ ∀ target, Steps p.tables e below (T'.setTop (mkF m (pc + 3) Ls (v.toList ++ rest))) target → Steps p.tables e below (T.setTop (mkF m pc Ls (argsL.reverse ++ rest))) target := by
  obtain ⟨n1, n2, n3, n4⟩ := own_numE hn
  exact own_cb cells slots rm.cells rm.slots C' S' (Jvm.LawKit.callS X hx hown (mvT hZ w1) (mvT hZ w2) (mvT hZ w3) (mvT hZ w4) hy (backOf (W := (rest.map fun v => v.category).sum) hM hZ w4 w3 n1 n2) (g := mkF m pc Ls (argsL.reverse ++ rest)) rfl hsz (argsL := argsL) (rest := rest) (lenOf pd hl) rfl (Nat.le_of_eq (Nat.zero_add _)) hd (fun _ _ => ⟨rfl, hE, n3, n4⟩)) hc hs
theorem own_cI (C' S' : Nat) (rest : List Value) (pc : Nat) (Ls : Array Slot) {a : Addr} (X : Stand p l e R s m args below meth c T locs cells slots) (hx : p.tables.exec = Jvm.exec) (hZ : Z.Warmed39 s.vm) (hown : s.vm.findClass own = some m.cls) (w1 : (Cond.methodLink own index y).before a0 Z = true) (w2 : (Cond.instanceMethod y).before a0 Z = true) (w3 : (Cond.initialized y.cls).before a0 Z = true) (w4 : (Cond.code y bytes maxL none).before a0 Z = true)
    (hM : MF l Z y bytes maxL none rm (.ref a :: argsL).toArray h Q) (pd : parseMethodDescriptor y.desc = some ⟨ps, r⟩) (hsz : Ls.size = c.maxLocals) (hd : decode c.code pc = .ok (.invokespecial index, 3)) (hE : T.heap = h) (hl : argsL.length = ps.length) (hc : cells + rm.cells = C') (hs : slots + rm.slots = S') (hn : own_num rm R rest maxL cells slots = true) (hy1 : y.name = "<init>") (hy : y.cls ≠ "java/lang/invoke/MethodHandle" ∧ y.cls ≠ "java/lang/invoke/VarHandle") :
    ∃ (v : Option Value) (T' : State) (L : List Loc), Stand p l e R s m args below meth c T' (locs ++ L) C' S' ∧ Q v T'.heap L ∧ ∀ target, Steps p.tables e below (T'.setTop (mkF m (pc + 3) Ls (v.toList ++ rest))) target → Steps p.tables e below (T.setTop (mkF m pc Ls (argsL.reverse ++ .ref a :: rest))) target := by
  obtain ⟨n1, n2, n3, n4⟩ := own_numE hn
  obtain ⟨v, T', L, h1, h2, h3⟩ := own_cb cells slots rm.cells rm.slots C' S' (X.specialBack hx hy1 hown (mvT hZ w1) (mvT hZ w2) (mvT hZ w4) hy (backOf (W := (rest.map fun v => v.category).sum) hM hZ w4 w3 n1 n2) (g := mkF m pc Ls (argsL.reverse ++ .ref a :: rest)) rfl hsz (Steps.refl _) (a := a) (argsL := argsL) (rest := rest) (lenOf pd hl) rfl (Nat.le_of_eq (Nat.zero_add _)) hd (fun _ _ => ⟨rfl, hE, n3, n4⟩)) hc hs
  exact ⟨v, T', L, h1, h2, fun t k => Steps.trans h3 k⟩
theorem own_cV (C' S' : Nat) (rest : List Value) (pc : Nat) (Ls : Array Slot) {b : Addr} (X : Stand p l e R s m args below meth c T locs cells slots) (hx : p.tables.exec = Jvm.exec) (hZ : Z.Warmed39 s.vm) (hown : s.vm.findClass own = some m.cls) (E : Exa Z h b C) (w1 : (Cond.methodLink own index y).before a0 Z = true) (w2 : (Cond.declares y).before a0 Z = true) (hnf : NotFace s y) (ws : (Cond.selects C y z).before a0 Z = true) (wi : (Cond.instanceMethod z).before a0 Z = true) (w3 : (Cond.initialized z.cls).before a0 Z = true) (w4 : (Cond.code z bytes maxL ret).before a0 Z = true)
    (hM : MF l Z z bytes maxL ret rm (.ref b :: argsL).toArray h Q) (pd : parseMethodDescriptor y.desc = some ⟨ps, r⟩) (hsz : Ls.size = c.maxLocals) (hd : decode c.code pc = .ok (.invokevirtual index, 3)) (hE : T.heap = h) (hl : argsL.length = ps.length) (hc : cells + rm.cells = C') (hs : slots + rm.slots = S') (hn : own_num rm R rest maxL cells slots = true) (hy : y.cls ≠ "java/lang/invoke/MethodHandle" ∧ y.cls ≠ "java/lang/invoke/VarHandle") :
    ∃ (v : Option Value) (T' : State) (L : List Loc), Stand p l e R s m args below meth c T' (locs ++ L) C' S' ∧ Q v T'.heap L ∧ ∀ target, Steps p.tables e below (T'.setTop (mkF m (pc + 3) Ls (v.toList ++ rest))) target → Steps p.tables e below (T.setTop (mkF m pc Ls (argsL.reverse ++ .ref b :: rest))) target := by
  obtain ⟨n1, n2, n3, n4⟩ := own_numE hn
  obtain ⟨cq, kq, qa, qb, qc⟩ := isOf hZ hE E
  obtain ⟨v, T', L, h1, h2, h3⟩ := own_cb cells slots rm.cells rm.slots C' S' (X.virtualBack hx hown (mvT hZ w1) (mvT hZ w2) hnf (mvT hZ ws) (mvT hZ wi) hy (backOf (W := (rest.map fun v => v.category).sum) hM hZ w4 w3 n1 n2) qa qc (g := mkF m pc Ls (argsL.reverse ++ .ref b :: rest)) rfl hsz (Steps.refl _) (argsL := argsL) (rest := rest) (lenOf pd hl) rfl (Nat.le_of_eq (Nat.zero_add _)) hd (fun _ _ => ⟨rfl, hE, n3, n4⟩)) hc hs
  exact ⟨v, T', L, h1, h2, fun t k => Steps.trans h3 k⟩
end Own3
section Own4
variable {p : Program} {l : Launch} {e : Env} {R : Room} {s : State} {m : MethodId} {args : Array Value} {below : List Frame} {meth : Method} {c : Code} {T target : State} {locs : List Loc} {cells slots : Nat} {bs : ByteArray} {pc pc' : Nat} {Ls : Array Slot} {st : List Value} {o i : Int} {y : MethodName} {S : Spec} {ml : Nat} {rt : Option FieldType} {s' sa : State} {a' : Array Value} {b' : List Frame}
theorem zi (X : Stand p l e R s m args below meth c T locs cells slots) (B : BodyLoose p l y S bs ml rt e s' m a' b' meth c sa) {k : Nat} {v : Int32} (hd : decode bs pc = .ok (.iload k, 2)) (hl : Ls[k]? = some (.val (.int v))) (hr : Steps p.tables e below (T.setTop (mkF m (pc + 2) Ls (.int v :: st))) target) : Steps p.tables e below (T.setTop (mkF m pc Ls st)) target := XS.iload X.here B.exec rfl (hb B.bytes hd) hl hr
theorem zj (X : Stand p l e R s m args below meth c T locs cells slots) (B : BodyLoose p l y S bs ml rt e s' m a' b' meth c sa) {k : Fin 4} {v : Int32} (hd : decode bs pc = .ok (.iload_n k, 1)) (hl : Ls[k.val]? = some (.val (.int v))) (hr : Steps p.tables e below (T.setTop (mkF m (pc + 1) Ls (.int v :: st))) target) : Steps p.tables e below (T.setTop (mkF m pc Ls st)) target := XS.iloadN X.here B.exec rfl (hb B.bytes hd) hl hr
theorem za (X : Stand p l e R s m args below meth c T locs cells slots) (B : BodyLoose p l y S bs ml rt e s' m a' b' meth c sa) {k : Nat} {v : Value} (hd : decode bs pc = .ok (.aload k, 2)) (hl : Ls[k]? = some (.val v)) (hv : v.isRef = true) (hr : Steps p.tables e below (T.setTop (mkF m (pc + 2) Ls (v :: st))) target) : Steps p.tables e below (T.setTop (mkF m pc Ls st)) target := XS.aload X.here B.exec rfl (hb B.bytes hd) hl hv hr
theorem zb (X : Stand p l e R s m args below meth c T locs cells slots) (B : BodyLoose p l y S bs ml rt e s' m a' b' meth c sa) {k : Fin 4} {v : Value} (hd : decode bs pc = .ok (.aload_n k, 1)) (hl : Ls[k.val]? = some (.val v)) (hv : v.isRef = true) (hr : Steps p.tables e below (T.setTop (mkF m (pc + 1) Ls (v :: st))) target) : Steps p.tables e below (T.setTop (mkF m pc Ls st)) target := XS.aloadN X.here B.exec rfl (hb B.bytes hd) hl hv hr
theorem zc (X : Stand p l e R s m args below meth c T locs cells slots) (B : BodyLoose p l y S bs ml rt e s' m a' b' meth c sa) (hd : decode bs pc = .ok (.iconst i, 1)) (hr : Steps p.tables e below (T.setTop (mkF m (pc + 1) Ls (.int (Int32.ofInt i) :: st))) target) : Steps p.tables e below (T.setTop (mkF m pc Ls st)) target := XS.iconst X.here B.exec rfl (hb B.bytes hd) hr
theorem zd (X : Stand p l e R s m args below meth c T locs cells slots) (B : BodyLoose p l y S bs ml rt e s' m a' b' meth c sa) (hd : decode bs pc = .ok (.bipush i, 2)) (hr : Steps p.tables e below (T.setTop (mkF m (pc + 2) Ls (.int (Int8.ofInt i).toInt32 :: st))) target) : Steps p.tables e below (T.setTop (mkF m pc Ls st)) target := XS.bipush X.here B.exec rfl (hb B.bytes hd) hr
theorem zs (X : Stand p l e R s m args below meth c T locs cells slots) (B : BodyLoose p l y S bs ml rt e s' m a' b' meth c sa) {k : Nat} {v : Int32} {l' : Array Slot} (hd : decode bs pc = .ok (.istore k, 2)) (hl : storeLocals Ls k (.int v) = some l') (hr : Steps p.tables e below (T.setTop (mkF m (pc + 2) l' st)) target) : Steps p.tables e below (T.setTop (mkF m pc Ls (.int v :: st))) target := XS.istore X.here B.exec rfl (hb B.bytes hd) rfl hl hr
theorem zt (X : Stand p l e R s m args below meth c T locs cells slots) (B : BodyLoose p l y S bs ml rt e s' m a' b' meth c sa) {k : Fin 4} {v : Int32} {l' : Array Slot} (hd : decode bs pc = .ok (.istore_n k, 1)) (hl : storeLocals Ls k.val (.int v) = some l') (hr : Steps p.tables e below (T.setTop (mkF m (pc + 1) l' st)) target) : Steps p.tables e below (T.setTop (mkF m pc Ls (.int v :: st))) target := XS.istoreN X.here B.exec rfl (hb B.bytes hd) rfl hl hr
theorem zn (X : Stand p l e R s m args below meth c T locs cells slots) (B : BodyLoose p l y S bs ml rt e s' m a' b' meth c sa) {cd : ClassFile.Cond} {u v : Int32} (hd : decode bs pc = .ok (.if_icmp cd o, 3)) (hc : if_icmp.holds cd u v = false) (hr : Steps p.tables e below (T.setTop (mkF m (pc + 3) Ls st)) target) : Steps p.tables e below (T.setTop (mkF m pc Ls (.int v :: .int u :: st))) target := XS.icmpNo X.here B.exec rfl (hb B.bytes hd) rfl hc hr
theorem zy (X : Stand p l e R s m args below meth c T locs cells slots) (B : BodyLoose p l y S bs ml rt e s' m a' b' meth c sa) {cd : ClassFile.Cond} {u v : Int32} (hd : decode bs pc = .ok (.if_icmp cd o, 3)) (hc : if_icmp.holds cd u v = true) (q : decide (0 ≤ (pc : Int) + o ∧ ((pc : Int) + o).toNat = pc') = true) (hr : Steps p.tables e below (T.setTop (mkF m pc' Ls st)) target) : Steps p.tables e below (T.setTop (mkF m pc Ls (.int v :: .int u :: st))) target := XS.icmpYes X.here B.exec rfl rfl (hb B.bytes hd) rfl hc (of_decide_eq_true q).1 (of_decide_eq_true q).2 hr
theorem zo (X : Stand p l e R s m args below meth c T locs cells slots) (B : BodyLoose p l y S bs ml rt e s' m a' b' meth c sa) {cd : ClassFile.Cond} {u : Int32} (hd : decode bs pc = .ok (.ifCond cd o, 3)) (hc : ifCond.holds cd u = false) (hr : Steps p.tables e below (T.setTop (mkF m (pc + 3) Ls st)) target) : Steps p.tables e below (T.setTop (mkF m pc Ls (.int u :: st))) target := XS.ifNo X.here B.exec rfl (hb B.bytes hd) rfl hc hr
theorem zp (X : Stand p l e R s m args below meth c T locs cells slots) (B : BodyLoose p l y S bs ml rt e s' m a' b' meth c sa) {cd : ClassFile.Cond} {u : Int32} (hd : decode bs pc = .ok (.ifCond cd o, 3)) (hc : ifCond.holds cd u = true) (q : decide (0 ≤ (pc : Int) + o ∧ ((pc : Int) + o).toNat = pc') = true) (hr : Steps p.tables e below (T.setTop (mkF m pc' Ls st)) target) : Steps p.tables e below (T.setTop (mkF m pc Ls (.int u :: st))) target := XS.ifYes X.here B.exec rfl rfl (hb B.bytes hd) rfl hc (of_decide_eq_true q).1 (of_decide_eq_true q).2 hr
theorem zg (X : Stand p l e R s m args below meth c T locs cells slots) (B : BodyLoose p l y S bs ml rt e s' m a' b' meth c sa) (hd : decode bs pc = .ok (.goto o, 3)) (q : decide (0 ≤ (pc : Int) + o ∧ ((pc : Int) + o).toNat = pc') = true) (hr : Steps p.tables e below (T.setTop (mkF m pc' Ls st)) target) : Steps p.tables e below (T.setTop (mkF m pc Ls st)) target := XS.goto X.here B.exec rfl rfl (hb B.bytes hd) (of_decide_eq_true q).1 (of_decide_eq_true q).2 hr
end Own4
abbrev MW (l : Launch) (Z : State) (EL : List (String × Nat)) (y : MethodName) (cd : ByteArray) (ml : Nat) (rt : Option FieldType) (R : Room) (a : Array Value) (h0 : Heap) (Q : Option Value → Heap → List Loc → Prop) : Prop :=
  MetFree l y (head1 [Jvm.Cond.code y cd ml rt] R) (fun b U => b = a ∧ Z.Warmed39 U.vm ∧ U.heap = h0 ∧ CHv Z EL U.vm h0) (fun _ _ _ _ _ => True) (fun _ U o U' => ∃ v L, o = .returned v ∧ Q v U'.heap L ∧ CHr Z EL U.vm U.heap U'.vm U'.heap ∧ ReturnedEndW U o U' L R.cells R.slots)
theorem own_sWm {l : Launch} {Z : State} {EL : List (String × Nat)} {y : MethodName} {cd : ByteArray} {ml : Nat} {rt : Option FieldType} {R : Room} {a : Array Value} {h0 : Heap} {Q : Option Value → Heap → List Loc → Prop} {K : String} {L0 : Array Slot} (hpn : plainFor y = true) (hK : y.cls = K) (hE : ∀ m, entryFrame m a ml = mkF m 0 L0 [])
    (H : ∀ p e s m below meth c s₁, BodyLoose p l y (head1 [Jvm.Cond.code y cd ml rt] R) cd ml rt e s m a below meth c s₁ → Z.Warmed39 s.vm → s.heap = h0 → p.tables.exec = Jvm.exec → c.code = cd → c.maxLocals = ml → s.vm.findClass K = some m.cls → meth.name = y.name → Stand p l e R (s.setVm s.vm) m a below meth c s₁ [] 0 0 → s₁.heap = h0 → (∀ t, Steps p.tables e below (s₁.setTop (mkF m 0 L0 [])) t → Steps p.tables e below (s₁.setTop (entryFrame m a ml)) t) →
      CHv Z EL s.vm h0 → s.Since s.vm h0.size → h0.size ≤ h0.size → CHr Z EL s.vm h0 s.vm h0 →
      ∃ s₂ o, Steps p.tables e below (s₁.setTop (entryFrame m a ml)) s₂ ∧ s₂.status = .running ∧ Ended s₂ below o ∧ ∃ v L, o = .returned v ∧ Q v s₂.heap L ∧ CHr Z EL s.vm s.heap s₂.vm s₂.heap ∧ ReturnedEndW s o s₂ L R.cells R.slots) : MW l Z EL y cd ml rt R a h0 Q := by
  subst hK
  refine MetFree.of_bodySF hpn hisR ?_
  intro p e s m args below meth c s₁ Bd hml0 hP hK
  obtain ⟨rfl, hZ, hh, hC0⟩ := hP
  exact H p e s m below meth c s₁ Bd hZ hh Bd.exec Bd.bytes hml0 (findClass_of_methodNamed Bd.named) (name_of_methodNamed Bd.named Bd.method).1 (Stand.of_body Bd) (by rw [← hh, Bd.state]; rfl) (fun t k => castTop (hE m) k) hC0 ((State.WarmedH.refl s).since _) (Nat.le_refl _) (CHr.refl hC0)
theorem own_sW {l : Launch} {Z : State} {EL : List (String × Nat)} {y : MethodName} {cd : ByteArray} {ml : Nat} {rt : Option FieldType} {R : Room} {a : Array Value} {h0 : Heap} {Q : Option Value → Heap → List Loc → Prop} {K : String} {L0 : Array Slot} (hpn : plainName K = true) (hK : y.cls = K) (hE : ∀ m, entryFrame m a ml = mkF m 0 L0 [])
    (H : ∀ p e s m below meth c s₁, BodyLoose p l y (head1 [Jvm.Cond.code y cd ml rt] R) cd ml rt e s m a below meth c s₁ → Z.Warmed39 s.vm → s.heap = h0 → p.tables.exec = Jvm.exec → c.code = cd → c.maxLocals = ml → s.vm.findClass K = some m.cls → meth.name = y.name → Stand p l e R (s.setVm s.vm) m a below meth c s₁ [] 0 0 → s₁.heap = h0 → (∀ t, Steps p.tables e below (s₁.setTop (mkF m 0 L0 [])) t → Steps p.tables e below (s₁.setTop (entryFrame m a ml)) t) →
      CHv Z EL s.vm h0 → s.Since s.vm h0.size → h0.size ≤ h0.size → CHr Z EL s.vm h0 s.vm h0 →
      ∃ s₂ o, Steps p.tables e below (s₁.setTop (entryFrame m a ml)) s₂ ∧ s₂.status = .running ∧ Ended s₂ below o ∧ ∃ v L, o = .returned v ∧ Q v s₂.heap L ∧ CHr Z EL s.vm s.heap s₂.vm s₂.heap ∧ ReturnedEndW s o s₂ L R.cells R.slots) : MW l Z EL y cd ml rt R a h0 Q := own_sWm (plainFor_of_name (hK ▸ hpn)) hK hE H
theorem own_nf {s : State} {args : Array Value} {y x z : MethodName} {C : String} (h : (Cond.selects C x z).before args s = true) (e : z.cls = y.cls) : NotFace s y := fun r0 h0 => by
  obtain ⟨c2, r2, m2, q1, q2, q3, q4, kP, hkP, hkPi⟩ := Cond.selects_spec h
  have h1 := findClass_of_methodNamed q3
  have h2 := findClass_of_methodNamed h0
  rw [e] at h1
  have e2 : m2.cls = r0.cls := Option.some.inj (h1.symm.trans h2)
  exact ⟨kP, e2 ▸ hkP, hkPi⟩
theorem own_same {s : State} {args : Array Value} {y x z : MethodName} {C : String} (hi : (Cond.instanceMethod y).before args s = true) (h : (Cond.selects C x z).before args s = true) (e : z.cls = y.cls) (hy : y.cls ≠ "java/lang/invoke/MethodHandle" ∧ y.cls ≠ "java/lang/invoke/VarHandle") : (Cond.sameMethod y.cls y.cls y.name y.desc).before args s = true := by
  obtain ⟨mk, methM, hnamed, hmethM, -, -⟩ := Cond.instanceMethod_spec hi
  have hfound : s.methodFound? y.cls y.name y.desc = some mk := State.methodFound?_of_named hnamed hy
  obtain ⟨kr, k1, k2⟩ := own_nf (y := y) h e mk hnamed
  have hc := findClass_of_methodNamed hnamed
  have hn : s.methodNamed? ⟨y.cls, y.name, y.desc⟩ = some mk := hnamed
  simp [Cond.before, Cond.holds, Cond.value, hc, hfound, hn, k1, k2]
theorem own_selQ {s : State} {args : Array Value} {y x z : MethodName} {C : String} (h : (Cond.selects C x z).before args s = true) (e : z.cls = y.cls) (hpriv : s.PrivateAt y) (hinst : (Cond.instanceMethod y).before args s = true) (hy : y.cls ≠ "java/lang/invoke/MethodHandle" ∧ y.cls ≠ "java/lang/invoke/VarHandle") : (Cond.selects y.cls y y).before args s = true := by
  obtain ⟨c2, r2, m2, q1, q2, q3, q4, kP, hkP, hkPi⟩ := Cond.selects_spec h
  have h1 := findClass_of_methodNamed q3
  rw [e] at h1
  exact selects_self_of_private h1 hkP hkPi hpriv hinst hy
theorem own_selP {s : State} {args : Array Value} {y : MethodName} {C : String} (h : (Cond.selects C y y).before args s = true) (hpriv : s.PrivateAt y) (hinst : (Cond.instanceMethod y).before args s = true) (hy : y.cls ≠ "java/lang/invoke/MethodHandle" ∧ y.cls ≠ "java/lang/invoke/VarHandle") : (Cond.selects y.cls y y).before args s = true := by
  obtain ⟨c2, r2, m2, q1, q2, q3, q4, kP, hkP, hkPi⟩ := Cond.selects_spec h
  exact selects_self_of_private (findClass_of_methodNamed q3) hkP hkPi hpriv hinst hy
theorem own_ws {a0 : Array Value} {Z : State} (hw : ∀ d ∈ tables_1, d.before a0 Z = true) : ∀ d ∈ StrChars.Road.words, d.before a0 Z = true := fun d hd => hw d ((by decide +kernel : ∀ d ∈ StrChars.Road.words, d ∈ tables_1) d hd)
theorem own_wl {a0 : Array Value} {Z : State} (hw : ∀ d ∈ tables_1, d.before a0 Z = true) : ∀ d ∈ StrChars.Road.wordsLen, d.before a0 Z = true := fun d hd => hw d ((by decide +kernel : ∀ d ∈ StrChars.Road.wordsLen, d ∈ tables_1) d hd)
theorem own_wc {a0 : Array Value} {Z : State} (hw : ∀ d ∈ tables_1, d.before a0 Z = true) : ∀ d ∈ StrChars.Road.wordsChN, d.before a0 Z = true := fun d hd => hw d ((by decide +kernel : ∀ d ∈ StrChars.Road.wordsChN, d ∈ tables_1) d hd)
theorem own_wq {a0 : Array Value} {Z : State} (hw : ∀ d ∈ tables_1, d.before a0 Z = true) : ∀ d ∈ StrChars.Road.wordsEq, d.before a0 Z = true := fun d hd => hw d ((by decide +kernel : ∀ d ∈ StrChars.Road.wordsEq, d ∈ tables_1) d hd)
theorem own_wS {a0 : Array Value} {Z : State} (hw : ∀ d ∈ tables_1, d.before a0 Z = true) : ∀ d ∈ Bundle.stringAtoms, d.before a0 Z = true := fun d hd => hw d ((by decide +kernel : ∀ d ∈ Bundle.stringAtoms, d ∈ tables_1) d hd)
theorem own_safe_null {Z : State} {EL : List (String × Nat)} {vm : Vm} {h : Heap} {x : Addr} (hal : Z.vm.Alike vm) (E : Exa Z h x "java/lang/String") (F : Fld Z h x "java/lang/String" "value" "[B" .null) : Safe Z EL vm h x := fun B => by
  obtain ⟨cell, k, e1, e2, e3, -, -⟩ := E
  obtain ⟨cell', cf, k', i, f, f1, f2, f3, -, -, -, f7⟩ := F
  cases e1.symm.trans f1
  obtain ⟨p, -, u, a, -, q, -, G, rfl | rfl⟩ := B
  · cases (show h[q.sa]? = some q.sC from G.ha).symm.trans e1
    obtain ⟨cS, ⟨⟨s1, s2, s3, ⟨cv, kv, iv, s4, s4'⟩, -, s6, s7, s8, -⟩, -, -⟩, -⟩ := G
    obtain ⟨kv', z4⟩ := ff_back (U := Wst Z vm h) hal s4
    cases z4.symm.trans f2
    rw [s8] at f7
    cases f7
  · cases (show h[q.sd]? = some q.SA from G.hd).symm.trans e1
    obtain ⟨cS, -, -, hB, -⟩ := G
    have hB : vm.findClass "[B" = some q.SA.cls := hB
    rw [hal.findClass] at hB
    obtain ⟨k1, q1, q2⟩ := Vm.findClass_spec hB
    obtain ⟨k2, q3, q4⟩ := Vm.findClass_spec e2
    cases q1.symm.trans q3
    exact absurd (q2.symm.trans q4) (by decide)
theorem own_EW {a0 : Array Value} {Z : State} (hw : ∀ d ∈ tables_1, d.before a0 Z = true) : EW Z a0 consts_1 := (EW.cons (own := "com/example/echoes_to_canon/echoestocanon/UrlKeys$Value") (index := 57) (text := "name") (w105_ hw) (by decide) (EW.cons (own := "com/example/echoes_to_canon/echoestocanon/UrlKeys$Value") (index := 101) (text := "{") (w176_ hw) (by decide) (EW.cons (own := "com/example/echoes_to_canon/echoestocanon/UrlKeys$Value") (index := 107) (text := "*}") (w215_ hw) (by decide) (EW.cons (own := "java/lang/String") (index := 7) (text := "") (w18_ hw) (by decide) EW.nil))))
theorem ef0 (m : MethodId) (x0 : Int32) (x1 : Int32) (x2 : Int32) (x3 : Int32) (x4 : Int32) : entryFrame m #[.int x0, .int x1, .int x2, .int x3, .int x4] maxLocals = mkF m 0 #[.val (.int x0), .val (.int x1), .val (.int x2), .val (.int x3), .val (.int x4), .unset, .unset, .unset, .unset, .unset, .unset, .unset, .unset, .unset, .unset] [] := by first | (simp [entryFrame, mkF, argsToLocals, Value.category, maxLocals]; done) | rfl
theorem pn0 : plainName "com/example/echoes_to_canon/echoestocanon/UrlKeysRestPinLaw" = true := by first | (simp [plainName, overriddenIn]; done) | decide +kernel
theorem ef1 (m : MethodId) (x0 : Int32) (x1 : Int32) (x2 : Int32) (x3 : Int32) : entryFrame m #[.int x0, .int x1, .int x2, .int x3] 4 = mkF m 0 #[.val (.int x0), .val (.int x1), .val (.int x2), .val (.int x3)] [] := by first | (simp [entryFrame, mkF, argsToLocals, Value.category]; done) | rfl
theorem d0_0 : decode method_2_code 0 = .ok (.iload_n 0, 1) := by decide +kernel
theorem d0_1 : decode method_2_code 1 = .ok (.ifCond .ne 14, 3) := by decide +kernel
theorem d0_4 : decode method_2_code 4 = .ok (.new 7, 3) := by decide +kernel
theorem d0_7 : decode method_2_code 7 = .ok (.dup, 1) := by decide +kernel
theorem d0_8 : decode method_2_code 8 = .ok (.iconst 0, 1) := by decide +kernel
theorem d0_9 : decode method_2_code 9 = .ok (.newarray .char, 2) := by decide +kernel
theorem d0_11 : decode method_2_code 11 = .ok (.invokespecial 9, 3) := by decide +kernel
theorem ef2 (m : MethodId) (x0 : Addr) (x1 : Addr) : entryFrame m #[.ref x0, .ref x1] 2 = mkF m 0 #[.val (.ref x0), .val (.ref x1)] [] := by first | (simp [entryFrame, mkF, argsToLocals, Value.category]; done) | rfl
theorem pn1 : plainName "java/lang/String" = true := by first | (simp [plainName, overriddenIn]; done) | decide +kernel
theorem d1_0 : decode jdk_42_method_3_code 0 = .ok (.aload_n 0, 1) := by decide +kernel
theorem d1_1 : decode jdk_42_method_3_code 1 = .ok (.aload_n 1, 1) := by decide +kernel
theorem d1_2 : decode jdk_42_method_3_code 2 = .ok (.iconst 0, 1) := by decide +kernel
theorem d1_3 : decode jdk_42_method_3_code 3 = .ok (.aload_n 1, 1) := by decide +kernel
theorem d1_4 : decode jdk_42_method_3_code 4 = .ok (.arraylength, 1) := by decide +kernel
theorem d1_5 : decode jdk_42_method_3_code 5 = .ok (.aconst_null, 1) := by decide +kernel
theorem d1_6 : decode jdk_42_method_3_code 6 = .ok (.invokespecial 27, 3) := by decide +kernel
theorem ef3 (m : MethodId) (x0 : Addr) (x1 : Addr) (x2 : Int32) (x3 : Int32) : entryFrame m #[.ref x0, .ref x1, .int x2, .int x3, .null] 6 = mkF m 0 #[.val (.ref x0), .val (.ref x1), .val (.int x2), .val (.int x3), .val .null, .unset] [] := by first | (simp [entryFrame, mkF, argsToLocals, Value.category]; done) | rfl
theorem d2_0 : decode jdk_42_method_149_code 0 = .ok (.aload_n 0, 1) := by decide +kernel
theorem d2_1 : decode jdk_42_method_149_code 1 = .ok (.invokespecial 1, 3) := by decide +kernel
theorem d2_4 : decode jdk_42_method_149_code 4 = .ok (.iload_n 3, 1) := by decide +kernel
theorem d2_5 : decode jdk_42_method_149_code 5 = .ok (.ifCond .ne 22, 3) := by decide +kernel
theorem d2_8 : decode jdk_42_method_149_code 8 = .ok (.aload_n 0, 1) := by decide +kernel
theorem d2_9 : decode jdk_42_method_149_code 9 = .ok (.ldc 7, 2) := by decide +kernel
theorem d2_11 : decode jdk_42_method_149_code 11 = .ok (.getfield 9, 3) := by decide +kernel
theorem d2_14 : decode jdk_42_method_149_code 14 = .ok (.putfield 9, 3) := by decide +kernel
theorem d2_17 : decode jdk_42_method_149_code 17 = .ok (.aload_n 0, 1) := by decide +kernel
theorem d2_18 : decode jdk_42_method_149_code 18 = .ok (.ldc 7, 2) := by decide +kernel
theorem d2_20 : decode jdk_42_method_149_code 20 = .ok (.getfield 15, 3) := by decide +kernel
theorem d2_23 : decode jdk_42_method_149_code 23 = .ok (.putfield 15, 3) := by decide +kernel
theorem d2_26 : decode jdk_42_method_149_code 26 = .ok (.return_, 1) := by decide +kernel
-- java/lang/String.<init>([CIILjava/lang/Void;)V
def Q1 (Z : State) (qa1 : Addr) (h0 : Heap) (n0 : Nat) (v : Option Value) (h : Heap) (L : List Loc) : Prop := ∃ t2 : Addr, ∃ c2 : ClassId, v = none ∧ Fr n0 L ∧ Keep h0 h [qa1] ∧ Exa Z h qa1 "java/lang/String" ∧ Fld Z h qa1 "java/lang/String" "value" "[B" (.ref t2) ∧ Fld Z h qa1 "java/lang/String" "coder" "B" (.int 0) ∧ Arv Z h t2 c2 .byte (0 : Int32) [] (.int 0)
theorem rm1 (l : Launch) (Z : State) (a0 : Array Value) (hw : HW a0 Z) (qa1 : Addr) (qa2 : Addr) (h0 : Heap) (n0 : Nat) (X00 : Old Z n0 h0) (E_qa1 : Exa Z h0 qa1 "java/lang/String") (F_qa1_value : Fld Z h0 qa1 "java/lang/String" "value" "[B" .null) (g_qa1 : n0 ≤ qa1) (F_qa1_coder : Fld Z h0 qa1 "java/lang/String" "coder" "B" (.int 0)) :
    MW l Z consts_1 Y0_ jdk_42_method_149_code 6 none (Rm 1 4 8 12) #[.ref qa1, .ref qa2, .int 0, .int 0, .null] h0 (Q1 Z qa1 h0 n0) := by
 refine own_sW pn1 rfl (fun m => ef3 m qa1 qa2 (0 : Int32) (0 : Int32)) ?_
 intro p e s m below meth c s₁ Bd hZ hh hx hby hml hown hnm X0 e0 pre0 hC0 hS0 hk0 hR0
 have N0 := Fr.nil n0
 have hEL := own_EW hw
 have hwS := own_wS hw
 obtain ⟨T1, X1, e1, st1⟩ := initO X0 hx hZ hown (w15_ hw) (w16_ hw) (w17_ hw) e0 (g := (mkF m 1 #[rv qa1, rv qa2, iv 0, iv 0, .val .null, .unset] [.ref qa1])) rfl hml.symm rfl (hb hby d2_1) (by decide) (W := 0) (own_hw rfl) (lE rfl)
 obtain ⟨b2, T2, h2, k2, t2, c2, X2, e2, E2, hS2, hk2, hZ2, ho2, Ex2, Fc2, Fv2, Av2, lb2, lt2, CR2, -, sf2, st2⟩ := ldcCH (text := "") (EL := consts_1) X1 hx hZ hown (w18_ hw) hwS e1 hS0 hk0 hEL (by decide) hC0 (vs := []) (z := (0 : Int32)) ⟨by decide, by decide⟩ (by decide) (by decide) (g := (mkF m 9 #[rv qa1, rv qa2, iv 0, iv 0, .val .null, .unset] [.ref qa1])) rfl (hb hby d2_9) (n := 0) (by decide) (lE rfl) (lE rfl) (lE rfl)
 have K3 := (Keep.refl h0 [qa1]).ext E2
 have R5 := hR0.trans CR2
 replace X2 : Stand p l e (Rm 1 4 8 12) (s.setVm T2.vm) m #[.ref qa1, .ref qa2, .int 0, .int 0, .null] below meth c T2 _ 2 4 := X2
 obtain ⟨T6, X6, e6, st6⟩ := getF X2 hx hZ2 ho2 (host := "") (Or.inl (w24_ hw)) Via.refl e2 Fv2 (g := (mkF m 11 #[rv qa1, rv qa2, iv 0, iv 0, .val .null, .unset] [.ref b2, .ref qa1])) rfl rfl (hb hby d2_11)
 have F7_ := F_qa1_value.ext E2
 have E8_ := E_qa1.ext E2
 obtain ⟨T9, h9, X9, e9, W9, st9⟩ := putF X6 hx hZ2 ho2 (host := "") (Or.inl (w24_ hw)) Via.refl e6 F7_ E8_ (Or.inr ⟨(w20_ hw), rfl, hnm⟩) (w5_ hw) (ty := (.array .byte)) (by decide) rfl rfl (g := (mkF m 14 #[rv qa1, rv qa2, iv 0, iv 0, .val .null, .unset] [.ref t2, .ref qa1])) rfl rfl (hb hby d2_14)
 have N9 := Fr.snoc X9 N0 g_qa1
 have K10 := K3.wr W9 (Or.inl (mI 0 rfl))
 have f12 : Safe Z consts_1 T2.vm h2 qa1 := CR2.safe E_qa1.lt (own_safe_null hZ.alike E_qa1 F_qa1_value)
 have C11 : CHv Z consts_1 T2.vm h9 := CHv.wr W9 f12 CR2.1
 have R13 : CHr Z consts_1 s.vm h0 T2.vm h9 := R5.trans (CHr.wr W9 f12 CR2.1)
 have F14_ : Fld Z h9 qa1 "java/lang/String" "value" "[B" (.ref t2) := F7_.same W9
 have hk16' : _ ≤ h9.size := (Nat.le_trans hk2 (Nat.le_of_eq W9.size.symm))
 obtain ⟨b15, T15, h15, k15, t15, c15, X15, e15, E15, hS15, hk15, hZ15, ho15, Ex15, Fc15, Fv15, Av15, lb15, lt15, CR15, -, sf15, st15⟩ := ldcCH (text := "") (EL := consts_1) X9 hx hZ2 ho2 (w18_ hw) hwS e9 hS2 hk16' hEL (by decide) C11 (vs := []) (z := (0 : Int32)) ⟨by decide, by decide⟩ (by decide) (by decide) (g := (mkF m 18 #[rv qa1, rv qa2, iv 0, iv 0, .val .null, .unset] [.ref qa1])) rfl (hb hby d2_18) (n := 0) (by decide) (lE rfl) (lE rfl) (lE rfl)
 have K17 := K10.ext E15
 have R19 := R13.trans CR15
 replace X15 : Stand p l e (Rm 1 4 8 12) (s.setVm T15.vm) m #[.ref qa1, .ref qa2, .int 0, .int 0, .null] below meth c T15 _ 4 8 := X15
 obtain ⟨T20, X20, e20, st20⟩ := getF X15 hx hZ15 ho15 (host := "") (Or.inl (w25_ hw)) Via.refl e15 Fc15 (g := (mkF m 20 #[rv qa1, rv qa2, iv 0, iv 0, .val .null, .unset] [.ref b15, .ref qa1])) rfl rfl (hb hby d2_20)
 have F21_ := F_qa1_coder.ext E2
 have F22_ := F21_.other W9 (Or.inr (slot_ne (Or.inr (w21_ hw)) (Or.inr (w20_ hw)) (by decide) (t := .byte) (t' := (.array .byte)) (by decide) (by decide)))
 have F23_ := F22_.ext E15
 have E24_ := E8_.wr W9
 have E25_ := E24_.ext E15
 obtain ⟨T26, h26, X26, e26, W26, st26⟩ := putF X20 hx hZ15 ho15 (host := "") (Or.inl (w25_ hw)) Via.refl e20 F23_ E25_ (Or.inr ⟨(w21_ hw), rfl, hnm⟩) (w5_ hw) (ty := .byte) (by decide) rfl rfl (g := (mkF m 23 #[rv qa1, rv qa2, iv 0, iv 0, .val .null, .unset] [.int 0, .ref qa1])) rfl rfl (hb hby d2_23)
 have N26 := Fr.snoc X26 N9 g_qa1
 have K27 := K17.wr W26 (Or.inl (mI 0 rfl))
 have f29 : Safe Z consts_1 T2.vm h9 qa1 := Safe.wr W9 f12 CR2.1 f12
 have f30 : Safe Z consts_1 T15.vm h15 qa1 := CR15.safe (Nat.lt_of_lt_of_le E_qa1.lt (Nat.le_trans E2.1 (Nat.le_of_eq W9.size.symm))) f29
 have C28 : CHv Z consts_1 T15.vm h26 := CHv.wr W26 f30 CR15.1
 have R31 : CHr Z consts_1 s.vm h0 T15.vm h26 := R19.trans (CHr.wr W26 f30 CR15.1)
 have F32_ : Fld Z h26 qa1 "java/lang/String" "coder" "B" (.int 0) := F23_.same W26
 have E33_ := E25_.wr W26
 have F34_ := F14_.ext E15
 have F35_ := F34_.other W26 (Or.inr (slot_ne (Or.inr (w20_ hw)) (Or.inr (w21_ hw)) (by decide) (t := (.array .byte)) (t' := .byte) (by decide) (by decide)))
 have A36_ := Av2.other W9 (Ne.symm (sf2 qa1 f12).2)
 have A37_ := A36_.ext E15
 have A38_ := A37_.other W26 (Ne.symm (sf2 qa1 f12).2)
 have hk39' : _ ≤ h26.size := (Nat.le_trans hk15 (Nat.le_of_eq W26.size.symm))
 refine own_lvW X26 Bd.notSynchronized hS15 hk39' (v := none) (fun _ => rfl) e26 hh ⟨t2, c2, rfl, N26, K27, E33_, F35_, F32_, A38_⟩ (R31.trans (CHv.at X26 hZ15 hEL C28)) (lE rfl) (lE rfl) (fun fs hr => pre0 _ (by
  show Sx p e below s₁ m 0 #[rv qa1, rv qa2, iv 0, iv 0, .val .null, .unset] [] _
  refine zb X0 Bd d2_0 rfl rfl ?_
  refine st1 _ ?_
  refine zj X1 Bd d2_4 rfl ?_
  refine zo X1 Bd d2_5 (XT.i0_ne_f ((by decide) : (0 : Int32) = (0 : Int32))) ?_
  refine zb X1 Bd d2_8 rfl rfl ?_
  refine st2 _ ?_
  refine st6 _ ?_
  refine st9 _ ?_
  refine zb X9 Bd d2_17 rfl rfl ?_
  refine st15 _ ?_
  refine st20 _ ?_
  refine st26 _ ?_
  exact X26.returnOut hx Bd.returns (hb hby d2_26) hr))
theorem pd0 : parseMethodDescriptor "([CIILjava/lang/Void;)V" = some ⟨[(.array .char), .int, .int, (.object "java/lang/Void")], none⟩ := by decide +kernel
theorem d1_9 : decode jdk_42_method_3_code 9 = .ok (.return_, 1) := by decide +kernel
-- java/lang/String.<init>([C)V
def Q2 (Z : State) (qa1 : Addr) (h0 : Heap) (n0 : Nat) (v : Option Value) (h : Heap) (L : List Loc) : Prop := ∃ b3 : Addr, ∃ c4_ : ClassId, v = none ∧ Fr n0 L ∧ Keep h0 h [qa1] ∧ Exa Z h qa1 "java/lang/String" ∧ Fld Z h qa1 "java/lang/String" "value" "[B" (.ref b3) ∧ Fld Z h qa1 "java/lang/String" "coder" "B" (.int 0) ∧ Arv Z h b3 c4_ .byte (0 : Int32) [] (.int 0)
theorem rm2 (l : Launch) (Z : State) (a0 : Array Value) (hw : HW a0 Z) (qa1 : Addr) (qa2 : Addr) (qk3 : ClassId) (h0 : Heap) (n0 : Nat) (X00 : Old Z n0 h0) (A_qa2 : Arv Z h0 qa2 qk3 .char (0 : Int32) [] (.int 0)) (E_qa1 : Exa Z h0 qa1 "java/lang/String") (F_qa1_value : Fld Z h0 qa1 "java/lang/String" "value" "[B" .null) (g_qa1 : n0 ≤ qa1) (F_qa1_coder : Fld Z h0 qa1 "java/lang/String" "coder" "B" (.int 0)) :
    MW l Z consts_1 Y1_ jdk_42_method_3_code 2 none (Rm 2 4 8 29) #[.ref qa1, .ref qa2] h0 (Q2 Z qa1 h0 n0) := by
 refine own_sW pn1 rfl (fun m => ef2 m qa1 qa2) ?_
 intro p e s m below meth c s₁ Bd hZ hh hx hby hml hown hnm X0 e0 pre0 hC0 hS0 hk0 hR0
 have N0 := Fr.nil n0
 have hEL := own_EW hw
 have hwS := own_wS hw
 have av1 := A_qa2
 obtain ⟨cl1, Ar1, q1, S1, N1, H1, Gf1⟩ := av1
 obtain ⟨_, T2, L2, X2, hQ2, hS2, hZ2, ho2, CR2, st2⟩ := own_cbS 0 0 4 8 4 8 (X0.specialBackS hx (y := Y0_) rfl hown (mvT hZ (w11_ hw)) (mvT hZ (w12_ hw)) (mvT hZ (w14_ hw)) (by decide) (backOfSH (W := 0) (EL := consts_1) (s := s) (rm1 l Z a0 hw  qa1 qa2 h0 n0 X00 E_qa1 F_qa1_value g_qa1 F_qa1_coder) hZ (w14_ hw) (w6_ hw) (lE rfl) (lE rfl) hEL hC0) (g := (mkF m 6 #[rv qa1, rv qa2] [.null, .int 0, .int 0, .ref qa2, .ref qa1])) rfl hml.symm (Steps.refl _) (a := qa1) (argsL := [.ref qa2, .int 0, .int 0, .null]) (rest := []) (lenOf pd0 rfl) rfl (own_hw rfl) (hb hby d1_6) (fun _ _ => ⟨rfl, e0, (lE rfl : 0 + 4 ≤ _), (lE rfl : 0 + 8 ≤ _)⟩)) rfl rfl hS0 (by rw [e0]; exact hk0) hZ hown
 obtain ⟨b3, c4_, rfl, N2q, K2q, w5, w6, w7, w8⟩ := hQ2
 have N2 := Fr.app N0 N2q
 have hk2 : T2.heap.size ≤ T2.heap.size := Nat.le_refl _
 have K9 := (Keep.refl h0 [qa1]).trans K2q (allS (Or.inl (mI 0 rfl)) all0)
 have R11 := hR0.trans CR2
 have E12_ := E_qa1.keep K2q
 refine own_lvW X2 Bd.notSynchronized hS2 hk2 (v := none) (fun _ => rfl) rfl hh ⟨b3, c4_, rfl, N2, K9, E12_, w6, w7, w8⟩ (R11.trans (CHv.at X2 hZ2 hEL CR2.1)) (lE rfl) (lE rfl) (fun fs hr => pre0 _ (by
  show Sx p e below s₁ m 0 #[rv qa1, rv qa2] [] _
  refine zb X0 Bd d1_0 rfl rfl ?_
  refine zb X0 Bd d1_1 rfl rfl ?_
  refine zc X0 Bd d1_2 ?_
  refine zb X0 Bd d1_3 rfl rfl ?_
  refine X0.arraylength hx (by rw [e0]; exact Ar1.1) (State.isArrayOf_alike hZ.alike Ar1.2.1) (g := (mkF m 4 #[rv qa1, rv qa2] [.ref qa2, .int 0, .ref qa2, .ref qa1])) rfl rfl (hb hby d1_4) _ ?_
  rw [len_of S1 N1]
  refine XS.aconstNull X0.here hx rfl (hb hby d1_5) ?_
  refine st2.trans ?_
  exact X2.returnOut hx Bd.returns (hb hby d1_9) hr))
theorem pd1 : parseMethodDescriptor "([C)V" = some ⟨[(.array .char)], none⟩ := by decide +kernel
theorem d0_14 : decode method_2_code 14 = .ok (.areturn, 1) := by decide +kernel
-- com/example/echoes_to_canon/echoestocanon/UrlKeysRestPinLaw.nameOf(ICCC)Ljava/lang/String;
def Q3 (Z : State)  (h0 : Heap) (n0 : Nat) (v : Option Value) (h : Heap) (L : List Loc) : Prop := ∃ b2 : Addr, ∃ b20 : Addr, ∃ c21_ : ClassId, v = some (.ref b2) ∧ Fr n0 L ∧ Keep h0 h [] ∧ h0.size ≤ b2 ∧ Exa Z h b2 "java/lang/String" ∧ Fld Z h b2 "java/lang/String" "value" "[B" (.ref b20) ∧ Fld Z h b2 "java/lang/String" "coder" "B" (.int 0) ∧ Arv Z h b20 c21_ .byte (0 : Int32) [] (.int 0)
theorem rm3 (l : Launch) (Z : State) (a0 : Array Value) (hw : HW a0 Z) (qi1 : Int32) (qi2 : Int32) (qi3 : Int32) (qi4 : Int32) (h0 : Heap) (n0 : Nat) (X00 : Old Z n0 h0) (hc1 : qi1 = (0 : Int32)) :
    MW l Z consts_1 Y2_ method_2_code 4 (some (.object "java/lang/String")) (Rm 3 6 12 43) #[.int qi1, .int qi2, .int qi3, .int qi4] h0 (Q3 Z  h0 n0) := by
 refine own_sW pn0 rfl (fun m => ef1 m qi1 qi2 qi3 qi4) ?_
 intro p e s m below meth c s₁ Bd hZ hh hx hby hml hown hnm X0 e0 pre0 hC0 hS0 hk0 hR0
 have N0 := Fr.nil n0
 have hEL := own_EW hw
 have hwS := own_wS hw
 obtain ⟨T2, h2, X2, e2, E2, A2, D2, -, st2⟩ := newO X0 hx hZ hown (w4_ hw) (w5_ hw) (w6_ hw) e0 (g := (mkF m 4 #[iv qi1, iv qi2, iv qi3, iv qi4] [])) rfl (hb hby d0_4) (lE rfl) (lE rfl)
 obtain ⟨b2, g2⟩ : ∃ z, z = h0.size := ⟨_, rfl⟩
 rw [← g2] at A2 D2 st2
 replace X2 : Stand p l e (Rm 3 6 12 43) (s.setVm s.vm) m #[.int qi1, .int qi2, .int qi3, .int qi4] below meth c T2 _ 1 4 := X2
 have K3 := (Keep.refl h0 []).ext E2
 have C4 : CHv Z consts_1 s.vm h2 := CHv.ext E2 hC0
 have R5 : CHr Z consts_1 s.vm h0 s.vm h2 := hR0.trans (CHr.ext E2 hC0)
 have F6_ : Fld Z h2 b2 "java/lang/String" "value" "[B" .null := D2 (Or.inr (w20_ hw)) (ty := (.array .byte)) (by decide)
 have F7_ : Fld Z h2 b2 "java/lang/String" "coder" "B" (.int 0) := D2 (Or.inr (w21_ hw)) (ty := .byte) (by decide)
 obtain ⟨T8, h8, c8, X8, e8, E8, A8, st8⟩ := newP (aty := .char) X2 hx hZ (w7_ hw) e2 (g := (mkF m 9 #[iv qi1, iv qi2, iv qi3, iv qi4] [.int 0, .ref b2, .ref b2])) rfl (hb hby d0_9) rfl (by decide) (cap := 0) (by decide) (lE rfl) (lE rfl) (lE rfl)
 obtain ⟨b8, g8⟩ : ∃ z, z = h2.size := ⟨_, rfl⟩
 rw [← g8] at A8 st8
 replace X8 : Stand p l e (Rm 3 6 12 43) (s.setVm s.vm) m #[.int qi1, .int qi2, .int qi3, .int qi4] below meth c T8 _ 2 4 := X8
 have K9 := K3.ext E8
 have C10 : CHv Z consts_1 s.vm h8 := CHv.ext E8 C4
 have R11 : CHr Z consts_1 s.vm h0 s.vm h8 := R5.trans (CHr.ext E8 C4)
 have A12_ : Arv Z h8 b8 c8 .char (0 : Int32) [] (.int 0) := (Arv.new A8 (by decide)).pad (pad_rep [] (.int 0) 0)
 have E14_ := A2.ext E8
 have F15_ := F6_.ext E8
 have g_b2 : n0 ≤ b2 := Nat.le_trans (Nat.le_trans (Nat.le_of_eq X00.1.symm) X00.2.1) (Nat.le_of_eq g2.symm)
 have F16_ := F7_.ext E8
 have O17 := X00.ext E2
 have O18 := O17.ext E8
 have hk19' : _ ≤ h8.size := (Nat.le_trans (Nat.le_trans hk0 E2.1) E8.1)
 obtain ⟨_, T13, L13, X13, hQ13, hS13, hZ13, ho13, CR13, st13⟩ := own_cbS 2 4 4 8 6 12 (X8.specialBackS hx (y := Y1_) rfl hown (mvT hZ (w8_ hw)) (mvT hZ (w9_ hw)) (mvT hZ (w10_ hw)) (by decide) (backOfSH (W := 1) (EL := consts_1) (s := s) (rm2 l Z a0 hw  b2 b8 c8 h8 n0 O18 A12_ E14_ F15_ g_b2 F16_) hZ (w10_ hw) (w6_ hw) (lE rfl) (lE rfl) hEL C10) (g := (mkF m 11 #[iv qi1, iv qi2, iv qi3, iv qi4] [.ref b8, .ref b2, .ref b2])) rfl hml.symm (Steps.refl _) (a := b2) (argsL := [.ref b8]) (rest := [.ref b2]) (lenOf pd1 rfl) rfl (own_hw rfl) (hb hby d0_11) (fun _ _ => ⟨rfl, e8, (lE rfl : 2 + 4 ≤ _), (lE rfl : 4 + 8 ≤ _)⟩)) rfl rfl hS0 (by rw [e8]; exact hk19') hZ hown
 obtain ⟨b20, c21_, rfl, N13q, K13q, w22, w23, w24, w25⟩ := hQ13
 have N13 := Fr.app N0 N13q
 have hk13 : T13.heap.size ≤ T13.heap.size := Nat.le_refl _
 have sz_b2 : h0.size ≤ b2 := (Nat.le_of_eq g2.symm)
 have K26 := K9.trans K13q (allS (Or.inr sz_b2) all0)
 have R28 := R11.trans CR13
 have E29_ := E14_.keep K13q
 refine own_lvW X13 Bd.notSynchronized hS13 hk13 (v := (some (.ref b2))) (fun h => by rw [Bd.returns] at h; cases h) rfl hh ⟨b2, b20, c21_, rfl, N13, K26, sz_b2, E29_, w23, w24, w25⟩ (R28.trans (CHv.at X13 hZ13 hEL CR13.1)) (lE rfl) (lE rfl) (fun fs hr => pre0 _ (by
  show Sx p e below s₁ m 0 #[iv qi1, iv qi2, iv qi3, iv qi4] [] _
  refine zj X0 Bd d0_0 rfl ?_
  refine zo X0 Bd d0_1 (XT.i0_ne_f (hc1 : qi1 = (0 : Int32))) ?_
  refine st2 _ ?_
  refine XS.dup X2.here hx rfl (hb hby d0_7) rfl rfl ?_
  refine zc X2 Bd d0_8 ?_
  refine st8 _ ?_
  refine st13.trans ?_
  exact retOut X13 hx Bd.returns rfl (Or.inr (Or.inr (Or.inr (Or.inr ⟨rfl, rfl, rfl⟩)))) (hb hby d0_14) hr))
theorem pd2 : parseMethodDescriptor "(ICCC)Ljava/lang/String;" = some ⟨[.int, .char, .char, .char], some (.object "java/lang/String")⟩ := by decide +kernel
theorem d3_0 : decode method_3_code 0 = .ok (.iload_n 0, 1) := by decide +kernel
theorem d3_1 : decode method_3_code 1 = .ok (.ifCond .ne 29, 3) := by decide +kernel
theorem d3_4 : decode method_3_code 4 = .ok (.new 7, 3) := by decide +kernel
theorem d3_7 : decode method_3_code 7 = .ok (.dup, 1) := by decide +kernel
theorem d3_8 : decode method_3_code 8 = .ok (.iconst 3, 1) := by decide +kernel
theorem d3_9 : decode method_3_code 9 = .ok (.newarray .char, 2) := by decide +kernel
theorem d3_11 : decode method_3_code 11 = .ok (.dup, 1) := by decide +kernel
theorem d3_12 : decode method_3_code 12 = .ok (.iconst 0, 1) := by decide +kernel
theorem d3_13 : decode method_3_code 13 = .ok (.bipush 123, 2) := by decide +kernel
theorem d3_15 : decode method_3_code 15 = .ok (.castore, 1) := by decide +kernel
theorem d3_16 : decode method_3_code 16 = .ok (.dup, 1) := by decide +kernel
theorem d3_17 : decode method_3_code 17 = .ok (.iconst 1, 1) := by decide +kernel
theorem d3_18 : decode method_3_code 18 = .ok (.bipush 42, 2) := by decide +kernel
theorem d3_20 : decode method_3_code 20 = .ok (.castore, 1) := by decide +kernel
theorem d3_21 : decode method_3_code 21 = .ok (.dup, 1) := by decide +kernel
theorem d3_22 : decode method_3_code 22 = .ok (.iconst 2, 1) := by decide +kernel
theorem d3_23 : decode method_3_code 23 = .ok (.bipush 125, 2) := by decide +kernel
theorem d3_25 : decode method_3_code 25 = .ok (.castore, 1) := by decide +kernel
theorem d3_26 : decode method_3_code 26 = .ok (.invokespecial 9, 3) := by decide +kernel
theorem d3_29 : decode method_3_code 29 = .ok (.areturn, 1) := by decide +kernel
-- com/example/echoes_to_canon/echoestocanon/UrlKeysRestPinLaw.shownOf(ICCC)Ljava/lang/String;
def Q4 (Z : State)  (h0 : Heap) (n0 : Nat) (v : Option Value) (h : Heap) (L : List Loc) : Prop := ∃ b2 : Addr, ∃ b40 : Addr, ∃ c40_ : ClassId, v = some (.ref b2) ∧ Fr n0 L ∧ Keep h0 h [] ∧ h0.size ≤ b2 ∧ h0.size ≤ b40 ∧ b2 ≠ b40 ∧ Exa Z h b2 "java/lang/String" ∧ Fld Z h b2 "java/lang/String" "coder" "B" (.int 0) ∧ Fld Z h b2 "java/lang/String" "value" "[B" (.ref b40) ∧ Arv Z h b40 c40_ .byte (3 : Int32) ((([123, 42, 125] : List Int32).map (fun c => c.toInt8.toInt32)).map Value.int) (.int 0)
theorem rm4 (l : Launch) (Z : State) (a0 : Array Value) (hw : HW a0 Z) (G1 : Int32) (qi1 : Int32) (qi2 : Int32) (qi3 : Int32) (qi4 : Int32) (h0 : Heap) (n0 : Nat) (X00 : Old Z n0 h0) (O2 : Sta Z Z.heap "java/lang/String" "COMPACT_STRINGS" "Z" (.int G1)) (P5 : ¬ (G1 = (0 : Int32))) (hc1 : qi1 = (0 : Int32)) :
    MF l Z Y3_ method_3_code 4 (some (.object "java/lang/String")) (Rm 4 3 10 66) #[.int qi1, .int qi2, .int qi3, .int qi4] h0 (Q4 Z  h0 n0) := by
 refine own_sF pn0 rfl (fun m => ef1 m qi1 qi2 qi3 qi4) ?_
 intro p e s m below meth c s₁ Bd hZ hh hx hby hml hown hnm X0 e0 pre0
 have N0 := Fr.nil n0
 obtain ⟨T2, h2, X2, e2, E2, A2, D2, -, st2⟩ := newO X0 hx hZ hown (w4_ hw) (w5_ hw) (w6_ hw) e0 (g := (mkF m 4 #[iv qi1, iv qi2, iv qi3, iv qi4] [])) rfl (hb hby d3_4) (lE rfl) (lE rfl)
 obtain ⟨b2, g2⟩ : ∃ z, z = h0.size := ⟨_, rfl⟩
 rw [← g2] at A2 D2 st2
 replace X2 : Stand p l e (Rm 4 3 10 66) s m #[.int qi1, .int qi2, .int qi3, .int qi4] below meth c T2 _ 1 4 := X2
 have K3 := (Keep.refl h0 []).ext E2
 have F4_ : Fld Z h2 b2 "java/lang/String" "value" "[B" .null := D2 (Or.inr (w20_ hw)) (ty := (.array .byte)) (by decide)
 have F5_ : Fld Z h2 b2 "java/lang/String" "coder" "B" (.int 0) := D2 (Or.inr (w21_ hw)) (ty := .byte) (by decide)
 obtain ⟨T6, h6, c6, X6, e6, E6, A6, st6⟩ := newP (aty := .char) X2 hx hZ (w7_ hw) e2 (g := (mkF m 9 #[iv qi1, iv qi2, iv qi3, iv qi4] [.int 3, .ref b2, .ref b2])) rfl (hb hby d3_9) rfl (by decide) (cap := 3) (by decide) (lE rfl) (lE rfl) (lE rfl)
 obtain ⟨b6, g6⟩ : ∃ z, z = h2.size := ⟨_, rfl⟩
 rw [← g6] at A6 st6
 replace X6 : Stand p l e (Rm 4 3 10 66) s m #[.int qi1, .int qi2, .int qi3, .int qi4] below meth c T6 _ 2 7 := X6
 have K7 := K3.ext E6
 have A8_ : Arv Z h6 b6 c6 .char (3 : Int32) [.int 0, .int 0, .int 0] (.int 0) := (Arv.new A6 (by decide)).pad (pad_rep [] (.int 0) 3)
 have av9 := A8_
 obtain ⟨cl9, Ar9, q9, S9, N9, H9, Gf9⟩ := av9
 have hin10 : ¬ ((0 : Int32) < 0 ∨ cl9.slots.size ≤ ((0 : Int32) : Int32).toNatClampNeg) := inb_of S9 (by decide)
 obtain ⟨T10, h10, X10, e10, W10, st10⟩ := stC X6 hx hZ e6 Ar9 (j := (0 : Int32)) hin10 (g := (mkF m 15 #[iv qi1, iv qi2, iv qi3, iv qi4] [.int 123, .int 0, .ref b6, .ref b6, .ref b2, .ref b2])) rfl rfl (hb hby d3_15)
 have O11 := X00.ext E2
 have g_b6 : n0 ≤ b6 := Nat.le_trans (Nat.le_trans (Nat.le_of_eq O11.1.symm) O11.2.1) (Nat.le_of_eq g6.symm)
 have N10_ := Fr.snoc X10 N0 g_b6
 have sz_b6 : h0.size ≤ b6 := Nat.le_trans K3.1 (Nat.le_of_eq g6.symm)
 have K12 := K7.wr W10 (Or.inr sz_b6)
 have A13_ : Arv Z h10 b6 c6 .char (3 : Int32) [.int 123, .int 0, .int 0] (.int 0) := Arv.set Ar9 q9 S9 N9 H9 Gf9 (fits_nar_char _) W10 0 (by decide) (lE rfl)
 have av14 := A13_
 obtain ⟨cl14, Ar14, q14, S14, N14, H14, Gf14⟩ := av14
 have hin15 : ¬ ((1 : Int32) < 0 ∨ cl14.slots.size ≤ ((1 : Int32) : Int32).toNatClampNeg) := inb_of S14 (by decide)
 obtain ⟨T15, h15, X15, e15, W15, st15⟩ := stC X10 hx hZ e10 Ar14 (j := (1 : Int32)) hin15 (g := (mkF m 20 #[iv qi1, iv qi2, iv qi3, iv qi4] [.int 42, .int 1, .ref b6, .ref b6, .ref b2, .ref b2])) rfl rfl (hb hby d3_20)
 have N15_ := Fr.snoc X15 N10_ g_b6
 have K16 := K12.wr W15 (Or.inr sz_b6)
 have A17_ : Arv Z h15 b6 c6 .char (3 : Int32) [.int 123, .int 42, .int 0] (.int 0) := Arv.set Ar14 q14 S14 N14 H14 Gf14 (fits_nar_char _) W15 1 (by decide) (lE rfl)
 have av18 := A17_
 obtain ⟨cl18, Ar18, q18, S18, N18, H18, Gf18⟩ := av18
 have hin19 : ¬ ((2 : Int32) < 0 ∨ cl18.slots.size ≤ ((2 : Int32) : Int32).toNatClampNeg) := inb_of S18 (by decide)
 obtain ⟨T19, h19, X19, e19, W19, st19⟩ := stC X15 hx hZ e15 Ar18 (j := (2 : Int32)) hin19 (g := (mkF m 25 #[iv qi1, iv qi2, iv qi3, iv qi4] [.int 125, .int 2, .ref b6, .ref b6, .ref b2, .ref b2])) rfl rfl (hb hby d3_25)
 have N19_ := Fr.snoc X19 N15_ g_b6
 have K20 := K16.wr W19 (Or.inr sz_b6)
 have A21_ : Arv Z h19 b6 c6 .char (3 : Int32) [.int 123, .int 42, .int 125] (.int 0) := Arv.set Ar18 q18 S18 N18 H18 Gf18 (fits_nar_char _) W19 2 (by decide) (lE rfl)
 have hp23 : ∀ c ∈ ([123, 42, 125] : List Int32), ¬ c < 0 ∧ ¬ (255 : Int32) < c := (List.forall_mem_cons.mpr ⟨(by decide), (List.forall_mem_cons.mpr ⟨(by decide), (List.forall_mem_cons.mpr ⟨(by decide), (fun _ q => nomatch q)⟩)⟩)⟩)
 have g_b2 : n0 ≤ b2 := Nat.le_trans (Nat.le_trans (Nat.le_of_eq X00.1.symm) X00.2.1) (Nat.le_of_eq g2.symm)
 have O24 := O11.ext E6
 have O25 := O24.wr W10 g_b6
 have O26 := O25.wr W15 g_b6
 have O27 := O26.wr W19 g_b6
 have E28_ := A2.ext E6
 have E29_ := E28_.wr W10
 have E30_ := E29_.wr W15
 have E31_ := E30_.wr W19
 have F32_ := F4_.ext E6
 have F33_ := F32_.other W10 (Or.inl (Nat.ne_of_lt (Nat.lt_of_lt_of_le A2.lt (Nat.le_of_eq g6.symm))))
 have F34_ := F33_.other W15 (Or.inl (Nat.ne_of_lt (Nat.lt_of_lt_of_le A2.lt (Nat.le_of_eq g6.symm))))
 have F35_ := F34_.other W19 (Or.inl (Nat.ne_of_lt (Nat.lt_of_lt_of_le A2.lt (Nat.le_of_eq g6.symm))))
 have F36_ := F5_.ext E6
 have F37_ := F36_.other W10 (Or.inl (Nat.ne_of_lt (Nat.lt_of_lt_of_le A2.lt (Nat.le_of_eq g6.symm))))
 have F38_ := F37_.other W15 (Or.inl (Nat.ne_of_lt (Nat.lt_of_lt_of_le A2.lt (Nat.le_of_eq g6.symm))))
 have F39_ := F38_.other W19 (Or.inl (Nat.ne_of_lt (Nat.lt_of_lt_of_le A2.lt (Nat.le_of_eq g6.symm))))
 obtain ⟨_, T22, L22, X22, hQ22, st22⟩ := own_cb 2 7 1 3 3 10 (X19.specialBack hx (y := Y1_) rfl hown (mvT hZ (w8_ hw)) (mvT hZ (w9_ hw)) (mvT hZ (w10_ hw)) (by decide) (StrChars.Road.backV (W := 1) hZ (own_ws hw) (kI := 4) (w5_ hw) (cs := ([123, 42, 125] : List Int32)) (bs := ([123, 42, 125] : List Int32).map (fun c => c.toInt8.toInt32)) (n := 3) g_b2 (Nat.le_trans (Nat.le_of_eq O27.1.symm) O27.2.1) E31_ F35_ F39_ A21_ (O2.ext O27.2) P5 rfl rfl (lE rfl) (lE rfl) hp23 rfl (lE rfl) (lE rfl)) (g := (mkF m 26 #[iv qi1, iv qi2, iv qi3, iv qi4] [.ref b6, .ref b2, .ref b2])) rfl hml.symm (Steps.refl _) (a := b2) (argsL := [.ref b6]) (rest := [.ref b2]) (lenOf pd1 rfl) rfl (own_hw rfl) (hb hby d3_26) (fun _ _ => ⟨rfl, e19, (lE rfl : 2 + 1 ≤ _), (lE rfl : 7 + 3 ≤ _)⟩)) rfl rfl
 obtain ⟨rfl, N22q, K22q, E22q, C22q, b40, c40_, u40, g40, ne40, V40_, A40_⟩ := hQ22
 have N22 := Fr.app N19_ N22q
 have sz_b2 : h0.size ≤ b2 := (Nat.le_of_eq g2.symm)
 have K41 := K20.trans K22q (allS (Or.inr sz_b2) all0)
 have sz_b40 : h0.size ≤ b40 := Nat.le_trans K20.1 g40
 have E42_ := E31_.keep K22q
 refine own_lvF X22 Bd (.ref b2) rfl ⟨b2, b40, c40_, rfl, N22, K41, sz_b2, sz_b40, (Ne.symm ne40), E42_, C22q, V40_, A40_⟩ rfl (fun fs hr => pre0 _ (by
  show Sx p e below s₁ m 0 #[iv qi1, iv qi2, iv qi3, iv qi4] [] _
  refine zj X0 Bd d3_0 rfl ?_
  refine zo X0 Bd d3_1 (XT.i0_ne_f (hc1 : qi1 = (0 : Int32))) ?_
  refine st2 _ ?_
  refine XS.dup X2.here hx rfl (hb hby d3_7) rfl rfl ?_
  refine zc X2 Bd d3_8 ?_
  refine st6 _ ?_
  refine XS.dup X6.here hx rfl (hb hby d3_11) rfl rfl ?_
  refine zc X6 Bd d3_12 ?_
  refine zd X6 Bd d3_13 ?_
  refine st10 _ ?_
  refine XS.dup X10.here hx rfl (hb hby d3_16) rfl rfl ?_
  refine zc X10 Bd d3_17 ?_
  refine zd X10 Bd d3_18 ?_
  refine st15 _ ?_
  refine XS.dup X15.here hx rfl (hb hby d3_21) rfl rfl ?_
  refine zc X15 Bd d3_22 ?_
  refine zd X15 Bd d3_23 ?_
  refine st19 _ ?_
  refine st22.trans ?_
  exact retOut X22 hx Bd.returns rfl (Or.inr (Or.inr (Or.inr (Or.inr ⟨rfl, rfl, rfl⟩)))) (hb hby d3_29) hr))
theorem ef4 (m : MethodId) (x0 : Int32) : entryFrame m #[.int x0] 1 = mkF m 0 #[.val (.int x0)] [] := by first | (simp [entryFrame, mkF, argsToLocals, Value.category]; done) | rfl
theorem d4_0 : decode jdk_42_method_139_code 0 = .ok (.getstatic 38, 3) := by decide +kernel
theorem d4_3 : decode jdk_42_method_139_code 3 = .ok (.ifCond .eq 23, 3) := by decide +kernel
theorem d4_6 : decode jdk_42_method_139_code 6 = .ok (.iload_n 0, 1) := by decide +kernel
theorem d4_7 : decode jdk_42_method_139_code 7 = .ok (.invokestatic 1015, 3) := by decide +kernel
theorem pn2 : plainName "java/lang/StringLatin1" = true := by first | (simp [plainName, overriddenIn]; done) | decide +kernel
theorem d5_0 : decode jdk_43_method_3_code 0 = .ok (.iload_n 0, 1) := by decide +kernel
theorem d5_1 : decode jdk_43_method_3_code 1 = .ok (.sipush 255, 3) := by decide +kernel
theorem d5_4 : decode jdk_43_method_3_code 4 = .ok (.if_icmp .gt 7, 3) := by decide +kernel
theorem d5_7 : decode jdk_43_method_3_code 7 = .ok (.iconst 1, 1) := by decide +kernel
theorem d5_8 : decode jdk_43_method_3_code 8 = .ok (.goto 4, 3) := by decide +kernel
theorem d5_12 : decode jdk_43_method_3_code 12 = .ok (.ireturn, 1) := by decide +kernel
-- java/lang/StringLatin1.canEncode(C)Z
def Q5 (Z : State)  (h0 : Heap) (n0 : Nat) (v : Option Value) (h : Heap) (L : List Loc) : Prop := v = some (.int 1) ∧ Fr n0 L ∧ h = h0
theorem rm5 (l : Launch) (Z : State) (a0 : Array Value) (hw : HW a0 Z) (qi1 : Int32) (h0 : Heap) (n0 : Nat) (X00 : Old Z n0 h0) (hc1 : ¬ ((255 : Int32) < qi1)) :
    MF l Z Y4_ jdk_43_method_3_code 1 (some .boolean) (Rm 0 0 0 0) #[.int qi1] h0 (Q5 Z  h0 n0) := by
 refine own_sF pn2 rfl (fun m => ef4 m qi1) ?_
 intro p e s m below meth c s₁ Bd hZ hh hx hby hml hown hnm X0 e0 pre0
 have N0 := Fr.nil n0
 refine own_lvF X0 Bd (.int 1) e0 ⟨rfl, N0, rfl⟩ rfl (fun fs hr => pre0 _ (by
  show Sx p e below s₁ m 0 #[iv qi1] [] _
  refine zj X0 Bd d5_0 rfl ?_
  refine XS.sipush X0.here hx rfl (hb hby d5_1) ?_
  refine zn X0 Bd d5_4 (XT.ii_gt_f (hc1 : ¬ ((255 : Int32) < qi1))) ?_
  refine zc X0 Bd d5_7 ?_
  refine zg (pc' := 12) X0 Bd d5_8 rfl ?_
  exact retN X0 hx (t := .boolean) Bd.returns (by simp) (hb hby d5_12) hr))
theorem pd3 : parseMethodDescriptor "(C)Z" = some ⟨[.char], some .boolean⟩ := by decide +kernel
theorem d4_10 : decode jdk_42_method_139_code 10 = .ok (.ifCond .eq 16, 3) := by decide +kernel
theorem d4_13 : decode jdk_42_method_139_code 13 = .ok (.new 10, 3) := by decide +kernel
theorem d4_16 : decode jdk_42_method_139_code 16 = .ok (.dup, 1) := by decide +kernel
theorem d4_17 : decode jdk_42_method_139_code 17 = .ok (.iload_n 0, 1) := by decide +kernel
theorem d4_18 : decode jdk_42_method_139_code 18 = .ok (.invokestatic 1018, 3) := by decide +kernel
theorem d6_0 : decode jdk_43_method_46_code 0 = .ok (.iconst 1, 1) := by decide +kernel
theorem d6_1 : decode jdk_43_method_46_code 1 = .ok (.newarray .byte, 2) := by decide +kernel
theorem d6_3 : decode jdk_43_method_46_code 3 = .ok (.dup, 1) := by decide +kernel
theorem d6_4 : decode jdk_43_method_46_code 4 = .ok (.iconst 0, 1) := by decide +kernel
theorem d6_5 : decode jdk_43_method_46_code 5 = .ok (.iload_n 0, 1) := by decide +kernel
theorem d6_6 : decode jdk_43_method_46_code 6 = .ok (.i2b, 1) := by decide +kernel
theorem d6_7 : decode jdk_43_method_46_code 7 = .ok (.bastore, 1) := by decide +kernel
theorem d6_8 : decode jdk_43_method_46_code 8 = .ok (.areturn, 1) := by decide +kernel
-- java/lang/StringLatin1.toBytes(C)[B
def Q6 (Z : State) (qi1 : Int32) (h0 : Heap) (n0 : Nat) (v : Option Value) (h : Heap) (L : List Loc) : Prop := ∃ b1 : Addr, ∃ c1 : ClassId, v = some (.ref b1) ∧ Fr n0 L ∧ Keep h0 h [] ∧ h0.size ≤ b1 ∧ Arv Z h b1 c1 .byte (1 : Int32) [(.int ((qi1).toInt8.toInt32))] (.int 0)
theorem rm6 (l : Launch) (Z : State) (a0 : Array Value) (hw : HW a0 Z) (qi1 : Int32) (h0 : Heap) (n0 : Nat) (X00 : Old Z n0 h0)  :
    MF l Z Y5_ jdk_43_method_46_code 1 (some (.array .byte)) (Rm 0 1 1 0) #[.int qi1] h0 (Q6 Z qi1 h0 n0) := by
 refine own_sF pn2 rfl (fun m => ef4 m qi1) ?_
 intro p e s m below meth c s₁ Bd hZ hh hx hby hml hown hnm X0 e0 pre0
 have N0 := Fr.nil n0
 obtain ⟨T1, h1, c1, X1, e1, E1, A1, st1⟩ := newP (aty := .byte) X0 hx hZ (w19_ hw) e0 (g := (mkF m 1 #[iv qi1] [.int 1])) rfl (hb hby d6_1) rfl (by decide) (cap := 1) (by decide) (lE rfl) (lE rfl) (lE rfl)
 obtain ⟨b1, g1⟩ : ∃ z, z = h0.size := ⟨_, rfl⟩
 rw [← g1] at A1 st1
 replace X1 : Stand p l e (Rm 0 1 1 0) s m #[.int qi1] below meth c T1 _ 1 1 := X1
 have K2 := (Keep.refl h0 []).ext E1
 have A3_ : Arv Z h1 b1 c1 .byte (1 : Int32) [.int 0] (.int 0) := (Arv.new A1 (by decide)).pad (pad_rep [] (.int 0) 1)
 have av4 := A3_
 obtain ⟨cl4, Ar4, q4, S4, N4, H4, Gf4⟩ := av4
 have hin5 : ¬ ((0 : Int32) < 0 ∨ cl4.slots.size ≤ ((0 : Int32) : Int32).toNatClampNeg) := inb_of S4 (by decide)
 obtain ⟨T5, h5, X5, e5, W5, st5⟩ := stB X1 hx hZ e1 Ar4 (j := (0 : Int32)) hin5 (g := (mkF m 7 #[iv qi1] [(.int ((qi1).toInt8.toInt32)), .int 0, .ref b1, .ref b1])) rfl rfl (hb hby d6_7)
 have g_b1 : n0 ≤ b1 := Nat.le_trans (Nat.le_trans (Nat.le_of_eq X00.1.symm) X00.2.1) (Nat.le_of_eq g1.symm)
 have N5_ := Fr.snoc X5 N0 g_b1
 have sz_b1 : h0.size ≤ b1 := (Nat.le_of_eq g1.symm)
 have K6 := K2.wr W5 (Or.inr sz_b1)
 have A7_ : Arv Z h5 b1 c1 .byte (1 : Int32) [(.int ((qi1).toInt8.toInt32))] (.int 0) := by have q := Arv.set (v := .int (nar .byte ((qi1).toInt8.toInt32))) Ar4 q4 S4 N4 H4 Gf4 (fits_nar_byte _) W5 0 (by decide) (lE rfl); rw [((own_nar_i2b _) : nar .byte ((qi1).toInt8.toInt32) = ((qi1).toInt8.toInt32))] at q; exact q
 refine own_lvF X5 Bd (.ref b1) e5 ⟨b1, c1, rfl, N5_, K6, sz_b1, A7_⟩ rfl (fun fs hr => pre0 _ (by
  show Sx p e below s₁ m 0 #[iv qi1] [] _
  refine zc X0 Bd d6_0 ?_
  refine st1 _ ?_
  refine XS.dup X1.here hx rfl (hb hby d6_3) rfl rfl ?_
  refine zc X1 Bd d6_4 ?_
  refine zj X1 Bd d6_5 rfl ?_
  refine XS.i2b X1.here hx rfl (hb hby d6_6) rfl ?_
  refine st5 _ ?_
  exact retOut X5 hx Bd.returns rfl (Or.inr (Or.inr (Or.inr (Or.inr ⟨rfl, rfl, rfl⟩)))) (hb hby d6_8) hr))
theorem pd4 : parseMethodDescriptor "(C)[B" = some ⟨[.char], some (.array .byte)⟩ := by decide +kernel
theorem d4_21 : decode jdk_42_method_139_code 21 = .ok (.iconst 0, 1) := by decide +kernel
theorem d4_22 : decode jdk_42_method_139_code 22 = .ok (.invokespecial 209, 3) := by decide +kernel
theorem ef5 (m : MethodId) (x0 : Addr) (x1 : Addr) (x2 : Int32) : entryFrame m #[.ref x0, .ref x1, .int x2] 3 = mkF m 0 #[.val (.ref x0), .val (.ref x1), .val (.int x2)] [] := by first | (simp [entryFrame, mkF, argsToLocals, Value.category]; done) | rfl
theorem d7_0 : decode jdk_42_method_151_code 0 = .ok (.aload_n 0, 1) := by decide +kernel
theorem d7_1 : decode jdk_42_method_151_code 1 = .ok (.invokespecial 1, 3) := by decide +kernel
theorem d7_4 : decode jdk_42_method_151_code 4 = .ok (.aload_n 0, 1) := by decide +kernel
theorem d7_5 : decode jdk_42_method_151_code 5 = .ok (.aload_n 1, 1) := by decide +kernel
theorem d7_6 : decode jdk_42_method_151_code 6 = .ok (.putfield 9, 3) := by decide +kernel
theorem d7_9 : decode jdk_42_method_151_code 9 = .ok (.aload_n 0, 1) := by decide +kernel
theorem d7_10 : decode jdk_42_method_151_code 10 = .ok (.iload_n 2, 1) := by decide +kernel
theorem d7_11 : decode jdk_42_method_151_code 11 = .ok (.putfield 15, 3) := by decide +kernel
theorem d7_14 : decode jdk_42_method_151_code 14 = .ok (.return_, 1) := by decide +kernel
-- java/lang/String.<init>([BB)V
def Q7 (Z : State) (qa1 : Addr) (qa2 : Addr) (h0 : Heap) (n0 : Nat) (v : Option Value) (h : Heap) (L : List Loc) : Prop := v = none ∧ Fr n0 L ∧ Keep h0 h [qa1] ∧ Exa Z h qa1 "java/lang/String" ∧ Fld Z h qa1 "java/lang/String" "value" "[B" (.ref qa2) ∧ Fld Z h qa1 "java/lang/String" "coder" "B" (.int 0)
theorem rm7 (l : Launch) (Z : State) (a0 : Array Value) (hw : HW a0 Z) (qa1 : Addr) (qa2 : Addr) (h0 : Heap) (n0 : Nat) (X00 : Old Z n0 h0) (E_qa1 : Exa Z h0 qa1 "java/lang/String") (F_qa1_value : Fld Z h0 qa1 "java/lang/String" "value" "[B" .null) (g_qa1 : n0 ≤ qa1) (F_qa1_coder : Fld Z h0 qa1 "java/lang/String" "coder" "B" (.int 0)) :
    MF l Z Y6_ jdk_42_method_151_code 3 none (Rm 1 0 0 12) #[.ref qa1, .ref qa2, .int 0] h0 (Q7 Z qa1 qa2 h0 n0) := by
 refine own_sF pn1 rfl (fun m => ef5 m qa1 qa2 (0 : Int32)) ?_
 intro p e s m below meth c s₁ Bd hZ hh hx hby hml hown hnm X0 e0 pre0
 have N0 := Fr.nil n0
 obtain ⟨T1, X1, e1, st1⟩ := initO X0 hx hZ hown (w15_ hw) (w16_ hw) (w17_ hw) e0 (g := (mkF m 1 #[rv qa1, rv qa2, iv 0] [.ref qa1])) rfl hml.symm rfl (hb hby d7_1) (by decide) (W := 0) (own_hw rfl) (lE rfl)
 obtain ⟨T2, h2, X2, e2, W2, st2⟩ := putF X1 hx hZ hown (host := "") (Or.inl (w24_ hw)) Via.refl e1 F_qa1_value E_qa1 (Or.inr ⟨(w20_ hw), rfl, hnm⟩) (w5_ hw) (ty := (.array .byte)) (by decide) rfl rfl (g := (mkF m 6 #[rv qa1, rv qa2, iv 0] [.ref qa2, .ref qa1])) rfl rfl (hb hby d7_6)
 have N2 := Fr.snoc X2 N0 g_qa1
 have K3 := (Keep.refl h0 [qa1]).wr W2 (Or.inl (mI 0 rfl))
 have F4_ : Fld Z h2 qa1 "java/lang/String" "value" "[B" (.ref qa2) := F_qa1_value.same W2
 have F5_ := F_qa1_coder.other W2 (Or.inr (slot_ne (Or.inr (w21_ hw)) (Or.inr (w20_ hw)) (by decide) (t := .byte) (t' := (.array .byte)) (by decide) (by decide)))
 have E6_ := E_qa1.wr W2
 obtain ⟨T7, h7, X7, e7, W7, st7⟩ := putF X2 hx hZ hown (host := "") (Or.inl (w25_ hw)) Via.refl e2 F5_ E6_ (Or.inr ⟨(w21_ hw), rfl, hnm⟩) (w5_ hw) (ty := .byte) (by decide) rfl rfl (g := (mkF m 11 #[rv qa1, rv qa2, iv 0] [.int 0, .ref qa1])) rfl rfl (hb hby d7_11)
 have N7 := Fr.snoc X7 N2 g_qa1
 have K8 := K3.wr W7 (Or.inl (mI 0 rfl))
 have F9_ : Fld Z h7 qa1 "java/lang/String" "coder" "B" (.int 0) := F5_.same W7
 have E10_ := E6_.wr W7
 have F11_ := F4_.other W7 (Or.inr (slot_ne (Or.inr (w20_ hw)) (Or.inr (w21_ hw)) (by decide) (t := (.array .byte)) (t' := .byte) (by decide) (by decide)))
 refine own_lvN X7 Bd e7 ⟨rfl, N7, K8, E10_, F11_, F9_⟩ rfl (fun fs hr => pre0 _ (by
  show Sx p e below s₁ m 0 #[rv qa1, rv qa2, iv 0] [] _
  refine zb X0 Bd d7_0 rfl rfl ?_
  refine st1 _ ?_
  refine zb X1 Bd d7_4 rfl rfl ?_
  refine zb X1 Bd d7_5 rfl rfl ?_
  refine st2 _ ?_
  refine zb X2 Bd d7_9 rfl rfl ?_
  refine zj X2 Bd d7_10 rfl ?_
  refine st7 _ ?_
  exact X7.returnOut hx Bd.returns (hb hby d7_14) hr))
theorem pd5 : parseMethodDescriptor "([BB)V" = some ⟨[(.array .byte), .byte], none⟩ := by decide +kernel
theorem d4_25 : decode jdk_42_method_139_code 25 = .ok (.areturn, 1) := by decide +kernel
-- java/lang/String.valueOf(C)Ljava/lang/String;
def Q8 (Z : State) (qi1 : Int32) (h0 : Heap) (n0 : Nat) (v : Option Value) (h : Heap) (L : List Loc) : Prop := ∃ b4 : Addr, ∃ b10 : Addr, ∃ c11_ : ClassId, v = some (.ref b4) ∧ Fr n0 L ∧ Keep h0 h [] ∧ h0.size ≤ b4 ∧ h0.size ≤ b10 ∧ b4 ≠ b10 ∧ Exa Z h b4 "java/lang/String" ∧ Fld Z h b4 "java/lang/String" "value" "[B" (.ref b10) ∧ Fld Z h b4 "java/lang/String" "coder" "B" (.int 0) ∧ Arv Z h b10 c11_ .byte (1 : Int32) [(.int ((qi1).toInt8.toInt32))] (.int 0)
theorem rm8 (l : Launch) (Z : State) (a0 : Array Value) (hw : HW a0 Z) (G1 : Int32) (qi1 : Int32) (h0 : Heap) (n0 : Nat) (X00 : Old Z n0 h0) (O2 : Sta Z Z.heap "java/lang/String" "COMPACT_STRINGS" "Z" (.int G1)) (P5 : ¬ (G1 = (0 : Int32))) (hc3 : ¬ ((255 : Int32) < qi1)) :
    MF l Z Y7_ jdk_42_method_139_code 1 (some (.object "java/lang/String")) (Rm 2 2 5 27) #[.int qi1] h0 (Q8 Z qi1 h0 n0) := by
 refine own_sF pn1 rfl (fun m => ef4 m qi1) ?_
 intro p e s m below meth c s₁ Bd hZ hh hx hby hml hown hnm X0 e0 pre0
 have N0 := Fr.nil n0
 obtain ⟨T1, X1, e1, st1⟩ := getS2 X0 hx hZ hown (host := "") (Or.inl (w29_ hw)) Via.refl e0 (O2.ext X00.2) (g := (mkF m 0 #[iv qi1] [])) rfl (hb hby d4_0)
 obtain ⟨_, T2, L2, X2, hQ2, st2⟩ := own_cS 0 0 [] 7 #[iv qi1] X1 hx hZ hown (w43_ hw) (w44_ hw) (w45_ hw) (w46_ hw) (rm5 l Z a0 hw  qi1 h0 n0 X00 hc3) pd3 hml.symm (hb hby d4_7) e1 rfl rfl rfl rfl (by decide)
 obtain ⟨rfl, N2q, e2q⟩ := hQ2
 have N2 := Fr.app N0 N2q
 obtain ⟨T4, h4, X4, e4, E4, A4, D4, -, st4⟩ := newO X2 hx hZ hown (w47_ hw) (w5_ hw) (w6_ hw) e2q (g := (mkF m 13 #[iv qi1] [])) rfl (hb hby d4_13) (lE rfl) (lE rfl)
 obtain ⟨b4, g4⟩ : ∃ z, z = h0.size := ⟨_, rfl⟩
 rw [← g4] at A4 D4 st4
 replace X4 : Stand p l e (Rm 2 2 5 27) s m #[.int qi1] below meth c T4 _ 1 4 := X4
 have K5 := (Keep.refl h0 []).ext E4
 have F6_ : Fld Z h4 b4 "java/lang/String" "value" "[B" .null := D4 (Or.inr (w20_ hw)) (ty := (.array .byte)) (by decide)
 have F7_ : Fld Z h4 b4 "java/lang/String" "coder" "B" (.int 0) := D4 (Or.inr (w21_ hw)) (ty := .byte) (by decide)
 have O9 := X00.ext E4
 obtain ⟨_, T8, L8, X8, hQ8, st8⟩ := own_cS 2 5 [.ref b4, .ref b4] 18 #[iv qi1] X4 hx hZ hown (w48_ hw) (w49_ hw) (w45_ hw) (w50_ hw) (rm6 l Z a0 hw  qi1 h4 n0 O9 ) pd4 hml.symm (hb hby d4_18) e4 rfl rfl rfl rfl (by decide)
 obtain ⟨b10, c11_, rfl, N8q, K8q, w12, w13⟩ := hQ8
 have N8 := Fr.app N2 N8q
 have K14 := K5.trans K8q (fun x q => nomatch q)
 have E16_ := A4.keep K8q
 have F17_ := F6_.keep K8q nin0
 have g_b4 : n0 ≤ b4 := Nat.le_trans (Nat.le_trans (Nat.le_of_eq X00.1.symm) X00.2.1) (Nat.le_of_eq g4.symm)
 have F18_ := F7_.keep K8q nin0
 have O19 := O9.keep K8q all0
 obtain ⟨_, T15, L15, X15, hQ15, st15⟩ := own_cI 2 5 [.ref b4] 22 #[iv qi1] X8 hx hZ hown (w51_ hw) (w52_ hw) (w6_ hw) (w53_ hw) (rm7 l Z a0 hw  b4 b10 T8.heap n0 O19 E16_ F17_ g_b4 F18_) pd5 hml.symm (hb hby d4_22) rfl rfl rfl rfl rfl rfl (by decide)
 obtain ⟨rfl, N15q, K15q, w20, w21, w22⟩ := hQ15
 have N15 := Fr.app N8 N15q
 have sz_b4 : h0.size ≤ b4 := (Nat.le_of_eq g4.symm)
 have K23 := K14.trans K15q (allS (Or.inr sz_b4) all0)
 have sz_b10 : h0.size ≤ b10 := Nat.le_trans K5.1 w12
 have E24_ := E16_.keep K15q
 have A25_ := w13.keep K15q (ninS (Ne.symm (Nat.ne_of_lt (Nat.lt_of_lt_of_le A4.lt w12))) nin0)
 refine own_lvF X15 Bd (.ref b4) rfl ⟨b4, b10, c11_, rfl, N15, K23, sz_b4, sz_b10, (Nat.ne_of_lt (Nat.lt_of_lt_of_le A4.lt w12)), E24_, w21, w22, A25_⟩ rfl (fun fs hr => pre0 _ (by
  show Sx p e below s₁ m 0 #[iv qi1] [] _
  refine st1 _ ?_
  refine zo X1 Bd d4_3 (XT.i0_eq_f (P5 : ¬ (G1 = (0 : Int32)))) ?_
  refine zj X1 Bd d4_6 rfl ?_
  refine st2 _ ?_
  refine zo X2 Bd d4_10 (XT.i0_eq_f ((by decide) : ¬ ((1 : Int32) = (0 : Int32)))) ?_
  refine st4 _ ?_
  refine XS.dup X4.here hx rfl (hb hby d4_16) rfl rfl ?_
  refine zj X4 Bd d4_17 rfl ?_
  refine st8 _ ?_
  refine zc X8 Bd d4_21 ?_
  refine st15 _ ?_
  exact retOut X15 hx Bd.returns rfl (Or.inr (Or.inr (Or.inr (Or.inr ⟨rfl, rfl, rfl⟩)))) (hb hby d4_25) hr))
theorem pd6 : parseMethodDescriptor "(C)Ljava/lang/String;" = some ⟨[.char], some (.object "java/lang/String")⟩ := by decide +kernel
theorem ef6 (m : MethodId) (x0 : Addr) : entryFrame m #[.ref x0] 7 = mkF m 0 #[.val (.ref x0), .unset, .unset, .unset, .unset, .unset, .unset] [] := by first | (simp [entryFrame, mkF, argsToLocals, Value.category]; done) | rfl
theorem pn3 : plainName "com/example/echoes_to_canon/echoestocanon/HttpUrl$CharClass" = true := by first | (simp [plainName, overriddenIn]; done) | decide +kernel
theorem d8_0 : decode prog_3_method_2_code 0 = .ok (.lconst 0, 1) := by decide +kernel
theorem d8_1 : decode prog_3_method_2_code 1 = .ok (.lstore_n 1, 1) := by decide +kernel
theorem d8_2 : decode prog_3_method_2_code 2 = .ok (.lconst 0, 1) := by decide +kernel
theorem d8_3 : decode prog_3_method_2_code 3 = .ok (.lstore_n 3, 1) := by decide +kernel
theorem d8_4 : decode prog_3_method_2_code 4 = .ok (.iconst 0, 1) := by decide +kernel
theorem d8_5 : decode prog_3_method_2_code 5 = .ok (.istore 5, 2) := by decide +kernel
theorem d8_7 : decode prog_3_method_2_code 7 = .ok (.iload 5, 2) := by decide +kernel
theorem d8_9 : decode prog_3_method_2_code 9 = .ok (.aload_n 0, 1) := by decide +kernel
theorem d8_10 : decode prog_3_method_2_code 10 = .ok (.invokevirtual 16, 3) := by decide +kernel
theorem pd7 : parseMethodDescriptor "()I" = some ⟨[], some .int⟩ := by decide +kernel
theorem d8_13 : decode prog_3_method_2_code 13 = .ok (.if_icmp .ge 44, 3) := by decide +kernel
theorem d8_16 : decode prog_3_method_2_code 16 = .ok (.aload_n 0, 1) := by decide +kernel
theorem d8_17 : decode prog_3_method_2_code 17 = .ok (.iload 5, 2) := by decide +kernel
theorem d8_19 : decode prog_3_method_2_code 19 = .ok (.invokevirtual 22, 3) := by decide +kernel
theorem pd8 : parseMethodDescriptor "(I)C" = some ⟨[.int], some .char⟩ := by decide +kernel
theorem d8_22 : decode prog_3_method_2_code 22 = .ok (.istore 6, 2) := by decide +kernel
theorem d8_24 : decode prog_3_method_2_code 24 = .ok (.iload 6, 2) := by decide +kernel
theorem d8_26 : decode prog_3_method_2_code 26 = .ok (.bipush 64, 2) := by decide +kernel
theorem d8_28 : decode prog_3_method_2_code 28 = .ok (.if_icmp .ge 13, 3) := by decide +kernel
theorem d8_31 : decode prog_3_method_2_code 31 = .ok (.lload_n 1, 1) := by decide +kernel
theorem d8_32 : decode prog_3_method_2_code 32 = .ok (.lconst 1, 1) := by decide +kernel
theorem d8_33 : decode prog_3_method_2_code 33 = .ok (.iload 6, 2) := by decide +kernel
theorem d8_35 : decode prog_3_method_2_code 35 = .ok (.lshl, 1) := by decide +kernel
theorem d8_36 : decode prog_3_method_2_code 36 = .ok (.lor, 1) := by decide +kernel
theorem d8_37 : decode prog_3_method_2_code 37 = .ok (.lstore_n 1, 1) := by decide +kernel
theorem d8_38 : decode prog_3_method_2_code 38 = .ok (.goto 13, 3) := by decide +kernel
theorem d8_51 : decode prog_3_method_2_code 51 = .ok (.iinc 5 1, 3) := by decide +kernel
theorem d8_54 : decode prog_3_method_2_code 54 = .ok (.goto (-47), 3) := by decide +kernel
theorem d8_57 : decode prog_3_method_2_code 57 = .ok (.new 8, 3) := by decide +kernel
theorem d8_60 : decode prog_3_method_2_code 60 = .ok (.dup, 1) := by decide +kernel
theorem d8_61 : decode prog_3_method_2_code 61 = .ok (.lload_n 1, 1) := by decide +kernel
theorem d8_62 : decode prog_3_method_2_code 62 = .ok (.lload_n 3, 1) := by decide +kernel
theorem d8_63 : decode prog_3_method_2_code 63 = .ok (.invokespecial 26, 3) := by decide +kernel
theorem ef7 (m : MethodId) (x0 : Addr) (x1 : Int64) (x2 : Int64) : entryFrame m #[.ref x0, .long x1, .long x2] 5 = mkF m 0 #[.val (.ref x0), .val (.long x1), .second, .val (.long x2), .second] [] := by first | (simp [entryFrame, mkF, argsToLocals, Value.category]; done) | rfl
theorem d9_0 : decode prog_3_method_1_code 0 = .ok (.aload_n 0, 1) := by decide +kernel
theorem d9_1 : decode prog_3_method_1_code 1 = .ok (.invokespecial 1, 3) := by decide +kernel
theorem d9_4 : decode prog_3_method_1_code 4 = .ok (.aload_n 0, 1) := by decide +kernel
theorem d9_5 : decode prog_3_method_1_code 5 = .ok (.lload_n 1, 1) := by decide +kernel
theorem d9_6 : decode prog_3_method_1_code 6 = .ok (.putfield 7, 3) := by decide +kernel
theorem d9_9 : decode prog_3_method_1_code 9 = .ok (.aload_n 0, 1) := by decide +kernel
theorem d9_10 : decode prog_3_method_1_code 10 = .ok (.lload_n 3, 1) := by decide +kernel
theorem d9_11 : decode prog_3_method_1_code 11 = .ok (.putfield 13, 3) := by decide +kernel
theorem d9_14 : decode prog_3_method_1_code 14 = .ok (.return_, 1) := by decide +kernel
-- com/example/echoes_to_canon/echoestocanon/HttpUrl$CharClass.<init>(JJ)V
def Q9 (Z : State) (qa1 : Addr) (qj2 : Int64) (h0 : Heap) (n0 : Nat) (v : Option Value) (h : Heap) (L : List Loc) : Prop := v = none ∧ Fr n0 L ∧ Keep h0 h [qa1] ∧ Exa Z h qa1 "com/example/echoes_to_canon/echoestocanon/HttpUrl$CharClass" ∧ Fld Z h qa1 "com/example/echoes_to_canon/echoestocanon/HttpUrl$CharClass" "low" "J" (.long qj2) ∧ Fld Z h qa1 "com/example/echoes_to_canon/echoestocanon/HttpUrl$CharClass" "high" "J" (.long (0 : Int64))
theorem rm9 (l : Launch) (Z : State) (a0 : Array Value) (hw : HW a0 Z) (qa1 : Addr) (qj2 : Int64) (h0 : Heap) (n0 : Nat) (X00 : Old Z n0 h0) (E_qa1 : Exa Z h0 qa1 "com/example/echoes_to_canon/echoestocanon/HttpUrl$CharClass") (F_qa1_low : Fld Z h0 qa1 "com/example/echoes_to_canon/echoestocanon/HttpUrl$CharClass" "low" "J" (.long (0 : Int64))) (g_qa1 : n0 ≤ qa1) (F_qa1_high : Fld Z h0 qa1 "com/example/echoes_to_canon/echoestocanon/HttpUrl$CharClass" "high" "J" (.long (0 : Int64))) :
    MF l Z Y8_ prog_3_method_1_code 5 none (Rm 1 0 0 12) #[.ref qa1, .long qj2, (.long (0 : Int64))] h0 (Q9 Z qa1 qj2 h0 n0) := by
 refine own_sF pn3 rfl (fun m => ef7 m qa1 qj2 (0 : Int64)) ?_
 intro p e s m below meth c s₁ Bd hZ hh hx hby hml hown hnm X0 e0 pre0
 have N0 := Fr.nil n0
 obtain ⟨T1, X1, e1, st1⟩ := initO X0 hx hZ hown (w94_ hw) (w16_ hw) (w17_ hw) e0 (g := (mkF m 1 #[rv qa1, .val (.long qj2), .second, .val (.long (0 : Int64)), .second] [.ref qa1])) rfl hml.symm rfl (hb hby d9_1) (by decide) (W := 0) (own_hw rfl) (lE rfl)
 obtain ⟨T2, h2, X2, e2, W2, st2⟩ := putF X1 hx hZ hown (host := "") (Or.inl (w95_ hw)) Via.refl e1 F_qa1_low E_qa1 (Or.inr ⟨(w96_ hw), rfl, hnm⟩) (w90_ hw) (ty := .long) (by decide) rfl rfl (g := (mkF m 6 #[rv qa1, .val (.long qj2), .second, .val (.long (0 : Int64)), .second] [.long qj2, .ref qa1])) rfl rfl (hb hby d9_6)
 have N2 := Fr.snoc X2 N0 g_qa1
 have K3 := (Keep.refl h0 [qa1]).wr W2 (Or.inl (mI 0 rfl))
 have F4_ : Fld Z h2 qa1 "com/example/echoes_to_canon/echoestocanon/HttpUrl$CharClass" "low" "J" (.long qj2) := F_qa1_low.same W2
 have F5_ := F_qa1_high.other W2 (Or.inr (slot_ne (Or.inr (w98_ hw)) (Or.inr (w96_ hw)) (by decide) (t := .long) (t' := .long) (by decide) (by decide)))
 have E6_ := E_qa1.wr W2
 obtain ⟨T7, h7, X7, e7, W7, st7⟩ := putF X2 hx hZ hown (host := "") (Or.inl (w97_ hw)) Via.refl e2 F5_ E6_ (Or.inr ⟨(w98_ hw), rfl, hnm⟩) (w90_ hw) (ty := .long) (by decide) rfl rfl (g := (mkF m 11 #[rv qa1, .val (.long qj2), .second, .val (.long (0 : Int64)), .second] [(.long (0 : Int64)), .ref qa1])) rfl rfl (hb hby d9_11)
 have N7 := Fr.snoc X7 N2 g_qa1
 have K8 := K3.wr W7 (Or.inl (mI 0 rfl))
 have F9_ : Fld Z h7 qa1 "com/example/echoes_to_canon/echoestocanon/HttpUrl$CharClass" "high" "J" (.long (0 : Int64)) := F5_.same W7
 have E10_ := E6_.wr W7
 have F11_ := F4_.other W7 (Or.inr (slot_ne (Or.inr (w96_ hw)) (Or.inr (w98_ hw)) (by decide) (t := .long) (t' := .long) (by decide) (by decide)))
 refine own_lvN X7 Bd e7 ⟨rfl, N7, K8, E10_, F11_, F9_⟩ rfl (fun fs hr => pre0 _ (by
  show Sx p e below s₁ m 0 #[rv qa1, .val (.long qj2), .second, .val (.long (0 : Int64)), .second] [] _
  refine zb X0 Bd d9_0 rfl rfl ?_
  refine st1 _ ?_
  refine zb X1 Bd d9_4 rfl rfl ?_
  refine XS.lloadN X1.here hx rfl (hb hby d9_5) rfl ?_
  refine st2 _ ?_
  refine zb X2 Bd d9_9 rfl rfl ?_
  refine XS.lloadN X2.here hx rfl (hb hby d9_10) rfl ?_
  refine st7 _ ?_
  exact X7.returnOut hx Bd.returns (hb hby d9_14) hr))
theorem pd9 : parseMethodDescriptor "(JJ)V" = some ⟨[.long, .long], none⟩ := by decide +kernel
theorem d8_66 : decode prog_3_method_2_code 66 = .ok (.areturn, 1) := by decide +kernel
theorem d8_41 : decode prog_3_method_2_code 41 = .ok (.lload_n 3, 1) := by decide +kernel
theorem d8_42 : decode prog_3_method_2_code 42 = .ok (.lconst 1, 1) := by decide +kernel
theorem d8_43 : decode prog_3_method_2_code 43 = .ok (.iload 6, 2) := by decide +kernel
theorem d8_45 : decode prog_3_method_2_code 45 = .ok (.bipush 64, 2) := by decide +kernel
theorem d8_47 : decode prog_3_method_2_code 47 = .ok (.isub, 1) := by decide +kernel
theorem d8_48 : decode prog_3_method_2_code 48 = .ok (.lshl, 1) := by decide +kernel
theorem d8_49 : decode prog_3_method_2_code 49 = .ok (.lor, 1) := by decide +kernel
theorem d8_50 : decode prog_3_method_2_code 50 = .ok (.lstore_n 3, 1) := by decide +kernel
-- com/example/echoes_to_canon/echoestocanon/HttpUrl$CharClass.<init>(JJ)V
def Q10 (Z : State) (qa1 : Addr) (qj2 : Int64) (h0 : Heap) (n0 : Nat) (v : Option Value) (h : Heap) (L : List Loc) : Prop := v = none ∧ Fr n0 L ∧ Keep h0 h [qa1] ∧ Exa Z h qa1 "com/example/echoes_to_canon/echoestocanon/HttpUrl$CharClass" ∧ Fld Z h qa1 "com/example/echoes_to_canon/echoestocanon/HttpUrl$CharClass" "low" "J" (.long (0 : Int64)) ∧ Fld Z h qa1 "com/example/echoes_to_canon/echoestocanon/HttpUrl$CharClass" "high" "J" (.long qj2)
theorem rm10 (l : Launch) (Z : State) (a0 : Array Value) (hw : HW a0 Z) (qa1 : Addr) (qj2 : Int64) (h0 : Heap) (n0 : Nat) (X00 : Old Z n0 h0) (E_qa1 : Exa Z h0 qa1 "com/example/echoes_to_canon/echoestocanon/HttpUrl$CharClass") (F_qa1_low : Fld Z h0 qa1 "com/example/echoes_to_canon/echoestocanon/HttpUrl$CharClass" "low" "J" (.long (0 : Int64))) (g_qa1 : n0 ≤ qa1) (F_qa1_high : Fld Z h0 qa1 "com/example/echoes_to_canon/echoestocanon/HttpUrl$CharClass" "high" "J" (.long (0 : Int64))) :
    MF l Z Y8_ prog_3_method_1_code 5 none (Rm 1 0 0 12) #[.ref qa1, (.long (0 : Int64)), .long qj2] h0 (Q10 Z qa1 qj2 h0 n0) := by
 refine own_sF pn3 rfl (fun m => ef7 m qa1 (0 : Int64) qj2) ?_
 intro p e s m below meth c s₁ Bd hZ hh hx hby hml hown hnm X0 e0 pre0
 have N0 := Fr.nil n0
 obtain ⟨T1, X1, e1, st1⟩ := initO X0 hx hZ hown (w94_ hw) (w16_ hw) (w17_ hw) e0 (g := (mkF m 1 #[rv qa1, .val (.long (0 : Int64)), .second, .val (.long qj2), .second] [.ref qa1])) rfl hml.symm rfl (hb hby d9_1) (by decide) (W := 0) (own_hw rfl) (lE rfl)
 obtain ⟨T2, h2, X2, e2, W2, st2⟩ := putF X1 hx hZ hown (host := "") (Or.inl (w95_ hw)) Via.refl e1 F_qa1_low E_qa1 (Or.inr ⟨(w96_ hw), rfl, hnm⟩) (w90_ hw) (ty := .long) (by decide) rfl rfl (g := (mkF m 6 #[rv qa1, .val (.long (0 : Int64)), .second, .val (.long qj2), .second] [(.long (0 : Int64)), .ref qa1])) rfl rfl (hb hby d9_6)
 have N2 := Fr.snoc X2 N0 g_qa1
 have K3 := (Keep.refl h0 [qa1]).wr W2 (Or.inl (mI 0 rfl))
 have F4_ : Fld Z h2 qa1 "com/example/echoes_to_canon/echoestocanon/HttpUrl$CharClass" "low" "J" (.long (0 : Int64)) := F_qa1_low.same W2
 have F5_ := F_qa1_high.other W2 (Or.inr (slot_ne (Or.inr (w98_ hw)) (Or.inr (w96_ hw)) (by decide) (t := .long) (t' := .long) (by decide) (by decide)))
 have E6_ := E_qa1.wr W2
 obtain ⟨T7, h7, X7, e7, W7, st7⟩ := putF X2 hx hZ hown (host := "") (Or.inl (w97_ hw)) Via.refl e2 F5_ E6_ (Or.inr ⟨(w98_ hw), rfl, hnm⟩) (w90_ hw) (ty := .long) (by decide) rfl rfl (g := (mkF m 11 #[rv qa1, .val (.long (0 : Int64)), .second, .val (.long qj2), .second] [.long qj2, .ref qa1])) rfl rfl (hb hby d9_11)
 have N7 := Fr.snoc X7 N2 g_qa1
 have K8 := K3.wr W7 (Or.inl (mI 0 rfl))
 have F9_ : Fld Z h7 qa1 "com/example/echoes_to_canon/echoestocanon/HttpUrl$CharClass" "high" "J" (.long qj2) := F5_.same W7
 have E10_ := E6_.wr W7
 have F11_ := F4_.other W7 (Or.inr (slot_ne (Or.inr (w96_ hw)) (Or.inr (w98_ hw)) (by decide) (t := .long) (t' := .long) (by decide) (by decide)))
 refine own_lvN X7 Bd e7 ⟨rfl, N7, K8, E10_, F11_, F9_⟩ rfl (fun fs hr => pre0 _ (by
  show Sx p e below s₁ m 0 #[rv qa1, .val (.long (0 : Int64)), .second, .val (.long qj2), .second] [] _
  refine zb X0 Bd d9_0 rfl rfl ?_
  refine st1 _ ?_
  refine zb X1 Bd d9_4 rfl rfl ?_
  refine XS.lloadN X1.here hx rfl (hb hby d9_5) rfl ?_
  refine st2 _ ?_
  refine zb X2 Bd d9_9 rfl rfl ?_
  refine XS.lloadN X2.here hx rfl (hb hby d9_10) rfl ?_
  refine st7 _ ?_
  exact X7.returnOut hx Bd.returns (hb hby d9_14) hr))
-- com/example/echoes_to_canon/echoestocanon/HttpUrl$CharClass.of(Ljava/lang/String;)Lcom/example/echoes_to_canon/echoestocanon/HttpUrl$CharClass;
def Q11 (Z : State)  (h0 : Heap) (n0 : Nat) (v : Option Value) (h : Heap) (L : List Loc) : Prop := ∃ bm : Addr, v = some (.ref bm) ∧ Fr n0 L ∧ Keep h0 h [] ∧ h0.size ≤ bm ∧ Exa Z h bm "com/example/echoes_to_canon/echoestocanon/HttpUrl$CharClass"
theorem rm11 (l : Launch) (Z : State) (a0 : Array Value) (hw : HW a0 Z) (G1 : Int32) (G3 : Value) (qa1 : Addr) (qa2 : Addr) (qi3 : Int32) (qk4 : ClassId) (h0 : Heap) (n0 : Nat) (X00 : Old Z n0 h0) (O2 : Sta Z Z.heap "java/lang/String" "COMPACT_STRINGS" "Z" (.int G1)) (P5 : ¬ (G1 = (0 : Int32))) (O4 : Sta Z Z.heap "jdk/internal/util/Preconditions" "SIOOBE_FORMATTER" "Ljava/util/function/BiFunction;" G3) (rG3 : G3.isRef = true) (E_qa1 : Exa Z h0 qa1 "java/lang/String") (F_qa1_coder : Fld Z h0 qa1 "java/lang/String" "coder" "B" (.int 0)) (F_qa1_value : Fld Z h0 qa1 "java/lang/String" "value" "[B" (.ref qa2)) (hp_qa1 : ∀ c ∈ ([qi3] : List Int32), ¬ c < 0 ∧ ¬ (255 : Int32) < c) (A_qa2 : Arv Z h0 qa2 qk4 .byte (1 : Int32) ((([qi3] : List Int32).map (fun c => c.toInt8.toInt32)).map Value.int) (.int 0)) :
    MF l Z Y9_ prog_3_method_2_code 7 (some (.object "com/example/echoes_to_canon/echoestocanon/HttpUrl$CharClass")) (Rm 4 1 2 53) #[.ref qa1] h0 (Q11 Z  h0 n0) := by
 refine own_sF pn3 rfl (fun m => ef6 m qa1) ?_
 intro p e s m below meth c s₁ Bd hZ hh hx hby hml hown hnm X0 e0 pre0
 have N0 := Fr.nil n0
 have hcd2 : StrChars.Road.CodA ([qi3] : List Int32) 0 (1 : Int32) ((([qi3] : List Int32).map (fun c => c.toInt8.toInt32)).map Value.int) := StrChars.Road.codOf (n := 1) rfl (fun x hx => (hp_qa1 x hx).2)
 have hbd2 : ∀ x ∈ ([qi3] : List Int32), ¬ x < 0 ∧ ¬ (65535 : Int32) < x := own_up _ hp_qa1
 obtain ⟨cq1, kq1, q1a, q1b, q1c⟩ := isOf hZ e0 E_qa1
 obtain ⟨_, T1, L1, X1, hQ1, st1⟩ := own_cb0 0 0 0 0 0 0 (X0.virtualBack hx (y := Y10_) (z := Y10_) hown (mvT hZ (w58_ hw)) (mvT hZ (w59_ hw)) (notFace_of_selects (args := #[]) (mvT hZ (w61_ hw))) (mvT hZ (w61_ hw)) (mvT hZ (w60_ hw)) (by decide) (StrChars.Road.lenW (W := 1) hZ (own_wl hw) (kI := 4) (w5_ hw) E_qa1 F_qa1_value F_qa1_coder A_qa2 hcd2 hbd2 (O2.ext X00.2) P5 (lE rfl) (lE rfl) (lE rfl)) q1a q1c (g := (mkF m 10 #[rv qa1, .val (.long (0 : Int64)), .second, .val (.long (0 : Int64)), .second, iv 0, .unset] [.ref qa1, .int 0])) rfl hml.symm (Steps.refl _) (argsL := []) (rest := [.int 0]) (lenOf pd7 rfl) rfl (own_hw rfl) (hb hby d8_10) (fun _ _ => ⟨rfl, e0, (lE rfl : 0 + 0 ≤ _), (lE rfl : 0 + 0 ≤ _)⟩)) rfl rfl
 dsimp only [Pt.U, Pt.locs, Pt.cells, Pt.slots] at hQ1
 obtain ⟨rfl, rfl, e1q⟩ := hQ1
 have N1 := Fr.app N0 (Fr.nil n0)
 obtain ⟨cq3, kq3, q3a, q3b, q3c⟩ := isOf hZ e1q E_qa1
 obtain ⟨_, T3, L3, X3, hQ3, st3⟩ := own_cb0 0 0 0 0 0 0 (X1.virtualBack hx (y := Y11_) (z := Y11_) hown (mvT hZ (w68_ hw)) (mvT hZ (w69_ hw)) (notFace_of_selects (args := #[]) (mvT hZ (w71_ hw))) (mvT hZ (w71_ hw)) (mvT hZ (w70_ hw)) (by decide) (StrChars.Road.chN (W := 0) hZ (own_wc hw) (kI := 4) (w5_ hw) E_qa1 F_qa1_value F_qa1_coder A_qa2 hcd2 hbd2 (O2.ext X00.2) P5 (O4.ext X00.2) rG3 (lE rfl) (i := 0) (lE rfl) (j := (0 : Int32)) rfl (lE rfl) (lE rfl)) q3a q3c (g := (mkF m 19 #[rv qa1, .val (.long (0 : Int64)), .second, .val (.long (0 : Int64)), .second, iv 0, .unset] [.int 0, .ref qa1])) rfl hml.symm (Steps.refl _) (argsL := [.int 0]) (rest := []) (lenOf pd8 rfl) rfl (own_hw rfl) (hb hby d8_19) (fun _ _ => ⟨rfl, e1q, (lE rfl : 0 + 0 ≤ _), (lE rfl : 0 + 0 ≤ _)⟩)) rfl rfl
 dsimp only [Pt.U, Pt.locs, Pt.cells, Pt.slots] at hQ3
 obtain ⟨rfl, rfl, e3q⟩ := hQ3
 have N3 := Fr.app N1 (Fr.nil n0)
 have pr4 : Pr p e below T3 m 28 #[rv qa1, .val (.long (0 : Int64)), .second, .val (.long (0 : Int64)), .second, iv 0, iv qi3] [.int 64, .int qi3] s₁ (entryFrame m #[.ref qa1] 7) := fun t k => pre0 t (by
  show Sx p e below s₁ m 0 #[rv qa1, .unset, .unset, .unset, .unset, .unset, .unset] [] _
  refine XS.lconst X0.here hx rfl (hb hby d8_0) ?_
  refine XS.lstoreN X0.here hx rfl (hb hby d8_1) rfl (l' := #[rv qa1, .val (.long (0 : Int64)), .second, .unset, .unset, .unset, .unset]) rfl ?_
  refine XS.lconst X0.here hx rfl (hb hby d8_2) ?_
  refine XS.lstoreN X0.here hx rfl (hb hby d8_3) rfl (l' := #[rv qa1, .val (.long (0 : Int64)), .second, .val (.long (0 : Int64)), .second, .unset, .unset]) rfl ?_
  refine zc X0 Bd d8_4 ?_
  refine zs X0 Bd d8_5 (l' := #[rv qa1, .val (.long (0 : Int64)), .second, .val (.long (0 : Int64)), .second, iv 0, .unset]) rfl ?_
  refine zi X0 Bd d8_7 rfl ?_
  refine zb X0 Bd d8_9 rfl rfl ?_
  refine st1.trans ?_
  refine zn X1 Bd d8_13 (XT.ii_ge_f ((by decide) : (0 : Int32) < (1 : Int32))) ?_
  refine zb X1 Bd d8_16 rfl rfl ?_
  refine zi X1 Bd d8_17 rfl ?_
  refine st3.trans ?_
  refine zs X3 Bd d8_22 (l' := #[rv qa1, .val (.long (0 : Int64)), .second, .val (.long (0 : Int64)), .second, iv 0, iv qi3]) rfl ?_
  refine zi X3 Bd d8_24 rfl ?_
  refine zd X3 Bd d8_26 ?_
  exact k)
 by_cases hc5 : qi3 < (64 : Int32)
 ·
  skip
  obtain ⟨cq6, kq6, q6a, q6b, q6c⟩ := isOf hZ e3q E_qa1
  obtain ⟨_, T6, L6, X6, hQ6, st6⟩ := own_cb0 0 0 0 0 0 0 (X3.virtualBack hx (y := Y10_) (z := Y10_) hown (mvT hZ (w58_ hw)) (mvT hZ (w59_ hw)) (notFace_of_selects (args := #[]) (mvT hZ (w61_ hw))) (mvT hZ (w61_ hw)) (mvT hZ (w60_ hw)) (by decide) (StrChars.Road.lenW (W := 1) hZ (own_wl hw) (kI := 4) (w5_ hw) E_qa1 F_qa1_value F_qa1_coder A_qa2 hcd2 hbd2 (O2.ext X00.2) P5 (lE rfl) (lE rfl) (lE rfl)) q6a q6c (g := (mkF m 10 #[rv qa1, .val (.long ((0 : Int64) ||| ((1 : Int64) <<< ((qi3).toInt64 &&& 63)))), .second, .val (.long (0 : Int64)), .second, iv 1, iv qi3] [.ref qa1, .int 1])) rfl hml.symm (Steps.refl _) (argsL := []) (rest := [.int 1]) (lenOf pd7 rfl) rfl (own_hw rfl) (hb hby d8_10) (fun _ _ => ⟨rfl, e3q, (lE rfl : 0 + 0 ≤ _), (lE rfl : 0 + 0 ≤ _)⟩)) rfl rfl
  dsimp only [Pt.U, Pt.locs, Pt.cells, Pt.slots] at hQ6
  obtain ⟨rfl, rfl, e6q⟩ := hQ6
  have N6 := Fr.app N3 (Fr.nil n0)
  obtain ⟨T7, h7, X7, e7, E7, A7, D7, -, st7⟩ := newO X6 hx hZ hown (w89_ hw) (w90_ hw) (w56_ hw) e6q (g := (mkF m 57 #[rv qa1, .val (.long ((0 : Int64) ||| ((1 : Int64) <<< ((qi3).toInt64 &&& 63)))), .second, .val (.long (0 : Int64)), .second, iv 1, iv qi3] [])) rfl (hb hby d8_57) (lE rfl) (lE rfl)
  obtain ⟨b7, g7⟩ : ∃ z, z = h0.size := ⟨_, rfl⟩
  rw [← g7] at A7 D7 st7
  replace X7 : Stand p l e (Rm 4 1 2 53) s m #[.ref qa1] below meth c T7 _ 1 2 := X7
  have K8 := (Keep.refl h0 []).ext E7
  have F9_ : Fld Z h7 b7 "com/example/echoes_to_canon/echoestocanon/HttpUrl$CharClass" "low" "J" (.long (0 : Int64)) := D7 (Or.inr (w96_ hw)) (ty := .long) (by decide)
  have F10_ : Fld Z h7 b7 "com/example/echoes_to_canon/echoestocanon/HttpUrl$CharClass" "high" "J" (.long (0 : Int64)) := D7 (Or.inr (w98_ hw)) (ty := .long) (by decide)
  have g_b7 : n0 ≤ b7 := Nat.le_trans (Nat.le_trans (Nat.le_of_eq X00.1.symm) X00.2.1) (Nat.le_of_eq g7.symm)
  have O12 := X00.ext E7
  obtain ⟨_, T11, L11, X11, hQ11, st11⟩ := own_cI 1 2 [.ref b7] 63 #[rv qa1, .val (.long ((0 : Int64) ||| ((1 : Int64) <<< ((qi3).toInt64 &&& 63)))), .second, .val (.long (0 : Int64)), .second, iv 1, iv qi3] X7 hx hZ hown (w91_ hw) (w92_ hw) (w56_ hw) (w93_ hw) (rm9 l Z a0 hw  b7 ((0 : Int64) ||| ((1 : Int64) <<< ((qi3).toInt64 &&& 63))) h7 n0 O12 A7 F9_ g_b7 F10_) pd9 hml.symm (hb hby d8_63) e7 rfl rfl rfl rfl rfl (by decide)
  obtain ⟨rfl, N11q, K11q, w13, w14, w15⟩ := hQ11
  have N11 := Fr.app N6 N11q
  have sz_b7 : h0.size ≤ b7 := (Nat.le_of_eq g7.symm)
  have K16 := K8.trans K11q (allS (Or.inr sz_b7) all0)
  have E17_ := A7.keep K11q
  refine own_lvF X11 Bd (.ref b7) rfl ⟨b7, rfl, N11, K16, sz_b7, E17_⟩ rfl (fun fs hr => pr4 _ (by
   show Sx p e below T3 m 28 #[rv qa1, .val (.long (0 : Int64)), .second, .val (.long (0 : Int64)), .second, iv 0, iv qi3] [.int 64, .int qi3] _
   refine zn X3 Bd d8_28 (XT.ii_ge_f (hc5 : qi3 < (64 : Int32))) ?_
   refine XS.lloadN X3.here hx rfl (hb hby d8_31) rfl ?_
   refine XS.lconst X3.here hx rfl (hb hby d8_32) ?_
   refine zi X3 Bd d8_33 rfl ?_
   refine XT.lshl X3.here hx rfl (hb hby d8_35) rfl ?_
   refine XS.lor X3.here hx rfl (hb hby d8_36) rfl ?_
   refine XS.lstoreN X3.here hx rfl (hb hby d8_37) rfl (l' := #[rv qa1, .val (.long ((0 : Int64) ||| ((1 : Int64) <<< ((qi3).toInt64 &&& 63)))), .second, .val (.long (0 : Int64)), .second, iv 0, iv qi3]) rfl ?_
   refine zg (pc' := 51) X3 Bd d8_38 rfl ?_
   refine XS.iinc X3.here hx rfl (hb hby d8_51) rfl (l' := #[rv qa1, .val (.long ((0 : Int64) ||| ((1 : Int64) <<< ((qi3).toInt64 &&& 63)))), .second, .val (.long (0 : Int64)), .second, iv 1, iv qi3]) rfl ?_
   refine zg (pc' := 7) X3 Bd d8_54 rfl ?_
   refine zi X3 Bd d8_7 rfl ?_
   refine zb X3 Bd d8_9 rfl rfl ?_
   refine st6.trans ?_
   refine zy (pc' := 57) X6 Bd d8_13 (XT.ii_ge_t ((by decide) : ¬ ((1 : Int32) < (1 : Int32)))) rfl ?_
   refine st7 _ ?_
   refine XS.dup X7.here hx rfl (hb hby d8_60) rfl rfl ?_
   refine XS.lloadN X7.here hx rfl (hb hby d8_61) rfl ?_
   refine XS.lloadN X7.here hx rfl (hb hby d8_62) rfl ?_
   refine st11 _ ?_
   exact retOut X11 hx Bd.returns rfl (Or.inr (Or.inr (Or.inr (Or.inr ⟨rfl, rfl, rfl⟩)))) (hb hby d8_66) hr))
 ·
  skip
  obtain ⟨cq18, kq18, q18a, q18b, q18c⟩ := isOf hZ e3q E_qa1
  obtain ⟨_, T18, L18, X18, hQ18, st18⟩ := own_cb0 0 0 0 0 0 0 (X3.virtualBack hx (y := Y10_) (z := Y10_) hown (mvT hZ (w58_ hw)) (mvT hZ (w59_ hw)) (notFace_of_selects (args := #[]) (mvT hZ (w61_ hw))) (mvT hZ (w61_ hw)) (mvT hZ (w60_ hw)) (by decide) (StrChars.Road.lenW (W := 1) hZ (own_wl hw) (kI := 4) (w5_ hw) E_qa1 F_qa1_value F_qa1_coder A_qa2 hcd2 hbd2 (O2.ext X00.2) P5 (lE rfl) (lE rfl) (lE rfl)) q18a q18c (g := (mkF m 10 #[rv qa1, .val (.long (0 : Int64)), .second, .val (.long ((0 : Int64) ||| ((1 : Int64) <<< (((qi3 - (64 : Int32))).toInt64 &&& 63)))), .second, iv 1, iv qi3] [.ref qa1, .int 1])) rfl hml.symm (Steps.refl _) (argsL := []) (rest := [.int 1]) (lenOf pd7 rfl) rfl (own_hw rfl) (hb hby d8_10) (fun _ _ => ⟨rfl, e3q, (lE rfl : 0 + 0 ≤ _), (lE rfl : 0 + 0 ≤ _)⟩)) rfl rfl
  dsimp only [Pt.U, Pt.locs, Pt.cells, Pt.slots] at hQ18
  obtain ⟨rfl, rfl, e18q⟩ := hQ18
  have N18 := Fr.app N3 (Fr.nil n0)
  obtain ⟨T19, h19, X19, e19, E19, A19, D19, -, st19⟩ := newO X18 hx hZ hown (w89_ hw) (w90_ hw) (w56_ hw) e18q (g := (mkF m 57 #[rv qa1, .val (.long (0 : Int64)), .second, .val (.long ((0 : Int64) ||| ((1 : Int64) <<< (((qi3 - (64 : Int32))).toInt64 &&& 63)))), .second, iv 1, iv qi3] [])) rfl (hb hby d8_57) (lE rfl) (lE rfl)
  obtain ⟨b19, g19⟩ : ∃ z, z = h0.size := ⟨_, rfl⟩
  rw [← g19] at A19 D19 st19
  replace X19 : Stand p l e (Rm 4 1 2 53) s m #[.ref qa1] below meth c T19 _ 1 2 := X19
  have K20 := (Keep.refl h0 []).ext E19
  have F21_ : Fld Z h19 b19 "com/example/echoes_to_canon/echoestocanon/HttpUrl$CharClass" "low" "J" (.long (0 : Int64)) := D19 (Or.inr (w96_ hw)) (ty := .long) (by decide)
  have F22_ : Fld Z h19 b19 "com/example/echoes_to_canon/echoestocanon/HttpUrl$CharClass" "high" "J" (.long (0 : Int64)) := D19 (Or.inr (w98_ hw)) (ty := .long) (by decide)
  have g_b19 : n0 ≤ b19 := Nat.le_trans (Nat.le_trans (Nat.le_of_eq X00.1.symm) X00.2.1) (Nat.le_of_eq g19.symm)
  have O24 := X00.ext E19
  obtain ⟨_, T23, L23, X23, hQ23, st23⟩ := own_cI 1 2 [.ref b19] 63 #[rv qa1, .val (.long (0 : Int64)), .second, .val (.long ((0 : Int64) ||| ((1 : Int64) <<< (((qi3 - (64 : Int32))).toInt64 &&& 63)))), .second, iv 1, iv qi3] X19 hx hZ hown (w91_ hw) (w92_ hw) (w56_ hw) (w93_ hw) (rm10 l Z a0 hw  b19 ((0 : Int64) ||| ((1 : Int64) <<< (((qi3 - (64 : Int32))).toInt64 &&& 63))) h19 n0 O24 A19 F21_ g_b19 F22_) pd9 hml.symm (hb hby d8_63) e19 rfl rfl rfl rfl rfl (by decide)
  obtain ⟨rfl, N23q, K23q, w25, w26, w27⟩ := hQ23
  have N23 := Fr.app N18 N23q
  have sz_b19 : h0.size ≤ b19 := (Nat.le_of_eq g19.symm)
  have K28 := K20.trans K23q (allS (Or.inr sz_b19) all0)
  have E29_ := A19.keep K23q
  refine own_lvF X23 Bd (.ref b19) rfl ⟨b19, rfl, N23, K28, sz_b19, E29_⟩ rfl (fun fs hr => pr4 _ (by
   show Sx p e below T3 m 28 #[rv qa1, .val (.long (0 : Int64)), .second, .val (.long (0 : Int64)), .second, iv 0, iv qi3] [.int 64, .int qi3] _
   refine zy (pc' := 41) X3 Bd d8_28 (XT.ii_ge_t (hc5 : ¬ (qi3 < (64 : Int32)))) rfl ?_
   refine XS.lloadN X3.here hx rfl (hb hby d8_41) rfl ?_
   refine XS.lconst X3.here hx rfl (hb hby d8_42) ?_
   refine zi X3 Bd d8_43 rfl ?_
   refine zd X3 Bd d8_45 ?_
   refine XS.isub X3.here hx rfl (hb hby d8_47) rfl ?_
   refine XT.lshl X3.here hx rfl (hb hby d8_48) rfl ?_
   refine XS.lor X3.here hx rfl (hb hby d8_49) rfl ?_
   refine XS.lstoreN X3.here hx rfl (hb hby d8_50) rfl (l' := #[rv qa1, .val (.long (0 : Int64)), .second, .val (.long ((0 : Int64) ||| ((1 : Int64) <<< (((qi3 - (64 : Int32))).toInt64 &&& 63)))), .second, iv 0, iv qi3]) rfl ?_
   refine XS.iinc X3.here hx rfl (hb hby d8_51) rfl (l' := #[rv qa1, .val (.long (0 : Int64)), .second, .val (.long ((0 : Int64) ||| ((1 : Int64) <<< (((qi3 - (64 : Int32))).toInt64 &&& 63)))), .second, iv 1, iv qi3]) rfl ?_
   refine zg (pc' := 7) X3 Bd d8_54 rfl ?_
   refine zi X3 Bd d8_7 rfl ?_
   refine zb X3 Bd d8_9 rfl rfl ?_
   refine st18.trans ?_
   refine zy (pc' := 57) X18 Bd d8_13 (XT.ii_ge_t ((by decide) : ¬ ((1 : Int32) < (1 : Int32)))) rfl ?_
   refine st19 _ ?_
   refine XS.dup X19.here hx rfl (hb hby d8_60) rfl rfl ?_
   refine XS.lloadN X19.here hx rfl (hb hby d8_61) rfl ?_
   refine XS.lloadN X19.here hx rfl (hb hby d8_62) rfl ?_
   refine st23 _ ?_
   exact retOut X23 hx Bd.returns rfl (Or.inr (Or.inr (Or.inr (Or.inr ⟨rfl, rfl, rfl⟩)))) (hb hby d8_66) hr))
theorem pd10 : parseMethodDescriptor "(Ljava/lang/String;)Lcom/example/echoes_to_canon/echoestocanon/HttpUrl$CharClass;" = some ⟨[(.object "java/lang/String")], some (.object "com/example/echoes_to_canon/echoestocanon/HttpUrl$CharClass")⟩ := by decide +kernel
theorem ef8 (m : MethodId) (x0 : Addr) : entryFrame m #[.ref x0] 1 = mkF m 0 #[.val (.ref x0)] [] := by first | (simp [entryFrame, mkF, argsToLocals, Value.category]; done) | rfl
theorem pn4 : plainName "com/example/echoes_to_canon/echoestocanon/UrlKeys$Value" = true := by first | (simp [plainName, overriddenIn]; done) | decide +kernel
theorem d10_0 : decode prog_15_method_5_code 0 = .ok (.new 10, 3) := by decide +kernel
theorem d10_3 : decode prog_15_method_5_code 3 = .ok (.dup, 1) := by decide +kernel
theorem d10_4 : decode prog_15_method_5_code 4 = .ok (.aconst_null, 1) := by decide +kernel
theorem d10_5 : decode prog_15_method_5_code 5 = .ok (.aload_n 0, 1) := by decide +kernel
theorem d10_6 : decode prog_15_method_5_code 6 = .ok (.ldc 57, 2) := by decide +kernel
theorem d10_8 : decode prog_15_method_5_code 8 = .ok (.invokestatic 46, 3) := by decide +kernel
theorem pn5 : plainName "java/util/Objects" = true := by first | (simp [plainName, overriddenIn]; done) | decide +kernel
theorem d11_0 : decode jdk_31_method_11_code 0 = .ok (.aload_n 0, 1) := by decide +kernel
theorem d11_1 : decode jdk_31_method_11_code 1 = .ok (.ifnonnull 12, 3) := by decide +kernel
theorem d11_13 : decode jdk_31_method_11_code 13 = .ok (.aload_n 0, 1) := by decide +kernel
theorem d11_14 : decode jdk_31_method_11_code 14 = .ok (.areturn, 1) := by decide +kernel
-- java/util/Objects.requireNonNull(Ljava/lang/Object;Ljava/lang/String;)Ljava/lang/Object;
def Q12 (Z : State) (qa1 : Addr) (h0 : Heap) (n0 : Nat) (v : Option Value) (h : Heap) (L : List Loc) : Prop := v = some (.ref qa1) ∧ Fr n0 L ∧ h = h0
theorem rm12 (l : Launch) (Z : State) (a0 : Array Value) (hw : HW a0 Z) (qa1 : Addr) (qa2 : Addr) (h0 : Heap) (n0 : Nat) (X00 : Old Z n0 h0)  :
    MF l Z Y12_ jdk_31_method_11_code 2 (some (.object "java/lang/Object")) (Rm 0 0 0 0) #[.ref qa1, .ref qa2] h0 (Q12 Z qa1 h0 n0) := by
 refine own_sF pn5 rfl (fun m => ef2 m qa1 qa2) ?_
 intro p e s m below meth c s₁ Bd hZ hh hx hby hml hown hnm X0 e0 pre0
 have N0 := Fr.nil n0
 refine own_lvF X0 Bd (.ref qa1) e0 ⟨rfl, N0, rfl⟩ rfl (fun fs hr => pre0 _ (by
  show Sx p e below s₁ m 0 #[rv qa1, rv qa2] [] _
  refine zb X0 Bd d11_0 rfl rfl ?_
  refine XS.ifnonnullYes X0.here hx rfl (pc0 := 1) (pc' := 13) rfl (hb hby d11_1) rfl (by decide) (by decide) ?_
  refine zb X0 Bd d11_13 rfl rfl ?_
  exact retOut X0 hx Bd.returns rfl (Or.inr (Or.inr (Or.inr (Or.inr ⟨rfl, rfl, rfl⟩)))) (hb hby d11_14) hr))
theorem pd11 : parseMethodDescriptor "(Ljava/lang/Object;Ljava/lang/String;)Ljava/lang/Object;" = some ⟨[(.object "java/lang/Object"), (.object "java/lang/String")], some (.object "java/lang/Object")⟩ := by decide +kernel
theorem d10_11 : decode prog_15_method_5_code 11 = .ok (.checkcast 52, 3) := by decide +kernel
theorem d10_14 : decode prog_15_method_5_code 14 = .ok (.iconst 1, 1) := by decide +kernel
theorem d10_15 : decode prog_15_method_5_code 15 = .ok (.aconst_null, 1) := by decide +kernel
theorem d10_16 : decode prog_15_method_5_code 16 = .ok (.invokespecial 54, 3) := by decide +kernel
theorem ef9 (m : MethodId) (x0 : Addr) (x2 : Addr) (x3 : Int32) : entryFrame m #[.ref x0, .null, .ref x2, .int x3, .null] 5 = mkF m 0 #[.val (.ref x0), .val .null, .val (.ref x2), .val (.int x3), .val .null] [] := by first | (simp [entryFrame, mkF, argsToLocals, Value.category]; done) | rfl
theorem d12_0 : decode prog_15_method_1_code 0 = .ok (.aload_n 0, 1) := by decide +kernel
theorem d12_1 : decode prog_15_method_1_code 1 = .ok (.invokespecial 3, 3) := by decide +kernel
theorem d12_4 : decode prog_15_method_1_code 4 = .ok (.aload_n 0, 1) := by decide +kernel
theorem d12_5 : decode prog_15_method_1_code 5 = .ok (.aload_n 1, 1) := by decide +kernel
theorem d12_6 : decode prog_15_method_1_code 6 = .ok (.putfield 9, 3) := by decide +kernel
theorem d12_9 : decode prog_15_method_1_code 9 = .ok (.aload_n 0, 1) := by decide +kernel
theorem d12_10 : decode prog_15_method_1_code 10 = .ok (.aload_n 2, 1) := by decide +kernel
theorem d12_11 : decode prog_15_method_1_code 11 = .ok (.putfield 15, 3) := by decide +kernel
theorem d12_14 : decode prog_15_method_1_code 14 = .ok (.aload_n 0, 1) := by decide +kernel
theorem d12_15 : decode prog_15_method_1_code 15 = .ok (.iload_n 3, 1) := by decide +kernel
theorem d12_16 : decode prog_15_method_1_code 16 = .ok (.putfield 18, 3) := by decide +kernel
theorem d12_19 : decode prog_15_method_1_code 19 = .ok (.aload_n 0, 1) := by decide +kernel
theorem d12_20 : decode prog_15_method_1_code 20 = .ok (.aload 4, 2) := by decide +kernel
theorem d12_22 : decode prog_15_method_1_code 22 = .ok (.putfield 22, 3) := by decide +kernel
theorem d12_25 : decode prog_15_method_1_code 25 = .ok (.return_, 1) := by decide +kernel
-- com/example/echoes_to_canon/echoestocanon/UrlKeys$Value.<init>(Ljava/lang/String;Ljava/lang/String;ZLcom/example/echoes_to_canon/echoestocanon/Conversion;)V
def Q13 (Z : State) (qa1 : Addr) (qa2 : Addr) (h0 : Heap) (n0 : Nat) (v : Option Value) (h : Heap) (L : List Loc) : Prop := v = none ∧ Fr n0 L ∧ Keep h0 h [qa1] ∧ Exa Z h qa1 "com/example/echoes_to_canon/echoestocanon/UrlKeys$Value" ∧ Fld Z h qa1 "com/example/echoes_to_canon/echoestocanon/UrlKeys$Value" "text" "Ljava/lang/String;" .null ∧ Fld Z h qa1 "com/example/echoes_to_canon/echoestocanon/UrlKeys$Value" "variable" "Ljava/lang/String;" (.ref qa2) ∧ Fld Z h qa1 "com/example/echoes_to_canon/echoestocanon/UrlKeys$Value" "run" "Z" (.int 1) ∧ Fld Z h qa1 "com/example/echoes_to_canon/echoestocanon/UrlKeys$Value" "conversion" "Lcom/example/echoes_to_canon/echoestocanon/Conversion;" .null
theorem rm13 (l : Launch) (Z : State) (a0 : Array Value) (hw : HW a0 Z) (qa1 : Addr) (qa2 : Addr) (h0 : Heap) (n0 : Nat) (X00 : Old Z n0 h0) (E_qa1 : Exa Z h0 qa1 "com/example/echoes_to_canon/echoestocanon/UrlKeys$Value") (F_qa1_text : Fld Z h0 qa1 "com/example/echoes_to_canon/echoestocanon/UrlKeys$Value" "text" "Ljava/lang/String;" .null) (g_qa1 : n0 ≤ qa1) (F_qa1_variable : Fld Z h0 qa1 "com/example/echoes_to_canon/echoestocanon/UrlKeys$Value" "variable" "Ljava/lang/String;" .null) (F_qa1_run : Fld Z h0 qa1 "com/example/echoes_to_canon/echoestocanon/UrlKeys$Value" "run" "Z" (.int 0)) (F_qa1_conversion : Fld Z h0 qa1 "com/example/echoes_to_canon/echoestocanon/UrlKeys$Value" "conversion" "Lcom/example/echoes_to_canon/echoestocanon/Conversion;" .null) :
    MF l Z Y13_ prog_15_method_1_code 5 none (Rm 1 0 0 12) #[.ref qa1, .null, .ref qa2, .int 1, .null] h0 (Q13 Z qa1 qa2 h0 n0) := by
 refine own_sF pn4 rfl (fun m => ef9 m qa1 qa2 (1 : Int32)) ?_
 intro p e s m below meth c s₁ Bd hZ hh hx hby hml hown hnm X0 e0 pre0
 have N0 := Fr.nil n0
 obtain ⟨T1, X1, e1, st1⟩ := initO X0 hx hZ hown (w114_ hw) (w16_ hw) (w17_ hw) e0 (g := (mkF m 1 #[rv qa1, .val .null, rv qa2, iv 1, .val .null] [.ref qa1])) rfl hml.symm rfl (hb hby d12_1) (by decide) (W := 0) (own_hw rfl) (lE rfl)
 obtain ⟨T2, h2, X2, e2, W2, st2⟩ := putF X1 hx hZ hown (host := "") (Or.inl (w115_ hw)) Via.refl e1 F_qa1_text E_qa1 (Or.inr ⟨(w116_ hw), rfl, hnm⟩) (w104_ hw) (ty := (.object "java/lang/String")) (by decide) rfl rfl (g := (mkF m 6 #[rv qa1, .val .null, rv qa2, iv 1, .val .null] [.null, .ref qa1])) rfl rfl (hb hby d12_6)
 have N2 := Fr.snoc X2 N0 g_qa1
 have K3 := (Keep.refl h0 [qa1]).wr W2 (Or.inl (mI 0 rfl))
 have F4_ : Fld Z h2 qa1 "com/example/echoes_to_canon/echoestocanon/UrlKeys$Value" "text" "Ljava/lang/String;" .null := F_qa1_text.same W2
 have F5_ := F_qa1_variable.other W2 (Or.inr (slot_ne (Or.inr (w118_ hw)) (Or.inr (w116_ hw)) (by decide) (t := (.object "java/lang/String")) (t' := (.object "java/lang/String")) (by decide) (by decide)))
 have E6_ := E_qa1.wr W2
 obtain ⟨T7, h7, X7, e7, W7, st7⟩ := putF X2 hx hZ hown (host := "") (Or.inl (w117_ hw)) Via.refl e2 F5_ E6_ (Or.inr ⟨(w118_ hw), rfl, hnm⟩) (w104_ hw) (ty := (.object "java/lang/String")) (by decide) rfl rfl (g := (mkF m 11 #[rv qa1, .val .null, rv qa2, iv 1, .val .null] [.ref qa2, .ref qa1])) rfl rfl (hb hby d12_11)
 have N7 := Fr.snoc X7 N2 g_qa1
 have K8 := K3.wr W7 (Or.inl (mI 0 rfl))
 have F9_ : Fld Z h7 qa1 "com/example/echoes_to_canon/echoestocanon/UrlKeys$Value" "variable" "Ljava/lang/String;" (.ref qa2) := F5_.same W7
 have F10_ := F_qa1_run.other W2 (Or.inr (slot_ne (Or.inr (w120_ hw)) (Or.inr (w116_ hw)) (by decide) (t := .boolean) (t' := (.object "java/lang/String")) (by decide) (by decide)))
 have F11_ := F10_.other W7 (Or.inr (slot_ne (Or.inr (w120_ hw)) (Or.inr (w118_ hw)) (by decide) (t := .boolean) (t' := (.object "java/lang/String")) (by decide) (by decide)))
 have E12_ := E6_.wr W7
 obtain ⟨T13, h13, X13, e13, W13, st13⟩ := putF X7 hx hZ hown (host := "") (Or.inl (w119_ hw)) Via.refl e7 F11_ E12_ (Or.inr ⟨(w120_ hw), rfl, hnm⟩) (w104_ hw) (ty := .boolean) (by decide) rfl rfl (g := (mkF m 16 #[rv qa1, .val .null, rv qa2, iv 1, .val .null] [.int 1, .ref qa1])) rfl rfl (hb hby d12_16)
 have N13 := Fr.snoc X13 N7 g_qa1
 have K14 := K8.wr W13 (Or.inl (mI 0 rfl))
 have F15_ : Fld Z h13 qa1 "com/example/echoes_to_canon/echoestocanon/UrlKeys$Value" "run" "Z" (.int 1) := F11_.same W13
 have F16_ := F_qa1_conversion.other W2 (Or.inr (slot_ne (Or.inr (w122_ hw)) (Or.inr (w116_ hw)) (by decide) (t := (.object "com/example/echoes_to_canon/echoestocanon/Conversion")) (t' := (.object "java/lang/String")) (by decide) (by decide)))
 have F17_ := F16_.other W7 (Or.inr (slot_ne (Or.inr (w122_ hw)) (Or.inr (w118_ hw)) (by decide) (t := (.object "com/example/echoes_to_canon/echoestocanon/Conversion")) (t' := (.object "java/lang/String")) (by decide) (by decide)))
 have F18_ := F17_.other W13 (Or.inr (slot_ne (Or.inr (w122_ hw)) (Or.inr (w120_ hw)) (by decide) (t := (.object "com/example/echoes_to_canon/echoestocanon/Conversion")) (t' := .boolean) (by decide) (by decide)))
 have E19_ := E12_.wr W13
 obtain ⟨T20, h20, X20, e20, W20, st20⟩ := putF X13 hx hZ hown (host := "") (Or.inl (w121_ hw)) Via.refl e13 F18_ E19_ (Or.inr ⟨(w122_ hw), rfl, hnm⟩) (w104_ hw) (ty := (.object "com/example/echoes_to_canon/echoestocanon/Conversion")) (by decide) rfl rfl (g := (mkF m 22 #[rv qa1, .val .null, rv qa2, iv 1, .val .null] [.null, .ref qa1])) rfl rfl (hb hby d12_22)
 have N20 := Fr.snoc X20 N13 g_qa1
 have K21 := K14.wr W20 (Or.inl (mI 0 rfl))
 have F22_ : Fld Z h20 qa1 "com/example/echoes_to_canon/echoestocanon/UrlKeys$Value" "conversion" "Lcom/example/echoes_to_canon/echoestocanon/Conversion;" .null := F18_.same W20
 have E23_ := E19_.wr W20
 have F24_ := F4_.other W7 (Or.inr (slot_ne (Or.inr (w116_ hw)) (Or.inr (w118_ hw)) (by decide) (t := (.object "java/lang/String")) (t' := (.object "java/lang/String")) (by decide) (by decide)))
 have F25_ := F24_.other W13 (Or.inr (slot_ne (Or.inr (w116_ hw)) (Or.inr (w120_ hw)) (by decide) (t := (.object "java/lang/String")) (t' := .boolean) (by decide) (by decide)))
 have F26_ := F25_.other W20 (Or.inr (slot_ne (Or.inr (w116_ hw)) (Or.inr (w122_ hw)) (by decide) (t := (.object "java/lang/String")) (t' := (.object "com/example/echoes_to_canon/echoestocanon/Conversion")) (by decide) (by decide)))
 have F27_ := F9_.other W13 (Or.inr (slot_ne (Or.inr (w118_ hw)) (Or.inr (w120_ hw)) (by decide) (t := (.object "java/lang/String")) (t' := .boolean) (by decide) (by decide)))
 have F28_ := F27_.other W20 (Or.inr (slot_ne (Or.inr (w118_ hw)) (Or.inr (w122_ hw)) (by decide) (t := (.object "java/lang/String")) (t' := (.object "com/example/echoes_to_canon/echoestocanon/Conversion")) (by decide) (by decide)))
 have F29_ := F15_.other W20 (Or.inr (slot_ne (Or.inr (w120_ hw)) (Or.inr (w122_ hw)) (by decide) (t := .boolean) (t' := (.object "com/example/echoes_to_canon/echoestocanon/Conversion")) (by decide) (by decide)))
 refine own_lvN X20 Bd e20 ⟨rfl, N20, K21, E23_, F26_, F28_, F29_, F22_⟩ rfl (fun fs hr => pre0 _ (by
  show Sx p e below s₁ m 0 #[rv qa1, .val .null, rv qa2, iv 1, .val .null] [] _
  refine zb X0 Bd d12_0 rfl rfl ?_
  refine st1 _ ?_
  refine zb X1 Bd d12_4 rfl rfl ?_
  refine zb X1 Bd d12_5 rfl rfl ?_
  refine st2 _ ?_
  refine zb X2 Bd d12_9 rfl rfl ?_
  refine zb X2 Bd d12_10 rfl rfl ?_
  refine st7 _ ?_
  refine zb X7 Bd d12_14 rfl rfl ?_
  refine zj X7 Bd d12_15 rfl ?_
  refine st13 _ ?_
  refine zb X13 Bd d12_19 rfl rfl ?_
  refine za X13 Bd d12_20 rfl rfl ?_
  refine st20 _ ?_
  exact X20.returnOut hx Bd.returns (hb hby d12_25) hr))
theorem pd12 : parseMethodDescriptor "(Ljava/lang/String;Ljava/lang/String;ZLcom/example/echoes_to_canon/echoestocanon/Conversion;)V" = some ⟨[(.object "java/lang/String"), (.object "java/lang/String"), .boolean, (.object "com/example/echoes_to_canon/echoestocanon/Conversion")], none⟩ := by decide +kernel
theorem d10_19 : decode prog_15_method_5_code 19 = .ok (.areturn, 1) := by decide +kernel
-- com/example/echoes_to_canon/echoestocanon/UrlKeys$Value.rest(Ljava/lang/String;)Lcom/example/echoes_to_canon/echoestocanon/UrlKeys$Value;
def Q14 (Z : State) (qa1 : Addr) (h0 : Heap) (n0 : Nat) (v : Option Value) (h : Heap) (L : List Loc) : Prop := ∃ b1 : Addr, v = some (.ref b1) ∧ Fr n0 L ∧ Keep h0 h [] ∧ h0.size ≤ b1 ∧ Exa Z h b1 "com/example/echoes_to_canon/echoestocanon/UrlKeys$Value" ∧ Fld Z h b1 "com/example/echoes_to_canon/echoestocanon/UrlKeys$Value" "text" "Ljava/lang/String;" .null ∧ Fld Z h b1 "com/example/echoes_to_canon/echoestocanon/UrlKeys$Value" "variable" "Ljava/lang/String;" (.ref qa1) ∧ Fld Z h b1 "com/example/echoes_to_canon/echoestocanon/UrlKeys$Value" "run" "Z" (.int 1) ∧ Fld Z h b1 "com/example/echoes_to_canon/echoestocanon/UrlKeys$Value" "conversion" "Lcom/example/echoes_to_canon/echoestocanon/Conversion;" .null
theorem rm14 (l : Launch) (Z : State) (a0 : Array Value) (hw : HW a0 Z) (qa1 : Addr) (h0 : Heap) (n0 : Nat) (X00 : Old Z n0 h0) (E_qa1 : Exa Z h0 qa1 "java/lang/String") :
    MW l Z consts_1 Y14_ prog_15_method_5_code 1 (some (.object "com/example/echoes_to_canon/echoestocanon/UrlKeys$Value")) (Rm 2 3 24 29) #[.ref qa1] h0 (Q14 Z qa1 h0 n0) := by
 refine own_sW pn4 rfl (fun m => ef8 m qa1) ?_
 intro p e s m below meth c s₁ Bd hZ hh hx hby hml hown hnm X0 e0 pre0 hC0 hS0 hk0 hR0
 have N0 := Fr.nil n0
 have hEL := own_EW hw
 have hwS := own_wS hw
 obtain ⟨T1, h1, X1, e1, E1, A1, D1, -, st1⟩ := newO X0 hx hZ hown (w103_ hw) (w104_ hw) (w101_ hw) e0 (g := (mkF m 0 #[rv qa1] [])) rfl (hb hby d10_0) (lE rfl) (lE rfl)
 obtain ⟨b1, g1⟩ : ∃ z, z = h0.size := ⟨_, rfl⟩
 rw [← g1] at A1 D1 st1
 replace X1 : Stand p l e (Rm 2 3 24 29) (s.setVm s.vm) m #[.ref qa1] below meth c T1 _ 1 4 := X1
 have K2 := (Keep.refl h0 []).ext E1
 have C3 : CHv Z consts_1 s.vm h1 := CHv.ext E1 hC0
 have R4 : CHr Z consts_1 s.vm h0 s.vm h1 := hR0.trans (CHr.ext E1 hC0)
 have F5_ : Fld Z h1 b1 "com/example/echoes_to_canon/echoestocanon/UrlKeys$Value" "text" "Ljava/lang/String;" .null := D1 (Or.inr (w116_ hw)) (ty := (.object "java/lang/String")) (by decide)
 have F6_ : Fld Z h1 b1 "com/example/echoes_to_canon/echoestocanon/UrlKeys$Value" "variable" "Ljava/lang/String;" .null := D1 (Or.inr (w118_ hw)) (ty := (.object "java/lang/String")) (by decide)
 have F7_ : Fld Z h1 b1 "com/example/echoes_to_canon/echoestocanon/UrlKeys$Value" "run" "Z" (.int 0) := D1 (Or.inr (w120_ hw)) (ty := .boolean) (by decide)
 have F8_ : Fld Z h1 b1 "com/example/echoes_to_canon/echoestocanon/UrlKeys$Value" "conversion" "Lcom/example/echoes_to_canon/echoestocanon/Conversion;" .null := D1 (Or.inr (w122_ hw)) (ty := (.object "com/example/echoes_to_canon/echoestocanon/Conversion")) (by decide)
 have hk10' : _ ≤ h1.size := (Nat.le_trans hk0 E1.1)
 obtain ⟨b9, T9, h9, k9, t9, c9, X9, e9, E9, hS9, hk9, hZ9, ho9, Ex9, Fc9, Fv9, Av9, lb9, lt9, CR9, -, sf9, st9⟩ := ldcCH (text := "name") (EL := consts_1) X1 hx hZ hown (w105_ hw) hwS e1 hS0 hk10' hEL (by decide) C3 (vs := [.int 110, .int 97, .int 109, .int 101]) (z := (4 : Int32)) ⟨by decide, by decide⟩ (by decide) (by decide) (g := (mkF m 6 #[rv qa1] [.ref qa1, .null, .ref b1, .ref b1])) rfl (hb hby d10_6) (n := 16) (by decide) (lE rfl) (lE rfl) (lE rfl)
 have K11 := K2.ext E9
 have R13 := R4.trans CR9
 replace X9 : Stand p l e (Rm 2 3 24 29) (s.setVm T9.vm) m #[.ref qa1] below meth c T9 _ 3 24 := X9
 have O15 := X00.ext E1
 have O16 := O15.ext E9
 obtain ⟨_, T14, L14, X14, hQ14, st14⟩ := own_cS 3 24 [.null, .ref b1, .ref b1] 8 #[rv qa1] X9 hx hZ9 ho9 (w106_ hw) (w107_ hw) (w108_ hw) (w109_ hw) (rm12 l Z a0 hw  qa1 b9 h9 n0 O16 ) pd11 hml.symm (hb hby d10_8) e9 rfl rfl rfl rfl (by decide)
 obtain ⟨rfl, N14q, e14q⟩ := hQ14
 have N14 := Fr.app N0 N14q
 have E18_ := E_qa1.ext E1
 have E19_ := E18_.ext E9
 obtain ⟨T17, X17, e17, st17⟩ := castY X14 hx hZ9 ho9 (w110_ hw) e14q (Ins.self E19_) (g := (mkF m 11 #[rv qa1] [.ref qa1, .null, .ref b1, .ref b1])) rfl rfl (hb hby d10_11)
 have E21_ := A1.ext E9
 have F22_ := F5_.ext E9
 have g_b1 : n0 ≤ b1 := Nat.le_trans (Nat.le_trans (Nat.le_of_eq X00.1.symm) X00.2.1) (Nat.le_of_eq g1.symm)
 have F23_ := F6_.ext E9
 have F24_ := F7_.ext E9
 have F25_ := F8_.ext E9
 obtain ⟨_, T20, L20, X20, hQ20, st20⟩ := own_cI 3 24 [.ref b1] 16 #[rv qa1] X17 hx hZ9 ho9 (w111_ hw) (w112_ hw) (w101_ hw) (w113_ hw) (rm13 l Z a0 hw  b1 qa1 h9 n0 O16 E21_ F22_ g_b1 F23_ F24_ F25_) pd12 hml.symm (hb hby d10_16) e17 rfl rfl rfl rfl rfl (by decide)
 obtain ⟨rfl, N20q, K20q, w26, w27, w28, w29, w30⟩ := hQ20
 have N20 := Fr.app N14 N20q
 have sz_b1 : h0.size ≤ b1 := (Nat.le_of_eq g1.symm)
 have K31 := K11.trans K20q (allS (Or.inr sz_b1) all0)
 have C32 : CHv Z consts_1 T9.vm T20.heap := CHv.keep K20q (sfS (Safe.exa hZ9.alike E21_ (by decide) (by decide)) sf0) CR9.1
 have R33 : CHr Z consts_1 s.vm h0 T9.vm T20.heap := R13.trans (CHr.keep K20q (sfS (Safe.exa hZ9.alike E21_ (by decide) (by decide)) sf0) CR9.1)
 have E34_ := E21_.keep K20q
 have hk35' : _ ≤ T20.heap.size := (Nat.le_trans hk9 K20q.1)
 refine own_lvW X20 Bd.notSynchronized hS9 hk35' (v := (some (.ref b1))) (fun h => by rw [Bd.returns] at h; cases h) rfl hh ⟨b1, rfl, N20, K31, sz_b1, E34_, w27, w28, w29, w30⟩ (R33.trans (CHv.at X20 hZ9 hEL C32)) (lE rfl) (lE rfl) (fun fs hr => pre0 _ (by
  show Sx p e below s₁ m 0 #[rv qa1] [] _
  refine st1 _ ?_
  refine XS.dup X1.here hx rfl (hb hby d10_3) rfl rfl ?_
  refine XS.aconstNull X1.here hx rfl (hb hby d10_4) ?_
  refine zb X1 Bd d10_5 rfl rfl ?_
  refine st9 _ ?_
  refine st14 _ ?_
  refine st17 _ ?_
  refine zc X17 Bd d10_14 ?_
  refine XS.aconstNull X17.here hx rfl (hb hby d10_15) ?_
  refine st20 _ ?_
  exact retOut X20 hx Bd.returns rfl (Or.inr (Or.inr (Or.inr (Or.inr ⟨rfl, rfl, rfl⟩)))) (hb hby d10_19) hr))
theorem pd13 : parseMethodDescriptor "(Ljava/lang/String;)Lcom/example/echoes_to_canon/echoestocanon/UrlKeys$Value;" = some ⟨[(.object "java/lang/String")], some (.object "com/example/echoes_to_canon/echoestocanon/UrlKeys$Value")⟩ := by decide +kernel
theorem d13_0 : decode prog_15_method_8_code 0 = .ok (.aload_n 0, 1) := by decide +kernel
theorem d13_1 : decode prog_15_method_8_code 1 = .ok (.getfield 15, 3) := by decide +kernel
theorem d13_4 : decode prog_15_method_8_code 4 = .ok (.ifnull 7, 3) := by decide +kernel
theorem d13_7 : decode prog_15_method_8_code 7 = .ok (.iconst 1, 1) := by decide +kernel
theorem d13_8 : decode prog_15_method_8_code 8 = .ok (.goto 4, 3) := by decide +kernel
theorem d13_12 : decode prog_15_method_8_code 12 = .ok (.ireturn, 1) := by decide +kernel
-- com/example/echoes_to_canon/echoestocanon/UrlKeys$Value.isVariable()Z
def Q15 (Z : State)  (h0 : Heap) (n0 : Nat) (v : Option Value) (h : Heap) (L : List Loc) : Prop := v = some (.int 1) ∧ Fr n0 L ∧ h = h0
theorem rm15 (l : Launch) (Z : State) (a0 : Array Value) (hw : HW a0 Z) (qa1 : Addr) (qa2 : Addr) (h0 : Heap) (n0 : Nat) (X00 : Old Z n0 h0) (F_qa1_variable : Fld Z h0 qa1 "com/example/echoes_to_canon/echoestocanon/UrlKeys$Value" "variable" "Ljava/lang/String;" (.ref qa2)) :
    MF l Z Y15_ prog_15_method_8_code 1 (some .boolean) (Rm 0 0 0 0) #[.ref qa1] h0 (Q15 Z  h0 n0) := by
 refine own_sF pn4 rfl (fun m => ef8 m qa1) ?_
 intro p e s m below meth c s₁ Bd hZ hh hx hby hml hown hnm X0 e0 pre0
 have N0 := Fr.nil n0
 obtain ⟨T1, X1, e1, st1⟩ := getF X0 hx hZ hown (host := "") (Or.inl (w117_ hw)) Via.refl e0 F_qa1_variable (g := (mkF m 1 #[rv qa1] [.ref qa1])) rfl rfl (hb hby d13_1)
 refine own_lvF X1 Bd (.int 1) e1 ⟨rfl, N0, rfl⟩ rfl (fun fs hr => pre0 _ (by
  show Sx p e below s₁ m 0 #[rv qa1] [] _
  refine zb X0 Bd d13_0 rfl rfl ?_
  refine st1 _ ?_
  refine XS.ifnullNo X1.here hx rfl (hb hby d13_4) rfl ?_
  refine zc X1 Bd d13_7 ?_
  refine zg (pc' := 12) X1 Bd d13_8 rfl ?_
  exact retN X1 hx (t := .boolean) Bd.returns (by simp) (hb hby d13_12) hr))
theorem pd14 : parseMethodDescriptor "()Z" = some ⟨[], some .boolean⟩ := by decide +kernel
theorem d14_0 : decode prog_15_method_9_code 0 = .ok (.aload_n 0, 1) := by decide +kernel
theorem d14_1 : decode prog_15_method_9_code 1 = .ok (.getfield 18, 3) := by decide +kernel
theorem d14_4 : decode prog_15_method_9_code 4 = .ok (.ireturn, 1) := by decide +kernel
-- com/example/echoes_to_canon/echoestocanon/UrlKeys$Value.isRun()Z
def Q16 (Z : State)  (h0 : Heap) (n0 : Nat) (v : Option Value) (h : Heap) (L : List Loc) : Prop := v = some (.int 1) ∧ Fr n0 L ∧ h = h0
theorem rm16 (l : Launch) (Z : State) (a0 : Array Value) (hw : HW a0 Z) (qa1 : Addr) (h0 : Heap) (n0 : Nat) (X00 : Old Z n0 h0) (F_qa1_run : Fld Z h0 qa1 "com/example/echoes_to_canon/echoestocanon/UrlKeys$Value" "run" "Z" (.int 1)) :
    MF l Z Y16_ prog_15_method_9_code 1 (some .boolean) (Rm 0 0 0 0) #[.ref qa1] h0 (Q16 Z  h0 n0) := by
 refine own_sF pn4 rfl (fun m => ef8 m qa1) ?_
 intro p e s m below meth c s₁ Bd hZ hh hx hby hml hown hnm X0 e0 pre0
 have N0 := Fr.nil n0
 obtain ⟨T1, X1, e1, st1⟩ := getF X0 hx hZ hown (host := "") (Or.inl (w119_ hw)) Via.refl e0 F_qa1_run (g := (mkF m 1 #[rv qa1] [.ref qa1])) rfl rfl (hb hby d14_1)
 refine own_lvF X1 Bd (.int 1) e1 ⟨rfl, N0, rfl⟩ rfl (fun fs hr => pre0 _ (by
  show Sx p e below s₁ m 0 #[rv qa1] [] _
  refine zb X0 Bd d14_0 rfl rfl ?_
  refine st1 _ ?_
  exact retN X1 hx (t := .boolean) Bd.returns (by simp) (hb hby d14_4) hr))
theorem d15_0 : decode prog_15_method_10_code 0 = .ok (.aload_n 0, 1) := by decide +kernel
theorem d15_1 : decode prog_15_method_10_code 1 = .ok (.getfield 9, 3) := by decide +kernel
theorem d15_4 : decode prog_15_method_10_code 4 = .ok (.areturn, 1) := by decide +kernel
-- com/example/echoes_to_canon/echoestocanon/UrlKeys$Value.getText()Ljava/lang/String;
def Q17 (Z : State)  (h0 : Heap) (n0 : Nat) (v : Option Value) (h : Heap) (L : List Loc) : Prop := v = some .null ∧ Fr n0 L ∧ h = h0
theorem rm17 (l : Launch) (Z : State) (a0 : Array Value) (hw : HW a0 Z) (qa1 : Addr) (h0 : Heap) (n0 : Nat) (X00 : Old Z n0 h0) (F_qa1_text : Fld Z h0 qa1 "com/example/echoes_to_canon/echoestocanon/UrlKeys$Value" "text" "Ljava/lang/String;" .null) :
    MF l Z Y17_ prog_15_method_10_code 1 (some (.object "java/lang/String")) (Rm 0 0 0 0) #[.ref qa1] h0 (Q17 Z  h0 n0) := by
 refine own_sF pn4 rfl (fun m => ef8 m qa1) ?_
 intro p e s m below meth c s₁ Bd hZ hh hx hby hml hown hnm X0 e0 pre0
 have N0 := Fr.nil n0
 obtain ⟨T1, X1, e1, st1⟩ := getF X0 hx hZ hown (host := "") (Or.inl (w115_ hw)) Via.refl e0 F_qa1_text (g := (mkF m 1 #[rv qa1] [.ref qa1])) rfl rfl (hb hby d15_1)
 refine own_lvF X1 Bd .null e1 ⟨rfl, N0, rfl⟩ rfl (fun fs hr => pre0 _ (by
  show Sx p e below s₁ m 0 #[rv qa1] [] _
  refine zb X0 Bd d15_0 rfl rfl ?_
  refine st1 _ ?_
  exact retOut X1 hx Bd.returns rfl (Or.inr (Or.inr (Or.inr (Or.inr ⟨rfl, rfl, rfl⟩)))) (hb hby d15_4) hr))
theorem pd15 : parseMethodDescriptor "()Ljava/lang/String;" = some ⟨[], some (.object "java/lang/String")⟩ := by decide +kernel
theorem d16_0 : decode prog_15_method_11_code 0 = .ok (.aload_n 0, 1) := by decide +kernel
theorem d16_1 : decode prog_15_method_11_code 1 = .ok (.getfield 15, 3) := by decide +kernel
theorem d16_4 : decode prog_15_method_11_code 4 = .ok (.areturn, 1) := by decide +kernel
-- com/example/echoes_to_canon/echoestocanon/UrlKeys$Value.getVariable()Ljava/lang/String;
def Q18 (Z : State) (qa2 : Addr) (h0 : Heap) (n0 : Nat) (v : Option Value) (h : Heap) (L : List Loc) : Prop := v = some (.ref qa2) ∧ Fr n0 L ∧ h = h0
theorem rm18 (l : Launch) (Z : State) (a0 : Array Value) (hw : HW a0 Z) (qa1 : Addr) (qa2 : Addr) (h0 : Heap) (n0 : Nat) (X00 : Old Z n0 h0) (F_qa1_variable : Fld Z h0 qa1 "com/example/echoes_to_canon/echoestocanon/UrlKeys$Value" "variable" "Ljava/lang/String;" (.ref qa2)) :
    MF l Z Y18_ prog_15_method_11_code 1 (some (.object "java/lang/String")) (Rm 0 0 0 0) #[.ref qa1] h0 (Q18 Z qa2 h0 n0) := by
 refine own_sF pn4 rfl (fun m => ef8 m qa1) ?_
 intro p e s m below meth c s₁ Bd hZ hh hx hby hml hown hnm X0 e0 pre0
 have N0 := Fr.nil n0
 obtain ⟨T1, X1, e1, st1⟩ := getF X0 hx hZ hown (host := "") (Or.inl (w117_ hw)) Via.refl e0 F_qa1_variable (g := (mkF m 1 #[rv qa1] [.ref qa1])) rfl rfl (hb hby d16_1)
 refine own_lvF X1 Bd (.ref qa2) e1 ⟨rfl, N0, rfl⟩ rfl (fun fs hr => pre0 _ (by
  show Sx p e below s₁ m 0 #[rv qa1] [] _
  refine zb X0 Bd d16_0 rfl rfl ?_
  refine st1 _ ?_
  exact retOut X1 hx Bd.returns rfl (Or.inr (Or.inr (Or.inr (Or.inr ⟨rfl, rfl, rfl⟩)))) (hb hby d16_4) hr))
theorem ef10 (m : MethodId) (x0 : Addr) (x1 : Addr) : entryFrame m #[.ref x0, .ref x1] 3 = mkF m 0 #[.val (.ref x0), .val (.ref x1), .unset] [] := by first | (simp [entryFrame, mkF, argsToLocals, Value.category]; done) | rfl
theorem d17_0 : decode jdk_42_method_66_code 0 = .ok (.aload_n 0, 1) := by decide +kernel
theorem d17_1 : decode jdk_42_method_66_code 1 = .ok (.aload_n 1, 1) := by decide +kernel
theorem d17_2 : decode jdk_42_method_66_code 2 = .ok (.if_acmp .ne 5, 3) := by decide +kernel
theorem d17_5 : decode jdk_42_method_66_code 5 = .ok (.iconst 1, 1) := by decide +kernel
theorem d17_6 : decode jdk_42_method_66_code 6 = .ok (.ireturn, 1) := by decide +kernel
-- java/lang/String.equals(Ljava/lang/Object;)Z
def Q19 (Z : State)  (h0 : Heap) (n0 : Nat) (v : Option Value) (h : Heap) (L : List Loc) : Prop := v = some (.int 1) ∧ Fr n0 L ∧ h = h0
theorem rm19 (l : Launch) (Z : State) (a0 : Array Value) (hw : HW a0 Z) (qa1 : Addr) (h0 : Heap) (n0 : Nat) (X00 : Old Z n0 h0)  :
    MF l Z Y19_ jdk_42_method_66_code 3 (some .boolean) (Rm 0 0 0 0) #[.ref qa1, .ref qa1] h0 (Q19 Z  h0 n0) := by
 refine own_sF pn1 rfl (fun m => ef10 m qa1 qa1) ?_
 intro p e s m below meth c s₁ Bd hZ hh hx hby hml hown hnm X0 e0 pre0
 have N0 := Fr.nil n0
 refine own_lvF X0 Bd (.int 1) e0 ⟨rfl, N0, rfl⟩ rfl (fun fs hr => pre0 _ (by
  show Sx p e below s₁ m 0 #[rv qa1, rv qa1, .unset] [] _
  refine zb X0 Bd d17_0 rfl rfl ?_
  refine zb X0 Bd d17_1 rfl rfl ?_
  refine Jvm.RoadKit.acmp (g := (mkF m 2 #[rv qa1, rv qa1, .unset] [.ref qa1, .ref qa1])) X0 hx rfl rfl rfl (pc0 := 2) (pc' := 5) (same := true) rfl (hb hby d17_2) rfl (decide_eq_true rfl) (by decide) (by decide) ?_
  refine zc X0 Bd d17_5 ?_
  exact retN X0 hx (t := .boolean) Bd.returns (by simp) (hb hby d17_6) hr))
theorem pd16 : parseMethodDescriptor "(Ljava/lang/Object;)Z" = some ⟨[(.object "java/lang/Object")], some .boolean⟩ := by decide +kernel
theorem d18_0 : decode prog_15_method_12_code 0 = .ok (.aload_n 0, 1) := by decide +kernel
theorem d18_1 : decode prog_15_method_12_code 1 = .ok (.getfield 22, 3) := by decide +kernel
theorem d18_4 : decode prog_15_method_12_code 4 = .ok (.areturn, 1) := by decide +kernel
-- com/example/echoes_to_canon/echoestocanon/UrlKeys$Value.getConversion()Lcom/example/echoes_to_canon/echoestocanon/Conversion;
def Q20 (Z : State)  (h0 : Heap) (n0 : Nat) (v : Option Value) (h : Heap) (L : List Loc) : Prop := v = some .null ∧ Fr n0 L ∧ h = h0
theorem rm20 (l : Launch) (Z : State) (a0 : Array Value) (hw : HW a0 Z) (qa1 : Addr) (h0 : Heap) (n0 : Nat) (X00 : Old Z n0 h0) (F_qa1_conversion : Fld Z h0 qa1 "com/example/echoes_to_canon/echoestocanon/UrlKeys$Value" "conversion" "Lcom/example/echoes_to_canon/echoestocanon/Conversion;" .null) :
    MF l Z Y20_ prog_15_method_12_code 1 (some (.object "com/example/echoes_to_canon/echoestocanon/Conversion")) (Rm 0 0 0 0) #[.ref qa1] h0 (Q20 Z  h0 n0) := by
 refine own_sF pn4 rfl (fun m => ef8 m qa1) ?_
 intro p e s m below meth c s₁ Bd hZ hh hx hby hml hown hnm X0 e0 pre0
 have N0 := Fr.nil n0
 obtain ⟨T1, X1, e1, st1⟩ := getF X0 hx hZ hown (host := "") (Or.inl (w121_ hw)) Via.refl e0 F_qa1_conversion (g := (mkF m 1 #[rv qa1] [.ref qa1])) rfl rfl (hb hby d18_1)
 refine own_lvF X1 Bd .null e1 ⟨rfl, N0, rfl⟩ rfl (fun fs hr => pre0 _ (by
  show Sx p e below s₁ m 0 #[rv qa1] [] _
  refine zb X0 Bd d18_0 rfl rfl ?_
  refine st1 _ ?_
  exact retOut X1 hx Bd.returns rfl (Or.inr (Or.inr (Or.inr (Or.inr ⟨rfl, rfl, rfl⟩)))) (hb hby d18_4) hr))
theorem pd17 : parseMethodDescriptor "()Lcom/example/echoes_to_canon/echoestocanon/Conversion;" = some ⟨[], some (.object "com/example/echoes_to_canon/echoestocanon/Conversion")⟩ := by decide +kernel
theorem d19_0 : decode prog_15_method_18_code 0 = .ok (.aload_n 0, 1) := by decide +kernel
theorem d19_1 : decode prog_15_method_18_code 1 = .ok (.getfield 15, 3) := by decide +kernel
theorem d19_4 : decode prog_15_method_18_code 4 = .ok (.ifnonnull 8, 3) := by decide +kernel
theorem d19_12 : decode prog_15_method_18_code 12 = .ok (.aload_n 0, 1) := by decide +kernel
theorem d19_13 : decode prog_15_method_18_code 13 = .ok (.getfield 18, 3) := by decide +kernel
theorem d19_16 : decode prog_15_method_18_code 16 = .ok (.ifCond .eq 31, 3) := by decide +kernel
theorem d19_19 : decode prog_15_method_18_code 19 = .ok (.new 98, 3) := by decide +kernel
theorem d19_22 : decode prog_15_method_18_code 22 = .ok (.dup, 1) := by decide +kernel
theorem d19_23 : decode prog_15_method_18_code 23 = .ok (.invokespecial 100, 3) := by decide +kernel
theorem pn6 : plainName "java/lang/StringBuilder" = true := by first | (simp [plainName, overriddenIn]; done) | decide +kernel
theorem d20_0 : decode jdk_67_method_1_code 0 = .ok (.aload_n 0, 1) := by decide +kernel
theorem d20_1 : decode jdk_67_method_1_code 1 = .ok (.bipush 16, 2) := by decide +kernel
theorem d20_3 : decode jdk_67_method_1_code 3 = .ok (.invokespecial 1, 3) := by decide +kernel
theorem ef11 (m : MethodId) (x0 : Addr) (x1 : Int32) : entryFrame m #[.ref x0, .int x1] 2 = mkF m 0 #[.val (.ref x0), .val (.int x1)] [] := by first | (simp [entryFrame, mkF, argsToLocals, Value.category]; done) | rfl
theorem pn7 : plainName "java/lang/AbstractStringBuilder" = true := by first | (simp [plainName, overriddenIn]; done) | decide +kernel
theorem d21_0 : decode jdk_68_method_2_code 0 = .ok (.aload_n 0, 1) := by decide +kernel
theorem d21_1 : decode jdk_68_method_2_code 1 = .ok (.invokespecial 3, 3) := by decide +kernel
theorem d21_4 : decode jdk_68_method_2_code 4 = .ok (.getstatic 18, 3) := by decide +kernel
theorem d21_7 : decode jdk_68_method_2_code 7 = .ok (.ifCond .eq 18, 3) := by decide +kernel
theorem d21_10 : decode jdk_68_method_2_code 10 = .ok (.aload_n 0, 1) := by decide +kernel
theorem d21_11 : decode jdk_68_method_2_code 11 = .ok (.iload_n 1, 1) := by decide +kernel
theorem d21_12 : decode jdk_68_method_2_code 12 = .ok (.newarray .byte, 2) := by decide +kernel
theorem d21_14 : decode jdk_68_method_2_code 14 = .ok (.putfield 15, 3) := by decide +kernel
theorem d21_17 : decode jdk_68_method_2_code 17 = .ok (.aload_n 0, 1) := by decide +kernel
theorem d21_18 : decode jdk_68_method_2_code 18 = .ok (.iconst 0, 1) := by decide +kernel
theorem d21_19 : decode jdk_68_method_2_code 19 = .ok (.putfield 22, 3) := by decide +kernel
theorem d21_22 : decode jdk_68_method_2_code 22 = .ok (.goto 16, 3) := by decide +kernel
theorem d21_38 : decode jdk_68_method_2_code 38 = .ok (.return_, 1) := by decide +kernel
-- java/lang/AbstractStringBuilder.<init>(I)V
def Q21 (Z : State) (qa1 : Addr) (h0 : Heap) (n0 : Nat) (v : Option Value) (h : Heap) (L : List Loc) : Prop := ∃ b3 : Addr, ∃ c3 : ClassId, v = none ∧ Fr n0 L ∧ Keep h0 h [qa1] ∧ h0.size ≤ b3 ∧ Exa Z h qa1 "java/lang/StringBuilder" ∧ Fld Z h qa1 "java/lang/AbstractStringBuilder" "value" "[B" (.ref b3) ∧ Fld Z h qa1 "java/lang/AbstractStringBuilder" "coder" "B" (.int 0) ∧ Fld Z h qa1 "java/lang/AbstractStringBuilder" "count" "I" (.int 0) ∧ Arv Z h b3 c3 .byte (16 : Int32) [.int 0, .int 0, .int 0, .int 0, .int 0, .int 0, .int 0, .int 0, .int 0, .int 0, .int 0, .int 0, .int 0, .int 0, .int 0, .int 0] (.int 0)
theorem rm21 (l : Launch) (Z : State) (a0 : Array Value) (hw : HW a0 Z) (G1 : Int32) (qa1 : Addr) (h0 : Heap) (n0 : Nat) (X00 : Old Z n0 h0) (O2 : Sta Z Z.heap "java/lang/String" "COMPACT_STRINGS" "Z" (.int G1)) (P5 : ¬ (G1 = (0 : Int32))) (E_qa1 : Exa Z h0 qa1 "java/lang/StringBuilder") (F_qa1_value : Fld Z h0 qa1 "java/lang/AbstractStringBuilder" "value" "[B" .null) (g_qa1 : n0 ≤ qa1) (F_qa1_coder : Fld Z h0 qa1 "java/lang/AbstractStringBuilder" "coder" "B" (.int 0)) (F_qa1_count : Fld Z h0 qa1 "java/lang/AbstractStringBuilder" "count" "I" (.int 0)) :
    MF l Z Y21_ jdk_68_method_2_code 2 none (Rm 1 1 16 12) #[.ref qa1, .int 16] h0 (Q21 Z qa1 h0 n0) := by
 refine own_sF pn7 rfl (fun m => ef11 m qa1 (16 : Int32)) ?_
 intro p e s m below meth c s₁ Bd hZ hh hx hby hml hown hnm X0 e0 pre0
 have N0 := Fr.nil n0
 obtain ⟨T1, X1, e1, st1⟩ := initO X0 hx hZ hown (w170_ hw) (w16_ hw) (w17_ hw) e0 (g := (mkF m 1 #[rv qa1, iv 16] [.ref qa1])) rfl hml.symm rfl (hb hby d21_1) (by decide) (W := 0) (own_hw rfl) (lE rfl)
 obtain ⟨T2, X2, e2, st2⟩ := getS2 X1 hx hZ hown (host := "") (Or.inl (w171_ hw)) Via.refl e1 (O2.ext X00.2) (g := (mkF m 4 #[rv qa1, iv 16] [])) rfl (hb hby d21_4)
 obtain ⟨T3, h3, c3, X3, e3, E3, A3, st3⟩ := newP (aty := .byte) X2 hx hZ (w19_ hw) e2 (g := (mkF m 12 #[rv qa1, iv 16] [.int 16, .ref qa1])) rfl (hb hby d21_12) rfl (by decide) (cap := 16) (by decide) (lE rfl) (lE rfl) (lE rfl)
 obtain ⟨b3, g3⟩ : ∃ z, z = h0.size := ⟨_, rfl⟩
 rw [← g3] at A3 st3
 replace X3 : Stand p l e (Rm 1 1 16 12) s m #[.ref qa1, .int 16] below meth c T3 _ 1 16 := X3
 have K4 := (Keep.refl h0 [qa1]).ext E3
 have A5_ : Arv Z h3 b3 c3 .byte (16 : Int32) [.int 0, .int 0, .int 0, .int 0, .int 0, .int 0, .int 0, .int 0, .int 0, .int 0, .int 0, .int 0, .int 0, .int 0, .int 0, .int 0] (.int 0) := (Arv.new A3 (by decide)).pad (pad_rep [] (.int 0) 16)
 have F6_ := F_qa1_value.ext E3
 have E7_ := E_qa1.ext E3
 obtain ⟨T8, h8, X8, e8, W8, st8⟩ := putF X3 hx hZ hown (host := "") (Or.inl (w172_ hw)) Via.refl e3 F6_ E7_ (Or.inl (w173_ hw)) (w159_ hw) (ty := (.array .byte)) (by decide) rfl rfl (g := (mkF m 14 #[rv qa1, iv 16] [.ref b3, .ref qa1])) rfl rfl (hb hby d21_14)
 have N8 := Fr.snoc X8 N0 g_qa1
 have K9 := K4.wr W8 (Or.inl (mI 0 rfl))
 have F10_ : Fld Z h8 qa1 "java/lang/AbstractStringBuilder" "value" "[B" (.ref b3) := F6_.same W8
 have F11_ := F_qa1_coder.ext E3
 have F12_ := F11_.other W8 (Or.inr (slot_ne (Or.inl (w175_ hw)) (Or.inl (w173_ hw)) (by decide) (t := .byte) (t' := (.array .byte)) (by decide) (by decide)))
 have E13_ := E7_.wr W8
 obtain ⟨T14, h14, X14, e14, W14, st14⟩ := putF X8 hx hZ hown (host := "") (Or.inl (w174_ hw)) Via.refl e8 F12_ E13_ (Or.inl (w175_ hw)) (w159_ hw) (ty := .byte) (by decide) rfl rfl (g := (mkF m 19 #[rv qa1, iv 16] [.int 0, .ref qa1])) rfl rfl (hb hby d21_19)
 have N14 := Fr.snoc X14 N8 g_qa1
 have K15 := K9.wr W14 (Or.inl (mI 0 rfl))
 have F16_ : Fld Z h14 qa1 "java/lang/AbstractStringBuilder" "coder" "B" (.int 0) := F12_.same W14
 have sz_b3 : h0.size ≤ b3 := (Nat.le_of_eq g3.symm)
 have E17_ := E13_.wr W14
 have F18_ := F10_.other W14 (Or.inr (slot_ne (Or.inl (w173_ hw)) (Or.inl (w175_ hw)) (by decide) (t := (.array .byte)) (t' := .byte) (by decide) (by decide)))
 have F19_ := F_qa1_count.ext E3
 have F20_ := F19_.other W8 (Or.inr (slot_ne (Or.inl (w189_ hw)) (Or.inl (w173_ hw)) (by decide) (t := .int) (t' := (.array .byte)) (by decide) (by decide)))
 have F21_ := F20_.other W14 (Or.inr (slot_ne (Or.inl (w189_ hw)) (Or.inl (w175_ hw)) (by decide) (t := .int) (t' := .byte) (by decide) (by decide)))
 have A22_ := A5_.other W8 (Ne.symm (Nat.ne_of_lt (Nat.lt_of_lt_of_le E_qa1.lt (Nat.le_of_eq g3.symm))))
 have A23_ := A22_.other W14 (Ne.symm (Nat.ne_of_lt (Nat.lt_of_lt_of_le E_qa1.lt (Nat.le_of_eq g3.symm))))
 refine own_lvN X14 Bd e14 ⟨b3, c3, rfl, N14, K15, sz_b3, E17_, F18_, F16_, F21_, A23_⟩ rfl (fun fs hr => pre0 _ (by
  show Sx p e below s₁ m 0 #[rv qa1, iv 16] [] _
  refine zb X0 Bd d21_0 rfl rfl ?_
  refine st1 _ ?_
  refine st2 _ ?_
  refine zo X2 Bd d21_7 (XT.i0_eq_f (P5 : ¬ (G1 = (0 : Int32)))) ?_
  refine zb X2 Bd d21_10 rfl rfl ?_
  refine zj X2 Bd d21_11 rfl ?_
  refine st3 _ ?_
  refine st8 _ ?_
  refine zb X8 Bd d21_17 rfl rfl ?_
  refine zc X8 Bd d21_18 ?_
  refine st14 _ ?_
  refine zg (pc' := 38) X14 Bd d21_22 rfl ?_
  exact X14.returnOut hx Bd.returns (hb hby d21_38) hr))
theorem pd18 : parseMethodDescriptor "(I)V" = some ⟨[.int], none⟩ := by decide +kernel
theorem d20_6 : decode jdk_67_method_1_code 6 = .ok (.return_, 1) := by decide +kernel
-- java/lang/StringBuilder.<init>()V
def Q22 (Z : State) (qa1 : Addr) (h0 : Heap) (n0 : Nat) (v : Option Value) (h : Heap) (L : List Loc) : Prop := ∃ b2 : Addr, ∃ c3_ : ClassId, v = none ∧ Fr n0 L ∧ Keep h0 h [qa1] ∧ h0.size ≤ b2 ∧ Exa Z h qa1 "java/lang/StringBuilder" ∧ Fld Z h qa1 "java/lang/AbstractStringBuilder" "value" "[B" (.ref b2) ∧ Fld Z h qa1 "java/lang/AbstractStringBuilder" "coder" "B" (.int 0) ∧ Fld Z h qa1 "java/lang/AbstractStringBuilder" "count" "I" (.int 0) ∧ Arv Z h b2 c3_ .byte (16 : Int32) [.int 0, .int 0, .int 0, .int 0, .int 0, .int 0, .int 0, .int 0, .int 0, .int 0, .int 0, .int 0, .int 0, .int 0, .int 0, .int 0] (.int 0)
theorem rm22 (l : Launch) (Z : State) (a0 : Array Value) (hw : HW a0 Z) (G1 : Int32) (qa1 : Addr) (h0 : Heap) (n0 : Nat) (X00 : Old Z n0 h0) (O2 : Sta Z Z.heap "java/lang/String" "COMPACT_STRINGS" "Z" (.int G1)) (P5 : ¬ (G1 = (0 : Int32))) (E_qa1 : Exa Z h0 qa1 "java/lang/StringBuilder") (F_qa1_value : Fld Z h0 qa1 "java/lang/AbstractStringBuilder" "value" "[B" .null) (g_qa1 : n0 ≤ qa1) (F_qa1_coder : Fld Z h0 qa1 "java/lang/AbstractStringBuilder" "coder" "B" (.int 0)) (F_qa1_count : Fld Z h0 qa1 "java/lang/AbstractStringBuilder" "count" "I" (.int 0)) :
    MF l Z Y22_ jdk_67_method_1_code 1 none (Rm 2 1 16 25) #[.ref qa1] h0 (Q22 Z qa1 h0 n0) := by
 refine own_sF pn6 rfl (fun m => ef8 m qa1) ?_
 intro p e s m below meth c s₁ Bd hZ hh hx hby hml hown hnm X0 e0 pre0
 have N0 := Fr.nil n0
 obtain ⟨_, T1, L1, X1, hQ1, st1⟩ := own_cI 1 16 [] 3 #[rv qa1] X0 hx hZ hown (w164_ hw) (w165_ hw) (w168_ hw) (w169_ hw) (rm21 l Z a0 hw G1 qa1 h0 n0 X00 O2 P5 E_qa1 F_qa1_value g_qa1 F_qa1_coder F_qa1_count) pd18 hml.symm (hb hby d20_3) e0 rfl rfl rfl rfl rfl (by decide)
 obtain ⟨b2, c3_, rfl, N1q, K1q, w4, w5, w6, w7, w8, w9⟩ := hQ1
 have N1 := Fr.app N0 N1q
 have K10 := (Keep.refl h0 [qa1]).trans K1q (allS (Or.inl (mI 0 rfl)) all0)
 have sz_b2 : h0.size ≤ b2 := w4
 have E11_ := E_qa1.keep K1q
 refine own_lvN X1 Bd rfl ⟨b2, c3_, rfl, N1, K10, sz_b2, E11_, w6, w7, w8, w9⟩ rfl (fun fs hr => pre0 _ (by
  show Sx p e below s₁ m 0 #[rv qa1] [] _
  refine zb X0 Bd d20_0 rfl rfl ?_
  refine zd X0 Bd d20_1 ?_
  refine st1 _ ?_
  exact X1.returnOut hx Bd.returns (hb hby d20_6) hr))
theorem pd19 : parseMethodDescriptor "()V" = some ⟨[], none⟩ := by decide +kernel
theorem d19_26 : decode prog_15_method_18_code 26 = .ok (.ldc 101, 2) := by decide +kernel
theorem d19_28 : decode prog_15_method_18_code 28 = .ok (.invokevirtual 103, 3) := by decide +kernel
theorem d22_0 : decode jdk_67_method_7_code 0 = .ok (.aload_n 0, 1) := by decide +kernel
theorem d22_1 : decode jdk_67_method_7_code 1 = .ok (.aload_n 1, 1) := by decide +kernel
theorem d22_2 : decode jdk_67_method_7_code 2 = .ok (.invokespecial 29, 3) := by decide +kernel
theorem d23_0 : decode jdk_68_method_22_code 0 = .ok (.aload_n 1, 1) := by decide +kernel
theorem d23_1 : decode jdk_68_method_22_code 1 = .ok (.ifnonnull 8, 3) := by decide +kernel
theorem d23_9 : decode jdk_68_method_22_code 9 = .ok (.aload_n 1, 1) := by decide +kernel
theorem d23_10 : decode jdk_68_method_22_code 10 = .ok (.invokevirtual 32, 3) := by decide +kernel
theorem d23_13 : decode jdk_68_method_22_code 13 = .ok (.istore_n 2, 1) := by decide +kernel
theorem d23_14 : decode jdk_68_method_22_code 14 = .ok (.aload_n 0, 1) := by decide +kernel
theorem d23_15 : decode jdk_68_method_22_code 15 = .ok (.aload_n 0, 1) := by decide +kernel
theorem d23_16 : decode jdk_68_method_22_code 16 = .ok (.getfield 79, 3) := by decide +kernel
theorem d23_19 : decode jdk_68_method_22_code 19 = .ok (.iload_n 2, 1) := by decide +kernel
theorem d23_20 : decode jdk_68_method_22_code 20 = .ok (.iadd, 1) := by decide +kernel
theorem d23_21 : decode jdk_68_method_22_code 21 = .ok (.invokevirtual 100, 3) := by decide +kernel
theorem ef12 (m : MethodId) (x0 : Addr) (x1 : Int32) : entryFrame m #[.ref x0, .int x1] 3 = mkF m 0 #[.val (.ref x0), .val (.int x1), .unset] [] := by first | (simp [entryFrame, mkF, argsToLocals, Value.category]; done) | rfl
theorem d24_0 : decode jdk_68_method_9_code 0 = .ok (.aload_n 0, 1) := by decide +kernel
theorem d24_1 : decode jdk_68_method_9_code 1 = .ok (.getfield 15, 3) := by decide +kernel
theorem d24_4 : decode jdk_68_method_9_code 4 = .ok (.arraylength, 1) := by decide +kernel
theorem d24_5 : decode jdk_68_method_9_code 5 = .ok (.aload_n 0, 1) := by decide +kernel
theorem d24_6 : decode jdk_68_method_9_code 6 = .ok (.getfield 22, 3) := by decide +kernel
theorem d24_9 : decode jdk_68_method_9_code 9 = .ok (.ishr, 1) := by decide +kernel
theorem d24_10 : decode jdk_68_method_9_code 10 = .ok (.istore_n 2, 1) := by decide +kernel
theorem d24_11 : decode jdk_68_method_9_code 11 = .ok (.iload_n 1, 1) := by decide +kernel
theorem d24_12 : decode jdk_68_method_9_code 12 = .ok (.iload_n 2, 1) := by decide +kernel
theorem d24_13 : decode jdk_68_method_9_code 13 = .ok (.isub, 1) := by decide +kernel
theorem d24_14 : decode jdk_68_method_9_code 14 = .ok (.ifCond .le 24, 3) := by decide +kernel
theorem d24_38 : decode jdk_68_method_9_code 38 = .ok (.return_, 1) := by decide +kernel
-- java/lang/AbstractStringBuilder.ensureCapacityInternal(I)V
def Q23 (Z : State)  (h0 : Heap) (n0 : Nat) (v : Option Value) (h : Heap) (L : List Loc) : Prop := v = none ∧ Fr n0 L ∧ h = h0
theorem rm23 (l : Launch) (Z : State) (a0 : Array Value) (hw : HW a0 Z) (qa1 : Addr) (qa2 : Addr) (qk3 : ClassId) (h0 : Heap) (n0 : Nat) (X00 : Old Z n0 h0) (F_qa1_value : Fld Z h0 qa1 "java/lang/AbstractStringBuilder" "value" "[B" (.ref qa2)) (A_qa2 : Arv Z h0 qa2 qk3 .byte (16 : Int32) [.int 0, .int 0, .int 0, .int 0, .int 0, .int 0, .int 0, .int 0, .int 0, .int 0, .int 0, .int 0, .int 0, .int 0, .int 0, .int 0] (.int 0)) (F_qa1_coder : Fld Z h0 qa1 "java/lang/AbstractStringBuilder" "coder" "B" (.int 0)) :
    MF l Z Y23_ jdk_68_method_9_code 3 none (Rm 0 0 0 0) #[.ref qa1, .int 1] h0 (Q23 Z  h0 n0) := by
 refine own_sF pn7 rfl (fun m => ef12 m qa1 (1 : Int32)) ?_
 intro p e s m below meth c s₁ Bd hZ hh hx hby hml hown hnm X0 e0 pre0
 have N0 := Fr.nil n0
 obtain ⟨T1, X1, e1, st1⟩ := getF X0 hx hZ hown (host := "") (Or.inl (w172_ hw)) Via.refl e0 F_qa1_value (g := (mkF m 1 #[rv qa1, iv 1, .unset] [.ref qa1])) rfl rfl (hb hby d24_1)
 have av2 := A_qa2
 obtain ⟨cl2, Ar2, q2, S2, N2, H2, Gf2⟩ := av2
 obtain ⟨T3, X3, e3, st3⟩ := getF X1 hx hZ hown (host := "") (Or.inl (w174_ hw)) Via.refl e1 F_qa1_coder (g := (mkF m 6 #[rv qa1, iv 1, .unset] [.ref qa1, .int 16])) rfl rfl (hb hby d24_6)
 refine own_lvN X3 Bd e3 ⟨rfl, N0, rfl⟩ rfl (fun fs hr => pre0 _ (by
  show Sx p e below s₁ m 0 #[rv qa1, iv 1, .unset] [] _
  refine zb X0 Bd d24_0 rfl rfl ?_
  refine st1 _ ?_
  refine X1.arraylength hx (by rw [e1]; exact Ar2.1) (State.isArrayOf_alike hZ.alike Ar2.2.1) (g := (mkF m 4 #[rv qa1, iv 1, .unset] [.ref qa2])) rfl rfl (hb hby d24_4) _ ?_
  rw [len_of S2 N2]
  refine zb X1 Bd d24_5 rfl rfl ?_
  refine st3 _ ?_
  refine XS.ishr X3.here hx rfl (hb hby d24_9) rfl ?_
  refine zt X3 Bd d24_10 (l' := #[rv qa1, iv 1, iv 16]) rfl ?_
  refine zj X3 Bd d24_11 rfl ?_
  refine zj X3 Bd d24_12 rfl ?_
  refine XS.isub X3.here hx rfl (hb hby d24_13) rfl ?_
  refine zp (pc' := 38) X3 Bd d24_14 (XT.i0_le_t ((by decide) : ¬ ((0 : Int32) < (-15 : Int32)))) rfl ?_
  exact X3.returnOut hx Bd.returns (hb hby d24_38) hr))
theorem d23_24 : decode jdk_68_method_22_code 24 = .ok (.aload_n 0, 1) := by decide +kernel
theorem d23_25 : decode jdk_68_method_22_code 25 = .ok (.aload_n 0, 1) := by decide +kernel
theorem d23_26 : decode jdk_68_method_22_code 26 = .ok (.getfield 79, 3) := by decide +kernel
theorem d23_29 : decode jdk_68_method_22_code 29 = .ok (.aload_n 1, 1) := by decide +kernel
theorem d23_30 : decode jdk_68_method_22_code 30 = .ok (.invokevirtual 208, 3) := by decide +kernel
theorem ef13 (m : MethodId) (x0 : Addr) (x1 : Int32) (x2 : Addr) : entryFrame m #[.ref x0, .int x1, .ref x2] 3 = mkF m 0 #[.val (.ref x0), .val (.int x1), .val (.ref x2)] [] := by first | (simp [entryFrame, mkF, argsToLocals, Value.category]; done) | rfl
theorem d25_0 : decode jdk_68_method_73_code 0 = .ok (.aload_n 0, 1) := by decide +kernel
theorem d25_1 : decode jdk_68_method_73_code 1 = .ok (.aload_n 2, 1) := by decide +kernel
theorem d25_2 : decode jdk_68_method_73_code 2 = .ok (.invokevirtual 397, 3) := by decide +kernel
theorem d26_0 : decode jdk_68_method_71_code 0 = .ok (.getstatic 18, 3) := by decide +kernel
theorem d26_3 : decode jdk_68_method_71_code 3 = .ok (.ifCond .eq 18, 3) := by decide +kernel
theorem d26_6 : decode jdk_68_method_71_code 6 = .ok (.aload_n 0, 1) := by decide +kernel
theorem d26_7 : decode jdk_68_method_71_code 7 = .ok (.getfield 22, 3) := by decide +kernel
theorem d26_10 : decode jdk_68_method_71_code 10 = .ok (.aload_n 1, 1) := by decide +kernel
theorem d26_11 : decode jdk_68_method_71_code 11 = .ok (.invokevirtual 40, 3) := by decide +kernel
theorem d27_0 : decode jdk_42_method_152_code 0 = .ok (.getstatic 38, 3) := by decide +kernel
theorem d27_3 : decode jdk_42_method_152_code 3 = .ok (.ifCond .eq 10, 3) := by decide +kernel
theorem d27_6 : decode jdk_42_method_152_code 6 = .ok (.aload_n 0, 1) := by decide +kernel
theorem d27_7 : decode jdk_42_method_152_code 7 = .ok (.getfield 15, 3) := by decide +kernel
theorem d27_10 : decode jdk_42_method_152_code 10 = .ok (.goto 4, 3) := by decide +kernel
theorem d27_14 : decode jdk_42_method_152_code 14 = .ok (.ireturn, 1) := by decide +kernel
-- java/lang/String.coder()B
def Q24 (Z : State)  (h0 : Heap) (n0 : Nat) (v : Option Value) (h : Heap) (L : List Loc) : Prop := v = some (.int 0) ∧ Fr n0 L ∧ h = h0
theorem rm24 (l : Launch) (Z : State) (a0 : Array Value) (hw : HW a0 Z) (G1 : Int32) (qa1 : Addr) (h0 : Heap) (n0 : Nat) (X00 : Old Z n0 h0) (O2 : Sta Z Z.heap "java/lang/String" "COMPACT_STRINGS" "Z" (.int G1)) (P5 : ¬ (G1 = (0 : Int32))) (F_qa1_coder : Fld Z h0 qa1 "java/lang/String" "coder" "B" (.int 0)) :
    MF l Z Y24_ jdk_42_method_152_code 1 (some .byte) (Rm 0 0 0 0) #[.ref qa1] h0 (Q24 Z  h0 n0) := by
 refine own_sF pn1 rfl (fun m => ef8 m qa1) ?_
 intro p e s m below meth c s₁ Bd hZ hh hx hby hml hown hnm X0 e0 pre0
 have N0 := Fr.nil n0
 obtain ⟨T1, X1, e1, st1⟩ := getS2 X0 hx hZ hown (host := "") (Or.inl (w29_ hw)) Via.refl e0 (O2.ext X00.2) (g := (mkF m 0 #[rv qa1] [])) rfl (hb hby d27_0)
 obtain ⟨T2, X2, e2, st2⟩ := getF X1 hx hZ hown (host := "") (Or.inl (w25_ hw)) Via.refl e1 F_qa1_coder (g := (mkF m 7 #[rv qa1] [.ref qa1])) rfl rfl (hb hby d27_7)
 refine own_lvF X2 Bd (.int 0) e2 ⟨rfl, N0, rfl⟩ rfl (fun fs hr => pre0 _ (by
  show Sx p e below s₁ m 0 #[rv qa1] [] _
  refine st1 _ ?_
  refine zo X1 Bd d27_3 (XT.i0_eq_f (P5 : ¬ (G1 = (0 : Int32)))) ?_
  refine zb X1 Bd d27_6 rfl rfl ?_
  refine st2 _ ?_
  refine zg (pc' := 14) X2 Bd d27_10 rfl ?_
  exact retN X2 hx (t := .byte) Bd.returns (by simp) (hb hby d27_14) hr))
theorem pd20 : parseMethodDescriptor "()B" = some ⟨[], some .byte⟩ := by decide +kernel
theorem d26_14 : decode jdk_68_method_71_code 14 = .ok (.if_icmp .eq 7, 3) := by decide +kernel
theorem d26_21 : decode jdk_68_method_71_code 21 = .ok (.return_, 1) := by decide +kernel
-- java/lang/AbstractStringBuilder.inflateIfNeededFor(Ljava/lang/String;)V
def Q25 (Z : State)  (h0 : Heap) (n0 : Nat) (v : Option Value) (h : Heap) (L : List Loc) : Prop := v = none ∧ Fr n0 L ∧ h = h0
theorem rm25 (l : Launch) (Z : State) (a0 : Array Value) (hw : HW a0 Z) (G1 : Int32) (qa1 : Addr) (qa2 : Addr) (h0 : Heap) (n0 : Nat) (X00 : Old Z n0 h0) (O2 : Sta Z Z.heap "java/lang/String" "COMPACT_STRINGS" "Z" (.int G1)) (P5 : ¬ (G1 = (0 : Int32))) (F_qa1_coder : Fld Z h0 qa1 "java/lang/AbstractStringBuilder" "coder" "B" (.int 0)) (E_qa2 : Exa Z h0 qa2 "java/lang/String") (F_qa2_coder : Fld Z h0 qa2 "java/lang/String" "coder" "B" (.int 0)) :
    MF l Z Y25_ jdk_68_method_71_code 2 none (Rm 1 0 0 13) #[.ref qa1, .ref qa2] h0 (Q25 Z  h0 n0) := by
 refine own_sF pn7 rfl (fun m => ef2 m qa1 qa2) ?_
 intro p e s m below meth c s₁ Bd hZ hh hx hby hml hown hnm X0 e0 pre0
 have N0 := Fr.nil n0
 obtain ⟨T1, X1, e1, st1⟩ := getS2 X0 hx hZ hown (host := "") (Or.inl (w171_ hw)) Via.refl e0 (O2.ext X00.2) (g := (mkF m 0 #[rv qa1, rv qa2] [])) rfl (hb hby d26_0)
 obtain ⟨T2, X2, e2, st2⟩ := getF X1 hx hZ hown (host := "") (Or.inl (w174_ hw)) Via.refl e1 F_qa1_coder (g := (mkF m 7 #[rv qa1, rv qa2] [.ref qa1])) rfl rfl (hb hby d26_7)
 obtain ⟨_, T3, L3, X3, hQ3, st3⟩ := own_cV 0 0 [.int 0] 11 #[rv qa1, rv qa2] X2 hx hZ hown E_qa2 (w205_ hw) (w64_ hw) (notFace_of_selects (args := #[]) (mvT hZ (w66_ hw))) (w66_ hw) (w65_ hw) (w6_ hw) (w67_ hw) (rm24 l Z a0 hw G1 qa2 h0 n0 X00 O2 P5 F_qa2_coder) pd20 hml.symm (hb hby d26_11) e2 rfl rfl rfl rfl (by decide)
 obtain ⟨rfl, N3q, e3q⟩ := hQ3
 have N3 := Fr.app N0 N3q
 refine own_lvN X3 Bd e3q ⟨rfl, N3, rfl⟩ rfl (fun fs hr => pre0 _ (by
  show Sx p e below s₁ m 0 #[rv qa1, rv qa2] [] _
  refine st1 _ ?_
  refine zo X1 Bd d26_3 (XT.i0_eq_f (P5 : ¬ (G1 = (0 : Int32)))) ?_
  refine zb X1 Bd d26_6 rfl rfl ?_
  refine st2 _ ?_
  refine zb X2 Bd d26_10 rfl rfl ?_
  refine st3 _ ?_
  refine zy (pc' := 21) X3 Bd d26_14 (XT.ii_eq_t ((by decide) : (0 : Int32) = (0 : Int32))) rfl ?_
  exact X3.returnOut hx Bd.returns (hb hby d26_21) hr))
theorem pd21 : parseMethodDescriptor "(Ljava/lang/String;)V" = some ⟨[(.object "java/lang/String")], none⟩ := by decide +kernel
theorem d25_5 : decode jdk_68_method_73_code 5 = .ok (.aload_n 2, 1) := by decide +kernel
theorem d25_6 : decode jdk_68_method_73_code 6 = .ok (.aload_n 0, 1) := by decide +kernel
theorem d25_7 : decode jdk_68_method_73_code 7 = .ok (.getfield 15, 3) := by decide +kernel
theorem d25_10 : decode jdk_68_method_73_code 10 = .ok (.iload_n 1, 1) := by decide +kernel
theorem d25_11 : decode jdk_68_method_73_code 11 = .ok (.aload_n 0, 1) := by decide +kernel
theorem d25_12 : decode jdk_68_method_73_code 12 = .ok (.getfield 22, 3) := by decide +kernel
theorem d25_15 : decode jdk_68_method_73_code 15 = .ok (.invokevirtual 399, 3) := by decide +kernel
theorem ef14 (m : MethodId) (x0 : Addr) (x1 : Addr) (x2 : Int32) (x3 : Int32) : entryFrame m #[.ref x0, .ref x1, .int x2, .int x3] 4 = mkF m 0 #[.val (.ref x0), .val (.ref x1), .val (.int x2), .val (.int x3)] [] := by first | (simp [entryFrame, mkF, argsToLocals, Value.category]; done) | rfl
theorem d28_0 : decode jdk_42_method_147_code 0 = .ok (.aload_n 0, 1) := by decide +kernel
theorem d28_1 : decode jdk_42_method_147_code 1 = .ok (.invokevirtual 335, 3) := by decide +kernel
theorem d28_4 : decode jdk_42_method_147_code 4 = .ok (.iload_n 3, 1) := by decide +kernel
theorem d28_5 : decode jdk_42_method_147_code 5 = .ok (.if_icmp .ne 23, 3) := by decide +kernel
theorem d28_8 : decode jdk_42_method_147_code 8 = .ok (.aload_n 0, 1) := by decide +kernel
theorem d28_9 : decode jdk_42_method_147_code 9 = .ok (.getfield 9, 3) := by decide +kernel
theorem d28_12 : decode jdk_42_method_147_code 12 = .ok (.iconst 0, 1) := by decide +kernel
theorem d28_13 : decode jdk_42_method_147_code 13 = .ok (.aload_n 1, 1) := by decide +kernel
theorem d28_14 : decode jdk_42_method_147_code 14 = .ok (.iload_n 2, 1) := by decide +kernel
theorem d28_15 : decode jdk_42_method_147_code 15 = .ok (.iload_n 3, 1) := by decide +kernel
theorem d28_16 : decode jdk_42_method_147_code 16 = .ok (.ishl, 1) := by decide +kernel
theorem d28_17 : decode jdk_42_method_147_code 17 = .ok (.aload_n 0, 1) := by decide +kernel
theorem d28_18 : decode jdk_42_method_147_code 18 = .ok (.getfield 9, 3) := by decide +kernel
theorem d28_21 : decode jdk_42_method_147_code 21 = .ok (.arraylength, 1) := by decide +kernel
theorem d28_22 : decode jdk_42_method_147_code 22 = .ok (.invokestatic 212, 3) := by decide +kernel
theorem d28_25 : decode jdk_42_method_147_code 25 = .ok (.goto 18, 3) := by decide +kernel
theorem d28_43 : decode jdk_42_method_147_code 43 = .ok (.return_, 1) := by decide +kernel
-- java/lang/String.getBytes([BIB)V
def Q26 (Z : State) (qa2 : Addr) (qk5 : ClassId) (h0 : Heap) (n0 : Nat) (v : Option Value) (h : Heap) (L : List Loc) : Prop := v = none ∧ Fr n0 L ∧ Keep h0 h [qa2] ∧ Arv Z h qa2 qk5 .byte (16 : Int32) [.int 123, .int 0, .int 0, .int 0, .int 0, .int 0, .int 0, .int 0, .int 0, .int 0, .int 0, .int 0, .int 0, .int 0, .int 0, .int 0] (.int 0)
theorem rm26 (l : Launch) (Z : State) (a0 : Array Value) (hw : HW a0 Z) (G1 : Int32) (qa1 : Addr) (qa2 : Addr) (qa3 : Addr) (qk4 : ClassId) (qk5 : ClassId) (h0 : Heap) (n0 : Nat) (X00 : Old Z n0 h0) (O2 : Sta Z Z.heap "java/lang/String" "COMPACT_STRINGS" "Z" (.int G1)) (P5 : ¬ (G1 = (0 : Int32))) (E_qa1 : Exa Z h0 qa1 "java/lang/String") (F_qa1_coder : Fld Z h0 qa1 "java/lang/String" "coder" "B" (.int 0)) (F_qa1_value : Fld Z h0 qa1 "java/lang/String" "value" "[B" (.ref qa3)) (A_qa3 : Arv Z h0 qa3 qk4 .byte (1 : Int32) [.int 123] (.int 0)) (A_qa2 : Arv Z h0 qa2 qk5 .byte (16 : Int32) [.int 0, .int 0, .int 0, .int 0, .int 0, .int 0, .int 0, .int 0, .int 0, .int 0, .int 0, .int 0, .int 0, .int 0, .int 0, .int 0] (.int 0)) (g_qa2 : n0 ≤ qa2) :
    MF l Z Y26_ jdk_42_method_147_code 4 none (Rm 1 0 0 18) #[.ref qa1, .ref qa2, .int 0, .int 0] h0 (Q26 Z qa2 qk5 h0 n0) := by
 refine own_sF pn1 rfl (fun m => ef14 m qa1 qa2 (0 : Int32) (0 : Int32)) ?_
 intro p e s m below meth c s₁ Bd hZ hh hx hby hml hown hnm X0 e0 pre0
 have N0 := Fr.nil n0
 obtain ⟨_, T1, L1, X1, hQ1, st1⟩ := own_cV 0 0 [] 1 #[rv qa1, rv qa2, iv 0, iv 0] X0 hx hZ hown E_qa1 (w63_ hw) (w64_ hw) (notFace_of_selects (args := #[]) (mvT hZ (w66_ hw))) (w66_ hw) (w65_ hw) (w6_ hw) (w67_ hw) (rm24 l Z a0 hw G1 qa1 h0 n0 X00 O2 P5 F_qa1_coder) pd20 hml.symm (hb hby d28_1) e0 rfl rfl rfl rfl (by decide)
 obtain ⟨rfl, N1q, e1q⟩ := hQ1
 have N1 := Fr.app N0 N1q
 obtain ⟨T2, X2, e2, st2⟩ := getF X1 hx hZ hown (host := "") (Or.inl (w24_ hw)) Via.refl e1q F_qa1_value (g := (mkF m 9 #[rv qa1, rv qa2, iv 0, iv 0] [.ref qa1])) rfl rfl (hb hby d28_9)
 obtain ⟨T3, X3, e3, st3⟩ := getF X2 hx hZ hown (host := "") (Or.inl (w24_ hw)) Via.refl e2 F_qa1_value (g := (mkF m 18 #[rv qa1, rv qa2, iv 0, iv 0] [.ref qa1, .int 0, .ref qa2, .int 0, .ref qa3])) rfl rfl (hb hby d28_18)
 have av4 := A_qa3
 obtain ⟨cl4, Ar4, q4, S4, N4, H4, Gf4⟩ := av4
 obtain ⟨T5, h5, L5, X5, e5, N5, K5q, A5, st5⟩ := cpA X3 hx hZ hown (w211_ hw) (w214_ hw) (w212_ hw) (w213_ hw) e3 (vs := [.int 123]) (vd := [.int 0, .int 0, .int 0, .int 0, .int 0, .int 0, .int 0, .int 0, .int 0, .int 0, .int 0, .int 0, .int 0, .int 0, .int 0, .int 0]) (us := [.int 123]) A_qa3 A_qa2 (Or.inl ⟨rfl, rfl⟩) (by decide) (by decide) (by decide) (by decide) (by decide) rfl (lE rfl) N1 g_qa2 (g := (mkF m 22 #[rv qa1, rv qa2, iv 0, iv 0] [.int 1, .int 0, .ref qa2, .int 0, .ref qa3])) rfl hml.symm rfl (hb hby d28_22) (by decide) (W := 0) (own_hw rfl) (by decide)
 have K6 := (Keep.refl h0 [qa2]).trans K5q (allS (Or.inl (mI 0 rfl)) all0)
 have A7_ : Arv Z h5 qa2 qk5 .byte (16 : Int32) [.int 123, .int 0, .int 0, .int 0, .int 0, .int 0, .int 0, .int 0, .int 0, .int 0, .int 0, .int 0, .int 0, .int 0, .int 0, .int 0] (.int 0) := A5
 refine own_lvN X5 Bd e5 ⟨rfl, N5, K6, A7_⟩ rfl (fun fs hr => pre0 _ (by
  show Sx p e below s₁ m 0 #[rv qa1, rv qa2, iv 0, iv 0] [] _
  refine zb X0 Bd d28_0 rfl rfl ?_
  refine st1 _ ?_
  refine zj X1 Bd d28_4 rfl ?_
  refine zn X1 Bd d28_5 (XT.ii_ne_f ((by decide) : (0 : Int32) = (0 : Int32))) ?_
  refine zb X1 Bd d28_8 rfl rfl ?_
  refine st2 _ ?_
  refine zc X2 Bd d28_12 ?_
  refine zb X2 Bd d28_13 rfl rfl ?_
  refine zj X2 Bd d28_14 rfl ?_
  refine zj X2 Bd d28_15 rfl ?_
  refine XS.ishl X2.here hx rfl (hb hby d28_16) rfl ?_
  refine zb X2 Bd d28_17 rfl rfl ?_
  refine st3 _ ?_
  refine X3.arraylength hx (by rw [e3]; exact Ar4.1) (State.isArrayOf_alike hZ.alike Ar4.2.1) (g := (mkF m 21 #[rv qa1, rv qa2, iv 0, iv 0] [.ref qa3, .int 0, .ref qa2, .int 0, .ref qa3])) rfl rfl (hb hby d28_21) _ ?_
  rw [len_of S4 N4]
  refine st5 _ ?_
  refine zg (pc' := 43) X5 Bd d28_25 rfl ?_
  exact X5.returnOut hx Bd.returns (hb hby d28_43) hr))
theorem pd22 : parseMethodDescriptor "([BIB)V" = some ⟨[(.array .byte), .int, .byte], none⟩ := by decide +kernel
theorem d25_18 : decode jdk_68_method_73_code 18 = .ok (.return_, 1) := by decide +kernel
-- java/lang/AbstractStringBuilder.putStringAt(ILjava/lang/String;)V
def Q27 (Z : State) (qa3 : Addr) (qk6 : ClassId) (h0 : Heap) (n0 : Nat) (v : Option Value) (h : Heap) (L : List Loc) : Prop := v = none ∧ Fr n0 L ∧ Keep h0 h [qa3] ∧ Arv Z h qa3 qk6 .byte (16 : Int32) [.int 123, .int 0, .int 0, .int 0, .int 0, .int 0, .int 0, .int 0, .int 0, .int 0, .int 0, .int 0, .int 0, .int 0, .int 0, .int 0] (.int 0)
theorem rm27 (l : Launch) (Z : State) (a0 : Array Value) (hw : HW a0 Z) (G1 : Int32) (qa1 : Addr) (qa2 : Addr) (qa3 : Addr) (qa4 : Addr) (qk5 : ClassId) (qk6 : ClassId) (h0 : Heap) (n0 : Nat) (X00 : Old Z n0 h0) (O2 : Sta Z Z.heap "java/lang/String" "COMPACT_STRINGS" "Z" (.int G1)) (P5 : ¬ (G1 = (0 : Int32))) (F_qa1_coder : Fld Z h0 qa1 "java/lang/AbstractStringBuilder" "coder" "B" (.int 0)) (E_qa2 : Exa Z h0 qa2 "java/lang/String") (F_qa2_coder : Fld Z h0 qa2 "java/lang/String" "coder" "B" (.int 0)) (E_qa1 : Exa Z h0 qa1 "java/lang/StringBuilder") (F_qa1_value : Fld Z h0 qa1 "java/lang/AbstractStringBuilder" "value" "[B" (.ref qa3)) (F_qa2_value : Fld Z h0 qa2 "java/lang/String" "value" "[B" (.ref qa4)) (A_qa4 : Arv Z h0 qa4 qk5 .byte (1 : Int32) [.int 123] (.int 0)) (A_qa3 : Arv Z h0 qa3 qk6 .byte (16 : Int32) [.int 0, .int 0, .int 0, .int 0, .int 0, .int 0, .int 0, .int 0, .int 0, .int 0, .int 0, .int 0, .int 0, .int 0, .int 0, .int 0] (.int 0)) (g_qa3 : n0 ≤ qa3) :
    MF l Z Y27_ jdk_68_method_73_code 3 none (Rm 2 0 0 33) #[.ref qa1, .int 0, .ref qa2] h0 (Q27 Z qa3 qk6 h0 n0) := by
 refine own_sF pn7 rfl (fun m => ef13 m qa1 (0 : Int32) qa2) ?_
 intro p e s m below meth c s₁ Bd hZ hh hx hby hml hown hnm X0 e0 pre0
 have N0 := Fr.nil n0
 obtain ⟨cq1, q1, q1'⟩ := E_qa1.cell
 obtain ⟨_, T1, L1, X1, hQ1, st1⟩ := own_cb 0 0 0 0 0 0 (X0.privateBack hx (y := Y25_) hown (mvT hZ (w200_ hw)) (mvT hZ (w201_ hw)) (own_selP (mvT hZ (w203_ hw)) (Cond.privateMethod_at (mvP hZ (w202_ hw) (args := #[]))) (mvT hZ (w201_ hw)) (by decide)) (Cond.privateMethod_at (mvP hZ (w202_ hw) (args := #[]))) (mvT hZ (w204_ hw)) (by decide) (backOf (W := 0) (rm25 l Z a0 hw G1 qa1 qa2 h0 n0 X00 O2 P5 F_qa1_coder E_qa2 F_qa2_coder) hZ (w204_ hw) (w168_ hw) (lE rfl) (lE rfl)) (g := (mkF m 2 #[rv qa1, iv 0, rv qa2] [.ref qa2, .ref qa1])) rfl hml.symm (Steps.refl _) (a := qa1) (by rw [e0]; exact q1) q1' (argsL := [.ref qa2]) (rest := []) (lenOf pd21 rfl) rfl (own_hw rfl) (hb hby d25_2) (fun _ _ => ⟨rfl, e0, (lE rfl : 0 + 0 ≤ _), (lE rfl : 0 + 0 ≤ _)⟩)) rfl rfl
 obtain ⟨rfl, N1q, e1q⟩ := hQ1
 have N1 := Fr.app N0 N1q
 obtain ⟨T2, X2, e2, st2⟩ := getF X1 hx hZ hown (host := "") (Or.inl (w172_ hw)) Via.refl e1q F_qa1_value (g := (mkF m 7 #[rv qa1, iv 0, rv qa2] [.ref qa1, .ref qa2])) rfl rfl (hb hby d25_7)
 obtain ⟨T3, X3, e3, st3⟩ := getF X2 hx hZ hown (host := "") (Or.inl (w174_ hw)) Via.refl e2 F_qa1_coder (g := (mkF m 12 #[rv qa1, iv 0, rv qa2] [.ref qa1, .int 0, .ref qa3, .ref qa2])) rfl rfl (hb hby d25_12)
 obtain ⟨_, T4, L4, X4, hQ4, st4⟩ := own_cV 0 0 [] 15 #[rv qa1, iv 0, rv qa2] X3 hx hZ hown E_qa2 (w206_ hw) (w207_ hw) (notFace_of_selects (args := #[]) (mvT hZ (w209_ hw))) (w209_ hw) (w208_ hw) (w6_ hw) (w210_ hw) (rm26 l Z a0 hw G1 qa2 qa3 qa4 qk5 qk6 h0 n0 X00 O2 P5 E_qa2 F_qa2_coder F_qa2_value A_qa4 A_qa3 g_qa3) pd22 hml.symm (hb hby d25_15) e3 rfl rfl rfl rfl (by decide)
 obtain ⟨rfl, N4q, K4q, w5⟩ := hQ4
 have N4 := Fr.app N1 N4q
 have K6 := (Keep.refl h0 [qa3]).trans K4q (allS (Or.inl (mI 0 rfl)) all0)
 refine own_lvN X4 Bd rfl ⟨rfl, N4, K6, w5⟩ rfl (fun fs hr => pre0 _ (by
  show Sx p e below s₁ m 0 #[rv qa1, iv 0, rv qa2] [] _
  refine zb X0 Bd d25_0 rfl rfl ?_
  refine zb X0 Bd d25_1 rfl rfl ?_
  refine st1.trans ?_
  refine zb X1 Bd d25_5 rfl rfl ?_
  refine zb X1 Bd d25_6 rfl rfl ?_
  refine st2 _ ?_
  refine zj X2 Bd d25_10 rfl ?_
  refine zb X2 Bd d25_11 rfl rfl ?_
  refine st3 _ ?_
  refine st4 _ ?_
  exact X4.returnOut hx Bd.returns (hb hby d25_18) hr))
theorem pd23 : parseMethodDescriptor "(ILjava/lang/String;)V" = some ⟨[.int, (.object "java/lang/String")], none⟩ := by decide +kernel
theorem d23_33 : decode jdk_68_method_22_code 33 = .ok (.aload_n 0, 1) := by decide +kernel
theorem d23_34 : decode jdk_68_method_22_code 34 = .ok (.dup, 1) := by decide +kernel
theorem d23_35 : decode jdk_68_method_22_code 35 = .ok (.getfield 79, 3) := by decide +kernel
theorem d23_38 : decode jdk_68_method_22_code 38 = .ok (.iload_n 2, 1) := by decide +kernel
theorem d23_39 : decode jdk_68_method_22_code 39 = .ok (.iadd, 1) := by decide +kernel
theorem d23_40 : decode jdk_68_method_22_code 40 = .ok (.putfield 79, 3) := by decide +kernel
theorem d23_43 : decode jdk_68_method_22_code 43 = .ok (.aload_n 0, 1) := by decide +kernel
theorem d23_44 : decode jdk_68_method_22_code 44 = .ok (.areturn, 1) := by decide +kernel
-- java/lang/AbstractStringBuilder.append(Ljava/lang/String;)Ljava/lang/AbstractStringBuilder;
def Q28 (Z : State) (qa1 : Addr) (qa5 : Addr) (qk6 : ClassId) (h0 : Heap) (n0 : Nat) (v : Option Value) (h : Heap) (L : List Loc) : Prop := v = some (.ref qa1) ∧ Fr n0 L ∧ Keep h0 h [qa5, qa1] ∧ Fld Z h qa1 "java/lang/AbstractStringBuilder" "count" "I" (.int 1) ∧ Fld Z h qa1 "java/lang/AbstractStringBuilder" "value" "[B" (.ref qa5) ∧ Fld Z h qa1 "java/lang/AbstractStringBuilder" "coder" "B" (.int 0) ∧ Exa Z h qa1 "java/lang/StringBuilder" ∧ Arv Z h qa5 qk6 .byte (16 : Int32) [.int 123, .int 0, .int 0, .int 0, .int 0, .int 0, .int 0, .int 0, .int 0, .int 0, .int 0, .int 0, .int 0, .int 0, .int 0, .int 0] (.int 0)
theorem rm28 (l : Launch) (Z : State) (a0 : Array Value) (hw : HW a0 Z) (G1 : Int32) (qa1 : Addr) (qa2 : Addr) (qa3 : Addr) (qk4 : ClassId) (qa5 : Addr) (qk6 : ClassId) (h0 : Heap) (n0 : Nat) (X00 : Old Z n0 h0) (O2 : Sta Z Z.heap "java/lang/String" "COMPACT_STRINGS" "Z" (.int G1)) (P5 : ¬ (G1 = (0 : Int32))) (E_qa2 : Exa Z h0 qa2 "java/lang/String") (F_qa2_coder : Fld Z h0 qa2 "java/lang/String" "coder" "B" (.int 0)) (F_qa2_value : Fld Z h0 qa2 "java/lang/String" "value" "[B" (.ref qa3)) (hp_qa2 : ∀ c ∈ ([123] : List Int32), ¬ c < 0 ∧ ¬ (255 : Int32) < c) (A_qa3 : Arv Z h0 qa3 qk4 .byte (1 : Int32) [.int 123] (.int 0)) (F_qa1_count : Fld Z h0 qa1 "java/lang/AbstractStringBuilder" "count" "I" (.int 0)) (F_qa1_value : Fld Z h0 qa1 "java/lang/AbstractStringBuilder" "value" "[B" (.ref qa5)) (A_qa5 : Arv Z h0 qa5 qk6 .byte (16 : Int32) [.int 0, .int 0, .int 0, .int 0, .int 0, .int 0, .int 0, .int 0, .int 0, .int 0, .int 0, .int 0, .int 0, .int 0, .int 0, .int 0] (.int 0)) (F_qa1_coder : Fld Z h0 qa1 "java/lang/AbstractStringBuilder" "coder" "B" (.int 0)) (E_qa1 : Exa Z h0 qa1 "java/lang/StringBuilder") (g_qa5 : n0 ≤ qa5) (ne_qa1_qa5 : qa1 ≠ qa5) (g_qa1 : n0 ≤ qa1) :
    MF l Z Y28_ jdk_68_method_22_code 3 (some (.object "java/lang/AbstractStringBuilder")) (Rm 3 0 0 47) #[.ref qa1, .ref qa2] h0 (Q28 Z qa1 qa5 qk6 h0 n0) := by
 refine own_sF pn7 rfl (fun m => ef10 m qa1 qa2) ?_
 intro p e s m below meth c s₁ Bd hZ hh hx hby hml hown hnm X0 e0 pre0
 have N0 := Fr.nil n0
 have hcd2 : StrChars.Road.CodA ([123] : List Int32) 0 (1 : Int32) [.int 123] := StrChars.Road.codOf (n := 1) rfl (fun x hx => (hp_qa2 x hx).2)
 have hbd2 : ∀ x ∈ ([123] : List Int32), ¬ x < 0 ∧ ¬ (65535 : Int32) < x := own_up _ hp_qa2
 obtain ⟨cq1, kq1, q1a, q1b, q1c⟩ := isOf hZ e0 E_qa2
 obtain ⟨_, T1, L1, X1, hQ1, st1⟩ := own_cb0 0 0 0 0 0 0 (X0.virtualBack hx (y := Y10_) (z := Y10_) hown (mvT hZ (w187_ hw)) (mvT hZ (w59_ hw)) (notFace_of_selects (args := #[]) (mvT hZ (w61_ hw))) (mvT hZ (w61_ hw)) (mvT hZ (w60_ hw)) (by decide) (StrChars.Road.lenW (W := 0) hZ (own_wl hw) (kI := 4) (w5_ hw) E_qa2 F_qa2_value F_qa2_coder A_qa3 hcd2 hbd2 (O2.ext X00.2) P5 (lE rfl) (lE rfl) (lE rfl)) q1a q1c (g := (mkF m 10 #[rv qa1, rv qa2, .unset] [.ref qa2])) rfl hml.symm (Steps.refl _) (argsL := []) (rest := []) (lenOf pd7 rfl) rfl (own_hw rfl) (hb hby d23_10) (fun _ _ => ⟨rfl, e0, (lE rfl : 0 + 0 ≤ _), (lE rfl : 0 + 0 ≤ _)⟩)) rfl rfl
 dsimp only [Pt.U, Pt.locs, Pt.cells, Pt.slots] at hQ1
 obtain ⟨rfl, rfl, e1q⟩ := hQ1
 have N1 := Fr.app N0 (Fr.nil n0)
 obtain ⟨T3, X3, e3, st3⟩ := getF X1 hx hZ hown (host := "") (Or.inl (w188_ hw)) Via.refl e1q F_qa1_count (g := (mkF m 16 #[rv qa1, rv qa2, iv 1] [.ref qa1, .ref qa1])) rfl rfl (hb hby d23_16)
 obtain ⟨cq4, q4, q4'⟩ := E_qa1.cell
 obtain ⟨_, T4, L4, X4, hQ4, st4⟩ := own_cb 0 0 0 0 0 0 (X3.privateBack hx (y := Y23_) hown (mvT hZ (w190_ hw)) (mvT hZ (w191_ hw)) (own_selP (mvT hZ (w193_ hw)) (Cond.privateMethod_at (mvP hZ (w192_ hw) (args := #[]))) (mvT hZ (w191_ hw)) (by decide)) (Cond.privateMethod_at (mvP hZ (w192_ hw) (args := #[]))) (mvT hZ (w194_ hw)) (by decide) (backOf (W := 0) (rm23 l Z a0 hw  qa1 qa5 qk6 h0 n0 X00 F_qa1_value A_qa5 F_qa1_coder) hZ (w194_ hw) (w168_ hw) (lE rfl) (lE rfl)) (g := (mkF m 21 #[rv qa1, rv qa2, iv 1] [.int 1, .ref qa1])) rfl hml.symm (Steps.refl _) (a := qa1) (by rw [e3]; exact q4) q4' (argsL := [.int 1]) (rest := []) (lenOf pd18 rfl) rfl (own_hw rfl) (hb hby d23_21) (fun _ _ => ⟨rfl, e3, (lE rfl : 0 + 0 ≤ _), (lE rfl : 0 + 0 ≤ _)⟩)) rfl rfl
 obtain ⟨rfl, N4q, e4q⟩ := hQ4
 have N4 := Fr.app N1 N4q
 obtain ⟨T5, X5, e5, st5⟩ := getF X4 hx hZ hown (host := "") (Or.inl (w188_ hw)) Via.refl e4q F_qa1_count (g := (mkF m 26 #[rv qa1, rv qa2, iv 1] [.ref qa1, .ref qa1])) rfl rfl (hb hby d23_26)
 obtain ⟨cq6, q6, q6'⟩ := E_qa1.cell
 obtain ⟨_, T6, L6, X6, hQ6, st6⟩ := own_cb 0 0 0 0 0 0 (X5.privateBack hx (y := Y27_) hown (mvT hZ (w195_ hw)) (mvT hZ (w196_ hw)) (own_selP (mvT hZ (w198_ hw)) (Cond.privateMethod_at (mvP hZ (w197_ hw) (args := #[]))) (mvT hZ (w196_ hw)) (by decide)) (Cond.privateMethod_at (mvP hZ (w197_ hw) (args := #[]))) (mvT hZ (w199_ hw)) (by decide) (backOf (W := 0) (rm27 l Z a0 hw G1 qa1 qa2 qa5 qa3 qk4 qk6 h0 n0 X00 O2 P5 F_qa1_coder E_qa2 F_qa2_coder E_qa1 F_qa1_value F_qa2_value A_qa3 A_qa5 g_qa5) hZ (w199_ hw) (w168_ hw) (lE rfl) (lE rfl)) (g := (mkF m 30 #[rv qa1, rv qa2, iv 1] [.ref qa2, .int 0, .ref qa1])) rfl hml.symm (Steps.refl _) (a := qa1) (by rw [e5]; exact q6) q6' (argsL := [.int 0, .ref qa2]) (rest := []) (lenOf pd23 rfl) rfl (own_hw rfl) (hb hby d23_30) (fun _ _ => ⟨rfl, e5, (lE rfl : 0 + 0 ≤ _), (lE rfl : 0 + 0 ≤ _)⟩)) rfl rfl
 obtain ⟨rfl, N6q, K6q, w7⟩ := hQ6
 have N6 := Fr.app N4 N6q
 have K8 := (Keep.refl h0 [qa5, qa1]).trans K6q (allS (Or.inl (mI 0 rfl)) all0)
 have F10_ := F_qa1_count.keep K6q (ninS ne_qa1_qa5 nin0)
 obtain ⟨T9, X9, e9, st9⟩ := getF X6 hx hZ hown (host := "") (Or.inl (w188_ hw)) Via.refl rfl F10_ (g := (mkF m 35 #[rv qa1, rv qa2, iv 1] [.ref qa1, .ref qa1])) rfl rfl (hb hby d23_35)
 have E11_ := E_qa1.keep K6q
 obtain ⟨T12, h12, X12, e12, W12, st12⟩ := putF X9 hx hZ hown (host := "") (Or.inl (w188_ hw)) Via.refl e9 F10_ E11_ (Or.inl (w189_ hw)) (w159_ hw) (ty := .int) (by decide) rfl rfl (g := (mkF m 40 #[rv qa1, rv qa2, iv 1] [.int 1, .ref qa1])) rfl rfl (hb hby d23_40)
 have N12 := Fr.snoc X12 N6 g_qa1
 have K13 := K8.wr W12 (Or.inl (mI 1 rfl))
 have F14_ : Fld Z h12 qa1 "java/lang/AbstractStringBuilder" "count" "I" (.int 1) := F10_.same W12
 have F15_ := F_qa1_value.keep K6q (ninS ne_qa1_qa5 nin0)
 have F16_ := F15_.other W12 (Or.inr (slot_ne (Or.inl (w173_ hw)) (Or.inl (w189_ hw)) (by decide) (t := (.array .byte)) (t' := .int) (by decide) (by decide)))
 have F17_ := F_qa1_coder.keep K6q (ninS ne_qa1_qa5 nin0)
 have F18_ := F17_.other W12 (Or.inr (slot_ne (Or.inl (w175_ hw)) (Or.inl (w189_ hw)) (by decide) (t := .byte) (t' := .int) (by decide) (by decide)))
 have E19_ := E11_.wr W12
 have A20_ := w7.other W12 (Ne.symm ne_qa1_qa5)
 refine own_lvF X12 Bd (.ref qa1) e12 ⟨rfl, N12, K13, F14_, F16_, F18_, E19_, A20_⟩ rfl (fun fs hr => pre0 _ (by
  show Sx p e below s₁ m 0 #[rv qa1, rv qa2, .unset] [] _
  refine zb X0 Bd d23_0 rfl rfl ?_
  refine XS.ifnonnullYes X0.here hx rfl (pc0 := 1) (pc' := 9) rfl (hb hby d23_1) rfl (by decide) (by decide) ?_
  refine zb X0 Bd d23_9 rfl rfl ?_
  refine st1.trans ?_
  refine zt X1 Bd d23_13 (l' := #[rv qa1, rv qa2, iv 1]) rfl ?_
  refine zb X1 Bd d23_14 rfl rfl ?_
  refine zb X1 Bd d23_15 rfl rfl ?_
  refine st3 _ ?_
  refine zj X3 Bd d23_19 rfl ?_
  refine XS.iadd X3.here hx rfl (hb hby d23_20) rfl ?_
  refine st4.trans ?_
  refine zb X4 Bd d23_24 rfl rfl ?_
  refine zb X4 Bd d23_25 rfl rfl ?_
  refine st5 _ ?_
  refine zb X5 Bd d23_29 rfl rfl ?_
  refine st6.trans ?_
  refine zb X6 Bd d23_33 rfl rfl ?_
  refine XS.dup X6.here hx rfl (hb hby d23_34) rfl rfl ?_
  refine st9 _ ?_
  refine zj X9 Bd d23_38 rfl ?_
  refine XS.iadd X9.here hx rfl (hb hby d23_39) rfl ?_
  refine st12 _ ?_
  refine zb X12 Bd d23_43 rfl rfl ?_
  exact retOut X12 hx Bd.returns rfl (Or.inr (Or.inr (Or.inr (Or.inr ⟨rfl, rfl, rfl⟩)))) (hb hby d23_44) hr))
theorem pd24 : parseMethodDescriptor "(Ljava/lang/String;)Ljava/lang/AbstractStringBuilder;" = some ⟨[(.object "java/lang/String")], some (.object "java/lang/AbstractStringBuilder")⟩ := by decide +kernel
theorem d22_5 : decode jdk_67_method_7_code 5 = .ok (.pop, 1) := by decide +kernel
theorem d22_6 : decode jdk_67_method_7_code 6 = .ok (.aload_n 0, 1) := by decide +kernel
theorem d22_7 : decode jdk_67_method_7_code 7 = .ok (.areturn, 1) := by decide +kernel
-- java/lang/StringBuilder.append(Ljava/lang/String;)Ljava/lang/StringBuilder;
def Q29 (Z : State) (qa1 : Addr) (qa5 : Addr) (qk6 : ClassId) (h0 : Heap) (n0 : Nat) (v : Option Value) (h : Heap) (L : List Loc) : Prop := v = some (.ref qa1) ∧ Fr n0 L ∧ Keep h0 h [qa1, qa5] ∧ Exa Z h qa1 "java/lang/StringBuilder" ∧ Fld Z h qa1 "java/lang/AbstractStringBuilder" "count" "I" (.int 1) ∧ Fld Z h qa1 "java/lang/AbstractStringBuilder" "value" "[B" (.ref qa5) ∧ Fld Z h qa1 "java/lang/AbstractStringBuilder" "coder" "B" (.int 0) ∧ Arv Z h qa5 qk6 .byte (16 : Int32) [.int 123, .int 0, .int 0, .int 0, .int 0, .int 0, .int 0, .int 0, .int 0, .int 0, .int 0, .int 0, .int 0, .int 0, .int 0, .int 0] (.int 0)
theorem rm29 (l : Launch) (Z : State) (a0 : Array Value) (hw : HW a0 Z) (G1 : Int32) (qa1 : Addr) (qa2 : Addr) (qa3 : Addr) (qk4 : ClassId) (qa5 : Addr) (qk6 : ClassId) (h0 : Heap) (n0 : Nat) (X00 : Old Z n0 h0) (O2 : Sta Z Z.heap "java/lang/String" "COMPACT_STRINGS" "Z" (.int G1)) (P5 : ¬ (G1 = (0 : Int32))) (E_qa2 : Exa Z h0 qa2 "java/lang/String") (F_qa2_coder : Fld Z h0 qa2 "java/lang/String" "coder" "B" (.int 0)) (F_qa2_value : Fld Z h0 qa2 "java/lang/String" "value" "[B" (.ref qa3)) (hp_qa2 : ∀ c ∈ ([123] : List Int32), ¬ c < 0 ∧ ¬ (255 : Int32) < c) (A_qa3 : Arv Z h0 qa3 qk4 .byte (1 : Int32) [.int 123] (.int 0)) (F_qa1_count : Fld Z h0 qa1 "java/lang/AbstractStringBuilder" "count" "I" (.int 0)) (F_qa1_value : Fld Z h0 qa1 "java/lang/AbstractStringBuilder" "value" "[B" (.ref qa5)) (A_qa5 : Arv Z h0 qa5 qk6 .byte (16 : Int32) [.int 0, .int 0, .int 0, .int 0, .int 0, .int 0, .int 0, .int 0, .int 0, .int 0, .int 0, .int 0, .int 0, .int 0, .int 0, .int 0] (.int 0)) (F_qa1_coder : Fld Z h0 qa1 "java/lang/AbstractStringBuilder" "coder" "B" (.int 0)) (E_qa1 : Exa Z h0 qa1 "java/lang/StringBuilder") (g_qa5 : n0 ≤ qa5) (ne_qa1_qa5 : qa1 ≠ qa5) (g_qa1 : n0 ≤ qa1) :
    MF l Z Y29_ jdk_67_method_7_code 2 (some (.object "java/lang/StringBuilder")) (Rm 4 0 0 61) #[.ref qa1, .ref qa2] h0 (Q29 Z qa1 qa5 qk6 h0 n0) := by
 refine own_sF pn6 rfl (fun m => ef2 m qa1 qa2) ?_
 intro p e s m below meth c s₁ Bd hZ hh hx hby hml hown hnm X0 e0 pre0
 have N0 := Fr.nil n0
 obtain ⟨_, T1, L1, X1, hQ1, st1⟩ := own_cb 0 0 0 0 0 0 (superBack X0 hx hZ (y := Y28_) hown (w182_ hw) (own_same (w183_ hw) (w193_ hw) rfl (by decide)) (w183_ hw) (w184_ hw) (by decide) (backOf (W := 0) (rm28 l Z a0 hw G1 qa1 qa2 qa3 qk4 qa5 qk6 h0 n0 X00 O2 P5 E_qa2 F_qa2_coder F_qa2_value hp_qa2 A_qa3 F_qa1_count F_qa1_value A_qa5 F_qa1_coder E_qa1 g_qa5 ne_qa1_qa5 g_qa1) hZ (w186_ hw) (w168_ hw) (lE rfl) (lE rfl)) e0 (Ins.self E_qa1) (g := (mkF m 2 #[rv qa1, rv qa2] [.ref qa2, .ref qa1])) rfl hml.symm (w186_ hw) (argsL := [.ref qa2]) (rest := []) (lenOf pd24 rfl) rfl (own_hw rfl) (hb hby d22_2) (fun _ _ => ⟨rfl, e0, (lE rfl : 0 + 0 ≤ _), (lE rfl : 0 + 0 ≤ _)⟩)) rfl rfl
 obtain ⟨rfl, N1q, K1q, w2, w3, w4, w5, w6⟩ := hQ1
 have N1 := Fr.app N0 N1q
 have K7 := (Keep.refl h0 [qa1, qa5]).trans K1q (allS (Or.inl (mI 1 rfl)) (allS (Or.inl (mI 0 rfl)) all0))
 have E8_ := E_qa1.keep K1q
 refine own_lvF X1 Bd (.ref qa1) rfl ⟨rfl, N1, K7, E8_, w2, w3, w4, w6⟩ rfl (fun fs hr => pre0 _ (by
  show Sx p e below s₁ m 0 #[rv qa1, rv qa2] [] _
  refine zb X0 Bd d22_0 rfl rfl ?_
  refine zb X0 Bd d22_1 rfl rfl ?_
  refine st1.trans ?_
  refine XS.pop X1.here hx rfl (hb hby d22_5) rfl rfl ?_
  refine zb X1 Bd d22_6 rfl rfl ?_
  exact retOut X1 hx Bd.returns rfl (Or.inr (Or.inr (Or.inr (Or.inr ⟨rfl, rfl, rfl⟩)))) (hb hby d22_7) hr))
theorem pd25 : parseMethodDescriptor "(Ljava/lang/String;)Ljava/lang/StringBuilder;" = some ⟨[(.object "java/lang/String")], some (.object "java/lang/StringBuilder")⟩ := by decide +kernel
theorem d19_31 : decode prog_15_method_18_code 31 = .ok (.aload_n 0, 1) := by decide +kernel
theorem d19_32 : decode prog_15_method_18_code 32 = .ok (.getfield 15, 3) := by decide +kernel
theorem d19_35 : decode prog_15_method_18_code 35 = .ok (.invokevirtual 103, 3) := by decide +kernel
-- java/lang/AbstractStringBuilder.ensureCapacityInternal(I)V
def Q30 (Z : State)  (h0 : Heap) (n0 : Nat) (v : Option Value) (h : Heap) (L : List Loc) : Prop := v = none ∧ Fr n0 L ∧ h = h0
theorem rm30 (l : Launch) (Z : State) (a0 : Array Value) (hw : HW a0 Z) (qa1 : Addr) (qa2 : Addr) (qk3 : ClassId) (h0 : Heap) (n0 : Nat) (X00 : Old Z n0 h0) (F_qa1_value : Fld Z h0 qa1 "java/lang/AbstractStringBuilder" "value" "[B" (.ref qa2)) (A_qa2 : Arv Z h0 qa2 qk3 .byte (16 : Int32) [.int 123, .int 0, .int 0, .int 0, .int 0, .int 0, .int 0, .int 0, .int 0, .int 0, .int 0, .int 0, .int 0, .int 0, .int 0, .int 0] (.int 0)) (F_qa1_coder : Fld Z h0 qa1 "java/lang/AbstractStringBuilder" "coder" "B" (.int 0)) :
    MF l Z Y23_ jdk_68_method_9_code 3 none (Rm 0 0 0 0) #[.ref qa1, .int 1] h0 (Q30 Z  h0 n0) := by
 refine own_sF pn7 rfl (fun m => ef12 m qa1 (1 : Int32)) ?_
 intro p e s m below meth c s₁ Bd hZ hh hx hby hml hown hnm X0 e0 pre0
 have N0 := Fr.nil n0
 obtain ⟨T1, X1, e1, st1⟩ := getF X0 hx hZ hown (host := "") (Or.inl (w172_ hw)) Via.refl e0 F_qa1_value (g := (mkF m 1 #[rv qa1, iv 1, .unset] [.ref qa1])) rfl rfl (hb hby d24_1)
 have av2 := A_qa2
 obtain ⟨cl2, Ar2, q2, S2, N2, H2, Gf2⟩ := av2
 obtain ⟨T3, X3, e3, st3⟩ := getF X1 hx hZ hown (host := "") (Or.inl (w174_ hw)) Via.refl e1 F_qa1_coder (g := (mkF m 6 #[rv qa1, iv 1, .unset] [.ref qa1, .int 16])) rfl rfl (hb hby d24_6)
 refine own_lvN X3 Bd e3 ⟨rfl, N0, rfl⟩ rfl (fun fs hr => pre0 _ (by
  show Sx p e below s₁ m 0 #[rv qa1, iv 1, .unset] [] _
  refine zb X0 Bd d24_0 rfl rfl ?_
  refine st1 _ ?_
  refine X1.arraylength hx (by rw [e1]; exact Ar2.1) (State.isArrayOf_alike hZ.alike Ar2.2.1) (g := (mkF m 4 #[rv qa1, iv 1, .unset] [.ref qa2])) rfl rfl (hb hby d24_4) _ ?_
  rw [len_of S2 N2]
  refine zb X1 Bd d24_5 rfl rfl ?_
  refine st3 _ ?_
  refine XS.ishr X3.here hx rfl (hb hby d24_9) rfl ?_
  refine zt X3 Bd d24_10 (l' := #[rv qa1, iv 1, iv 16]) rfl ?_
  refine zj X3 Bd d24_11 rfl ?_
  refine zj X3 Bd d24_12 rfl ?_
  refine XS.isub X3.here hx rfl (hb hby d24_13) rfl ?_
  refine zp (pc' := 38) X3 Bd d24_14 (XT.i0_le_t ((by decide) : ¬ ((0 : Int32) < (-15 : Int32)))) rfl ?_
  exact X3.returnOut hx Bd.returns (hb hby d24_38) hr))
-- java/lang/String.getBytes([BIB)V
def Q31 (Z : State) (qa2 : Addr) (qk5 : ClassId) (h0 : Heap) (n0 : Nat) (v : Option Value) (h : Heap) (L : List Loc) : Prop := v = none ∧ Fr n0 L ∧ Keep h0 h [qa2] ∧ Arv Z h qa2 qk5 .byte (16 : Int32) [.int 123, .int 0, .int 0, .int 0, .int 0, .int 0, .int 0, .int 0, .int 0, .int 0, .int 0, .int 0, .int 0, .int 0, .int 0, .int 0] (.int 0)
theorem rm31 (l : Launch) (Z : State) (a0 : Array Value) (hw : HW a0 Z) (G1 : Int32) (qa1 : Addr) (qa2 : Addr) (qa3 : Addr) (qk4 : ClassId) (qk5 : ClassId) (h0 : Heap) (n0 : Nat) (X00 : Old Z n0 h0) (O2 : Sta Z Z.heap "java/lang/String" "COMPACT_STRINGS" "Z" (.int G1)) (P5 : ¬ (G1 = (0 : Int32))) (E_qa1 : Exa Z h0 qa1 "java/lang/String") (F_qa1_coder : Fld Z h0 qa1 "java/lang/String" "coder" "B" (.int 0)) (F_qa1_value : Fld Z h0 qa1 "java/lang/String" "value" "[B" (.ref qa3)) (A_qa3 : Arv Z h0 qa3 qk4 .byte (0 : Int32) [] (.int 0)) (A_qa2 : Arv Z h0 qa2 qk5 .byte (16 : Int32) [.int 123, .int 0, .int 0, .int 0, .int 0, .int 0, .int 0, .int 0, .int 0, .int 0, .int 0, .int 0, .int 0, .int 0, .int 0, .int 0] (.int 0)) (g_qa2 : n0 ≤ qa2) :
    MF l Z Y26_ jdk_42_method_147_code 4 none (Rm 1 0 0 18) #[.ref qa1, .ref qa2, .int 1, .int 0] h0 (Q31 Z qa2 qk5 h0 n0) := by
 refine own_sF pn1 rfl (fun m => ef14 m qa1 qa2 (1 : Int32) (0 : Int32)) ?_
 intro p e s m below meth c s₁ Bd hZ hh hx hby hml hown hnm X0 e0 pre0
 have N0 := Fr.nil n0
 obtain ⟨_, T1, L1, X1, hQ1, st1⟩ := own_cV 0 0 [] 1 #[rv qa1, rv qa2, iv 1, iv 0] X0 hx hZ hown E_qa1 (w63_ hw) (w64_ hw) (notFace_of_selects (args := #[]) (mvT hZ (w66_ hw))) (w66_ hw) (w65_ hw) (w6_ hw) (w67_ hw) (rm24 l Z a0 hw G1 qa1 h0 n0 X00 O2 P5 F_qa1_coder) pd20 hml.symm (hb hby d28_1) e0 rfl rfl rfl rfl (by decide)
 obtain ⟨rfl, N1q, e1q⟩ := hQ1
 have N1 := Fr.app N0 N1q
 obtain ⟨T2, X2, e2, st2⟩ := getF X1 hx hZ hown (host := "") (Or.inl (w24_ hw)) Via.refl e1q F_qa1_value (g := (mkF m 9 #[rv qa1, rv qa2, iv 1, iv 0] [.ref qa1])) rfl rfl (hb hby d28_9)
 obtain ⟨T3, X3, e3, st3⟩ := getF X2 hx hZ hown (host := "") (Or.inl (w24_ hw)) Via.refl e2 F_qa1_value (g := (mkF m 18 #[rv qa1, rv qa2, iv 1, iv 0] [.ref qa1, .int 1, .ref qa2, .int 0, .ref qa3])) rfl rfl (hb hby d28_18)
 have av4 := A_qa3
 obtain ⟨cl4, Ar4, q4, S4, N4, H4, Gf4⟩ := av4
 obtain ⟨T5, h5, L5, X5, e5, N5, K5q, A5, st5⟩ := cpA X3 hx hZ hown (w211_ hw) (w214_ hw) (w212_ hw) (w213_ hw) e3 (vs := []) (vd := [.int 123, .int 0, .int 0, .int 0, .int 0, .int 0, .int 0, .int 0, .int 0, .int 0, .int 0, .int 0, .int 0, .int 0, .int 0, .int 0]) (us := []) A_qa3 A_qa2 (Or.inl ⟨rfl, rfl⟩) (by decide) (by decide) (by decide) (by decide) (by decide) rfl (lE rfl) N1 g_qa2 (g := (mkF m 22 #[rv qa1, rv qa2, iv 1, iv 0] [.int 0, .int 1, .ref qa2, .int 0, .ref qa3])) rfl hml.symm rfl (hb hby d28_22) (by decide) (W := 0) (own_hw rfl) (by decide)
 have K6 := (Keep.refl h0 [qa2]).trans K5q (allS (Or.inl (mI 0 rfl)) all0)
 have A7_ : Arv Z h5 qa2 qk5 .byte (16 : Int32) [.int 123, .int 0, .int 0, .int 0, .int 0, .int 0, .int 0, .int 0, .int 0, .int 0, .int 0, .int 0, .int 0, .int 0, .int 0, .int 0] (.int 0) := A5
 refine own_lvN X5 Bd e5 ⟨rfl, N5, K6, A7_⟩ rfl (fun fs hr => pre0 _ (by
  show Sx p e below s₁ m 0 #[rv qa1, rv qa2, iv 1, iv 0] [] _
  refine zb X0 Bd d28_0 rfl rfl ?_
  refine st1 _ ?_
  refine zj X1 Bd d28_4 rfl ?_
  refine zn X1 Bd d28_5 (XT.ii_ne_f ((by decide) : (0 : Int32) = (0 : Int32))) ?_
  refine zb X1 Bd d28_8 rfl rfl ?_
  refine st2 _ ?_
  refine zc X2 Bd d28_12 ?_
  refine zb X2 Bd d28_13 rfl rfl ?_
  refine zj X2 Bd d28_14 rfl ?_
  refine zj X2 Bd d28_15 rfl ?_
  refine XS.ishl X2.here hx rfl (hb hby d28_16) rfl ?_
  refine zb X2 Bd d28_17 rfl rfl ?_
  refine st3 _ ?_
  refine X3.arraylength hx (by rw [e3]; exact Ar4.1) (State.isArrayOf_alike hZ.alike Ar4.2.1) (g := (mkF m 21 #[rv qa1, rv qa2, iv 1, iv 0] [.ref qa3, .int 1, .ref qa2, .int 0, .ref qa3])) rfl rfl (hb hby d28_21) _ ?_
  rw [len_of S4 N4]
  refine st5 _ ?_
  refine zg (pc' := 43) X5 Bd d28_25 rfl ?_
  exact X5.returnOut hx Bd.returns (hb hby d28_43) hr))
-- java/lang/AbstractStringBuilder.putStringAt(ILjava/lang/String;)V
def Q32 (Z : State) (qa3 : Addr) (qk6 : ClassId) (h0 : Heap) (n0 : Nat) (v : Option Value) (h : Heap) (L : List Loc) : Prop := v = none ∧ Fr n0 L ∧ Keep h0 h [qa3] ∧ Arv Z h qa3 qk6 .byte (16 : Int32) [.int 123, .int 0, .int 0, .int 0, .int 0, .int 0, .int 0, .int 0, .int 0, .int 0, .int 0, .int 0, .int 0, .int 0, .int 0, .int 0] (.int 0)
theorem rm32 (l : Launch) (Z : State) (a0 : Array Value) (hw : HW a0 Z) (G1 : Int32) (qa1 : Addr) (qa2 : Addr) (qa3 : Addr) (qa4 : Addr) (qk5 : ClassId) (qk6 : ClassId) (h0 : Heap) (n0 : Nat) (X00 : Old Z n0 h0) (O2 : Sta Z Z.heap "java/lang/String" "COMPACT_STRINGS" "Z" (.int G1)) (P5 : ¬ (G1 = (0 : Int32))) (F_qa1_coder : Fld Z h0 qa1 "java/lang/AbstractStringBuilder" "coder" "B" (.int 0)) (E_qa2 : Exa Z h0 qa2 "java/lang/String") (F_qa2_coder : Fld Z h0 qa2 "java/lang/String" "coder" "B" (.int 0)) (E_qa1 : Exa Z h0 qa1 "java/lang/StringBuilder") (F_qa1_value : Fld Z h0 qa1 "java/lang/AbstractStringBuilder" "value" "[B" (.ref qa3)) (F_qa2_value : Fld Z h0 qa2 "java/lang/String" "value" "[B" (.ref qa4)) (A_qa4 : Arv Z h0 qa4 qk5 .byte (0 : Int32) [] (.int 0)) (A_qa3 : Arv Z h0 qa3 qk6 .byte (16 : Int32) [.int 123, .int 0, .int 0, .int 0, .int 0, .int 0, .int 0, .int 0, .int 0, .int 0, .int 0, .int 0, .int 0, .int 0, .int 0, .int 0] (.int 0)) (g_qa3 : n0 ≤ qa3) :
    MF l Z Y27_ jdk_68_method_73_code 3 none (Rm 2 0 0 33) #[.ref qa1, .int 1, .ref qa2] h0 (Q32 Z qa3 qk6 h0 n0) := by
 refine own_sF pn7 rfl (fun m => ef13 m qa1 (1 : Int32) qa2) ?_
 intro p e s m below meth c s₁ Bd hZ hh hx hby hml hown hnm X0 e0 pre0
 have N0 := Fr.nil n0
 obtain ⟨cq1, q1, q1'⟩ := E_qa1.cell
 obtain ⟨_, T1, L1, X1, hQ1, st1⟩ := own_cb 0 0 0 0 0 0 (X0.privateBack hx (y := Y25_) hown (mvT hZ (w200_ hw)) (mvT hZ (w201_ hw)) (own_selP (mvT hZ (w203_ hw)) (Cond.privateMethod_at (mvP hZ (w202_ hw) (args := #[]))) (mvT hZ (w201_ hw)) (by decide)) (Cond.privateMethod_at (mvP hZ (w202_ hw) (args := #[]))) (mvT hZ (w204_ hw)) (by decide) (backOf (W := 0) (rm25 l Z a0 hw G1 qa1 qa2 h0 n0 X00 O2 P5 F_qa1_coder E_qa2 F_qa2_coder) hZ (w204_ hw) (w168_ hw) (lE rfl) (lE rfl)) (g := (mkF m 2 #[rv qa1, iv 1, rv qa2] [.ref qa2, .ref qa1])) rfl hml.symm (Steps.refl _) (a := qa1) (by rw [e0]; exact q1) q1' (argsL := [.ref qa2]) (rest := []) (lenOf pd21 rfl) rfl (own_hw rfl) (hb hby d25_2) (fun _ _ => ⟨rfl, e0, (lE rfl : 0 + 0 ≤ _), (lE rfl : 0 + 0 ≤ _)⟩)) rfl rfl
 obtain ⟨rfl, N1q, e1q⟩ := hQ1
 have N1 := Fr.app N0 N1q
 obtain ⟨T2, X2, e2, st2⟩ := getF X1 hx hZ hown (host := "") (Or.inl (w172_ hw)) Via.refl e1q F_qa1_value (g := (mkF m 7 #[rv qa1, iv 1, rv qa2] [.ref qa1, .ref qa2])) rfl rfl (hb hby d25_7)
 obtain ⟨T3, X3, e3, st3⟩ := getF X2 hx hZ hown (host := "") (Or.inl (w174_ hw)) Via.refl e2 F_qa1_coder (g := (mkF m 12 #[rv qa1, iv 1, rv qa2] [.ref qa1, .int 1, .ref qa3, .ref qa2])) rfl rfl (hb hby d25_12)
 obtain ⟨_, T4, L4, X4, hQ4, st4⟩ := own_cV 0 0 [] 15 #[rv qa1, iv 1, rv qa2] X3 hx hZ hown E_qa2 (w206_ hw) (w207_ hw) (notFace_of_selects (args := #[]) (mvT hZ (w209_ hw))) (w209_ hw) (w208_ hw) (w6_ hw) (w210_ hw) (rm31 l Z a0 hw G1 qa2 qa3 qa4 qk5 qk6 h0 n0 X00 O2 P5 E_qa2 F_qa2_coder F_qa2_value A_qa4 A_qa3 g_qa3) pd22 hml.symm (hb hby d25_15) e3 rfl rfl rfl rfl (by decide)
 obtain ⟨rfl, N4q, K4q, w5⟩ := hQ4
 have N4 := Fr.app N1 N4q
 have K6 := (Keep.refl h0 [qa3]).trans K4q (allS (Or.inl (mI 0 rfl)) all0)
 refine own_lvN X4 Bd rfl ⟨rfl, N4, K6, w5⟩ rfl (fun fs hr => pre0 _ (by
  show Sx p e below s₁ m 0 #[rv qa1, iv 1, rv qa2] [] _
  refine zb X0 Bd d25_0 rfl rfl ?_
  refine zb X0 Bd d25_1 rfl rfl ?_
  refine st1.trans ?_
  refine zb X1 Bd d25_5 rfl rfl ?_
  refine zb X1 Bd d25_6 rfl rfl ?_
  refine st2 _ ?_
  refine zj X2 Bd d25_10 rfl ?_
  refine zb X2 Bd d25_11 rfl rfl ?_
  refine st3 _ ?_
  refine st4 _ ?_
  exact X4.returnOut hx Bd.returns (hb hby d25_18) hr))
-- java/lang/AbstractStringBuilder.append(Ljava/lang/String;)Ljava/lang/AbstractStringBuilder;
def Q33 (Z : State) (qa1 : Addr) (qa5 : Addr) (qk6 : ClassId) (h0 : Heap) (n0 : Nat) (v : Option Value) (h : Heap) (L : List Loc) : Prop := v = some (.ref qa1) ∧ Fr n0 L ∧ Keep h0 h [qa5, qa1] ∧ Fld Z h qa1 "java/lang/AbstractStringBuilder" "count" "I" (.int 1) ∧ Fld Z h qa1 "java/lang/AbstractStringBuilder" "value" "[B" (.ref qa5) ∧ Fld Z h qa1 "java/lang/AbstractStringBuilder" "coder" "B" (.int 0) ∧ Exa Z h qa1 "java/lang/StringBuilder" ∧ Arv Z h qa5 qk6 .byte (16 : Int32) [.int 123, .int 0, .int 0, .int 0, .int 0, .int 0, .int 0, .int 0, .int 0, .int 0, .int 0, .int 0, .int 0, .int 0, .int 0, .int 0] (.int 0)
theorem rm33 (l : Launch) (Z : State) (a0 : Array Value) (hw : HW a0 Z) (G1 : Int32) (qa1 : Addr) (qa2 : Addr) (qa3 : Addr) (qk4 : ClassId) (qa5 : Addr) (qk6 : ClassId) (h0 : Heap) (n0 : Nat) (X00 : Old Z n0 h0) (O2 : Sta Z Z.heap "java/lang/String" "COMPACT_STRINGS" "Z" (.int G1)) (P5 : ¬ (G1 = (0 : Int32))) (E_qa2 : Exa Z h0 qa2 "java/lang/String") (F_qa2_coder : Fld Z h0 qa2 "java/lang/String" "coder" "B" (.int 0)) (F_qa2_value : Fld Z h0 qa2 "java/lang/String" "value" "[B" (.ref qa3)) (A_qa3 : Arv Z h0 qa3 qk4 .byte (0 : Int32) [] (.int 0)) (F_qa1_count : Fld Z h0 qa1 "java/lang/AbstractStringBuilder" "count" "I" (.int 1)) (F_qa1_value : Fld Z h0 qa1 "java/lang/AbstractStringBuilder" "value" "[B" (.ref qa5)) (A_qa5 : Arv Z h0 qa5 qk6 .byte (16 : Int32) [.int 123, .int 0, .int 0, .int 0, .int 0, .int 0, .int 0, .int 0, .int 0, .int 0, .int 0, .int 0, .int 0, .int 0, .int 0, .int 0] (.int 0)) (F_qa1_coder : Fld Z h0 qa1 "java/lang/AbstractStringBuilder" "coder" "B" (.int 0)) (E_qa1 : Exa Z h0 qa1 "java/lang/StringBuilder") (g_qa5 : n0 ≤ qa5) (ne_qa1_qa5 : qa1 ≠ qa5) (g_qa1 : n0 ≤ qa1) :
    MF l Z Y28_ jdk_68_method_22_code 3 (some (.object "java/lang/AbstractStringBuilder")) (Rm 3 0 0 47) #[.ref qa1, .ref qa2] h0 (Q33 Z qa1 qa5 qk6 h0 n0) := by
 refine own_sF pn7 rfl (fun m => ef10 m qa1 qa2) ?_
 intro p e s m below meth c s₁ Bd hZ hh hx hby hml hown hnm X0 e0 pre0
 have N0 := Fr.nil n0
 have hp2 : ∀ c ∈ ([] : List Int32), ¬ c < 0 ∧ ¬ (255 : Int32) < c := (fun _ q => nomatch q)
 have hcd3 : StrChars.Road.CodA ([] : List Int32) 0 (0 : Int32) [] := StrChars.Road.codOf (n := 0) rfl (fun x hx => (hp2 x hx).2)
 have hbd3 : ∀ x ∈ ([] : List Int32), ¬ x < 0 ∧ ¬ (65535 : Int32) < x := own_up _ hp2
 obtain ⟨cq1, kq1, q1a, q1b, q1c⟩ := isOf hZ e0 E_qa2
 obtain ⟨_, T1, L1, X1, hQ1, st1⟩ := own_cb0 0 0 0 0 0 0 (X0.virtualBack hx (y := Y10_) (z := Y10_) hown (mvT hZ (w187_ hw)) (mvT hZ (w59_ hw)) (notFace_of_selects (args := #[]) (mvT hZ (w61_ hw))) (mvT hZ (w61_ hw)) (mvT hZ (w60_ hw)) (by decide) (StrChars.Road.lenW (W := 0) hZ (own_wl hw) (kI := 4) (w5_ hw) E_qa2 F_qa2_value F_qa2_coder A_qa3 hcd3 hbd3 (O2.ext X00.2) P5 (lE rfl) (lE rfl) (lE rfl)) q1a q1c (g := (mkF m 10 #[rv qa1, rv qa2, .unset] [.ref qa2])) rfl hml.symm (Steps.refl _) (argsL := []) (rest := []) (lenOf pd7 rfl) rfl (own_hw rfl) (hb hby d23_10) (fun _ _ => ⟨rfl, e0, (lE rfl : 0 + 0 ≤ _), (lE rfl : 0 + 0 ≤ _)⟩)) rfl rfl
 dsimp only [Pt.U, Pt.locs, Pt.cells, Pt.slots] at hQ1
 obtain ⟨rfl, rfl, e1q⟩ := hQ1
 have N1 := Fr.app N0 (Fr.nil n0)
 obtain ⟨T4, X4, e4, st4⟩ := getF X1 hx hZ hown (host := "") (Or.inl (w188_ hw)) Via.refl e1q F_qa1_count (g := (mkF m 16 #[rv qa1, rv qa2, iv 0] [.ref qa1, .ref qa1])) rfl rfl (hb hby d23_16)
 obtain ⟨cq5, q5, q5'⟩ := E_qa1.cell
 obtain ⟨_, T5, L5, X5, hQ5, st5⟩ := own_cb 0 0 0 0 0 0 (X4.privateBack hx (y := Y23_) hown (mvT hZ (w190_ hw)) (mvT hZ (w191_ hw)) (own_selP (mvT hZ (w193_ hw)) (Cond.privateMethod_at (mvP hZ (w192_ hw) (args := #[]))) (mvT hZ (w191_ hw)) (by decide)) (Cond.privateMethod_at (mvP hZ (w192_ hw) (args := #[]))) (mvT hZ (w194_ hw)) (by decide) (backOf (W := 0) (rm30 l Z a0 hw  qa1 qa5 qk6 h0 n0 X00 F_qa1_value A_qa5 F_qa1_coder) hZ (w194_ hw) (w168_ hw) (lE rfl) (lE rfl)) (g := (mkF m 21 #[rv qa1, rv qa2, iv 0] [.int 1, .ref qa1])) rfl hml.symm (Steps.refl _) (a := qa1) (by rw [e4]; exact q5) q5' (argsL := [.int 1]) (rest := []) (lenOf pd18 rfl) rfl (own_hw rfl) (hb hby d23_21) (fun _ _ => ⟨rfl, e4, (lE rfl : 0 + 0 ≤ _), (lE rfl : 0 + 0 ≤ _)⟩)) rfl rfl
 obtain ⟨rfl, N5q, e5q⟩ := hQ5
 have N5 := Fr.app N1 N5q
 obtain ⟨T6, X6, e6, st6⟩ := getF X5 hx hZ hown (host := "") (Or.inl (w188_ hw)) Via.refl e5q F_qa1_count (g := (mkF m 26 #[rv qa1, rv qa2, iv 0] [.ref qa1, .ref qa1])) rfl rfl (hb hby d23_26)
 obtain ⟨cq7, q7, q7'⟩ := E_qa1.cell
 obtain ⟨_, T7, L7, X7, hQ7, st7⟩ := own_cb 0 0 0 0 0 0 (X6.privateBack hx (y := Y27_) hown (mvT hZ (w195_ hw)) (mvT hZ (w196_ hw)) (own_selP (mvT hZ (w198_ hw)) (Cond.privateMethod_at (mvP hZ (w197_ hw) (args := #[]))) (mvT hZ (w196_ hw)) (by decide)) (Cond.privateMethod_at (mvP hZ (w197_ hw) (args := #[]))) (mvT hZ (w199_ hw)) (by decide) (backOf (W := 0) (rm32 l Z a0 hw G1 qa1 qa2 qa5 qa3 qk4 qk6 h0 n0 X00 O2 P5 F_qa1_coder E_qa2 F_qa2_coder E_qa1 F_qa1_value F_qa2_value A_qa3 A_qa5 g_qa5) hZ (w199_ hw) (w168_ hw) (lE rfl) (lE rfl)) (g := (mkF m 30 #[rv qa1, rv qa2, iv 0] [.ref qa2, .int 1, .ref qa1])) rfl hml.symm (Steps.refl _) (a := qa1) (by rw [e6]; exact q7) q7' (argsL := [.int 1, .ref qa2]) (rest := []) (lenOf pd23 rfl) rfl (own_hw rfl) (hb hby d23_30) (fun _ _ => ⟨rfl, e6, (lE rfl : 0 + 0 ≤ _), (lE rfl : 0 + 0 ≤ _)⟩)) rfl rfl
 obtain ⟨rfl, N7q, K7q, w8⟩ := hQ7
 have N7 := Fr.app N5 N7q
 have K9 := (Keep.refl h0 [qa5, qa1]).trans K7q (allS (Or.inl (mI 0 rfl)) all0)
 have F11_ := F_qa1_count.keep K7q (ninS ne_qa1_qa5 nin0)
 obtain ⟨T10, X10, e10, st10⟩ := getF X7 hx hZ hown (host := "") (Or.inl (w188_ hw)) Via.refl rfl F11_ (g := (mkF m 35 #[rv qa1, rv qa2, iv 0] [.ref qa1, .ref qa1])) rfl rfl (hb hby d23_35)
 have E12_ := E_qa1.keep K7q
 obtain ⟨T13, h13, X13, e13, W13, st13⟩ := putF X10 hx hZ hown (host := "") (Or.inl (w188_ hw)) Via.refl e10 F11_ E12_ (Or.inl (w189_ hw)) (w159_ hw) (ty := .int) (by decide) rfl rfl (g := (mkF m 40 #[rv qa1, rv qa2, iv 0] [.int 1, .ref qa1])) rfl rfl (hb hby d23_40)
 have N13 := Fr.snoc X13 N7 g_qa1
 have K14 := K9.wr W13 (Or.inl (mI 1 rfl))
 have F15_ : Fld Z h13 qa1 "java/lang/AbstractStringBuilder" "count" "I" (.int 1) := F11_.same W13
 have F16_ := F_qa1_value.keep K7q (ninS ne_qa1_qa5 nin0)
 have F17_ := F16_.other W13 (Or.inr (slot_ne (Or.inl (w173_ hw)) (Or.inl (w189_ hw)) (by decide) (t := (.array .byte)) (t' := .int) (by decide) (by decide)))
 have F18_ := F_qa1_coder.keep K7q (ninS ne_qa1_qa5 nin0)
 have F19_ := F18_.other W13 (Or.inr (slot_ne (Or.inl (w175_ hw)) (Or.inl (w189_ hw)) (by decide) (t := .byte) (t' := .int) (by decide) (by decide)))
 have E20_ := E12_.wr W13
 have A21_ := w8.other W13 (Ne.symm ne_qa1_qa5)
 refine own_lvF X13 Bd (.ref qa1) e13 ⟨rfl, N13, K14, F15_, F17_, F19_, E20_, A21_⟩ rfl (fun fs hr => pre0 _ (by
  show Sx p e below s₁ m 0 #[rv qa1, rv qa2, .unset] [] _
  refine zb X0 Bd d23_0 rfl rfl ?_
  refine XS.ifnonnullYes X0.here hx rfl (pc0 := 1) (pc' := 9) rfl (hb hby d23_1) rfl (by decide) (by decide) ?_
  refine zb X0 Bd d23_9 rfl rfl ?_
  refine st1.trans ?_
  refine zt X1 Bd d23_13 (l' := #[rv qa1, rv qa2, iv 0]) rfl ?_
  refine zb X1 Bd d23_14 rfl rfl ?_
  refine zb X1 Bd d23_15 rfl rfl ?_
  refine st4 _ ?_
  refine zj X4 Bd d23_19 rfl ?_
  refine XS.iadd X4.here hx rfl (hb hby d23_20) rfl ?_
  refine st5.trans ?_
  refine zb X5 Bd d23_24 rfl rfl ?_
  refine zb X5 Bd d23_25 rfl rfl ?_
  refine st6 _ ?_
  refine zb X6 Bd d23_29 rfl rfl ?_
  refine st7.trans ?_
  refine zb X7 Bd d23_33 rfl rfl ?_
  refine XS.dup X7.here hx rfl (hb hby d23_34) rfl rfl ?_
  refine st10 _ ?_
  refine zj X10 Bd d23_38 rfl ?_
  refine XS.iadd X10.here hx rfl (hb hby d23_39) rfl ?_
  refine st13 _ ?_
  refine zb X13 Bd d23_43 rfl rfl ?_
  exact retOut X13 hx Bd.returns rfl (Or.inr (Or.inr (Or.inr (Or.inr ⟨rfl, rfl, rfl⟩)))) (hb hby d23_44) hr))
-- java/lang/StringBuilder.append(Ljava/lang/String;)Ljava/lang/StringBuilder;
def Q34 (Z : State) (qa1 : Addr) (qa5 : Addr) (qk6 : ClassId) (h0 : Heap) (n0 : Nat) (v : Option Value) (h : Heap) (L : List Loc) : Prop := v = some (.ref qa1) ∧ Fr n0 L ∧ Keep h0 h [qa1, qa5] ∧ Exa Z h qa1 "java/lang/StringBuilder" ∧ Fld Z h qa1 "java/lang/AbstractStringBuilder" "count" "I" (.int 1) ∧ Fld Z h qa1 "java/lang/AbstractStringBuilder" "value" "[B" (.ref qa5) ∧ Fld Z h qa1 "java/lang/AbstractStringBuilder" "coder" "B" (.int 0) ∧ Arv Z h qa5 qk6 .byte (16 : Int32) [.int 123, .int 0, .int 0, .int 0, .int 0, .int 0, .int 0, .int 0, .int 0, .int 0, .int 0, .int 0, .int 0, .int 0, .int 0, .int 0] (.int 0)
theorem rm34 (l : Launch) (Z : State) (a0 : Array Value) (hw : HW a0 Z) (G1 : Int32) (qa1 : Addr) (qa2 : Addr) (qa3 : Addr) (qk4 : ClassId) (qa5 : Addr) (qk6 : ClassId) (h0 : Heap) (n0 : Nat) (X00 : Old Z n0 h0) (O2 : Sta Z Z.heap "java/lang/String" "COMPACT_STRINGS" "Z" (.int G1)) (P5 : ¬ (G1 = (0 : Int32))) (E_qa2 : Exa Z h0 qa2 "java/lang/String") (F_qa2_coder : Fld Z h0 qa2 "java/lang/String" "coder" "B" (.int 0)) (F_qa2_value : Fld Z h0 qa2 "java/lang/String" "value" "[B" (.ref qa3)) (A_qa3 : Arv Z h0 qa3 qk4 .byte (0 : Int32) [] (.int 0)) (F_qa1_count : Fld Z h0 qa1 "java/lang/AbstractStringBuilder" "count" "I" (.int 1)) (F_qa1_value : Fld Z h0 qa1 "java/lang/AbstractStringBuilder" "value" "[B" (.ref qa5)) (A_qa5 : Arv Z h0 qa5 qk6 .byte (16 : Int32) [.int 123, .int 0, .int 0, .int 0, .int 0, .int 0, .int 0, .int 0, .int 0, .int 0, .int 0, .int 0, .int 0, .int 0, .int 0, .int 0] (.int 0)) (F_qa1_coder : Fld Z h0 qa1 "java/lang/AbstractStringBuilder" "coder" "B" (.int 0)) (E_qa1 : Exa Z h0 qa1 "java/lang/StringBuilder") (g_qa5 : n0 ≤ qa5) (ne_qa1_qa5 : qa1 ≠ qa5) (g_qa1 : n0 ≤ qa1) :
    MF l Z Y29_ jdk_67_method_7_code 2 (some (.object "java/lang/StringBuilder")) (Rm 4 0 0 61) #[.ref qa1, .ref qa2] h0 (Q34 Z qa1 qa5 qk6 h0 n0) := by
 refine own_sF pn6 rfl (fun m => ef2 m qa1 qa2) ?_
 intro p e s m below meth c s₁ Bd hZ hh hx hby hml hown hnm X0 e0 pre0
 have N0 := Fr.nil n0
 have hp2 : ∀ c ∈ ([] : List Int32), ¬ c < 0 ∧ ¬ (255 : Int32) < c := (fun _ q => nomatch q)
 obtain ⟨_, T1, L1, X1, hQ1, st1⟩ := own_cb 0 0 0 0 0 0 (superBack X0 hx hZ (y := Y28_) hown (w182_ hw) (own_same (w183_ hw) (w193_ hw) rfl (by decide)) (w183_ hw) (w184_ hw) (by decide) (backOf (W := 0) (rm33 l Z a0 hw G1 qa1 qa2 qa3 qk4 qa5 qk6 h0 n0 X00 O2 P5 E_qa2 F_qa2_coder F_qa2_value A_qa3 F_qa1_count F_qa1_value A_qa5 F_qa1_coder E_qa1 g_qa5 ne_qa1_qa5 g_qa1) hZ (w186_ hw) (w168_ hw) (lE rfl) (lE rfl)) e0 (Ins.self E_qa1) (g := (mkF m 2 #[rv qa1, rv qa2] [.ref qa2, .ref qa1])) rfl hml.symm (w186_ hw) (argsL := [.ref qa2]) (rest := []) (lenOf pd24 rfl) rfl (own_hw rfl) (hb hby d22_2) (fun _ _ => ⟨rfl, e0, (lE rfl : 0 + 0 ≤ _), (lE rfl : 0 + 0 ≤ _)⟩)) rfl rfl
 obtain ⟨rfl, N1q, K1q, w3, w4, w5, w6, w7⟩ := hQ1
 have N1 := Fr.app N0 N1q
 have K8 := (Keep.refl h0 [qa1, qa5]).trans K1q (allS (Or.inl (mI 1 rfl)) (allS (Or.inl (mI 0 rfl)) all0))
 have E9_ := E_qa1.keep K1q
 refine own_lvF X1 Bd (.ref qa1) rfl ⟨rfl, N1, K8, E9_, w3, w4, w5, w7⟩ rfl (fun fs hr => pre0 _ (by
  show Sx p e below s₁ m 0 #[rv qa1, rv qa2] [] _
  refine zb X0 Bd d22_0 rfl rfl ?_
  refine zb X0 Bd d22_1 rfl rfl ?_
  refine st1.trans ?_
  refine XS.pop X1.here hx rfl (hb hby d22_5) rfl rfl ?_
  refine zb X1 Bd d22_6 rfl rfl ?_
  exact retOut X1 hx Bd.returns rfl (Or.inr (Or.inr (Or.inr (Or.inr ⟨rfl, rfl, rfl⟩)))) (hb hby d22_7) hr))
theorem d19_38 : decode prog_15_method_18_code 38 = .ok (.ldc 107, 2) := by decide +kernel
theorem d19_40 : decode prog_15_method_18_code 40 = .ok (.invokevirtual 103, 3) := by decide +kernel
-- java/lang/AbstractStringBuilder.ensureCapacityInternal(I)V
def Q35 (Z : State)  (h0 : Heap) (n0 : Nat) (v : Option Value) (h : Heap) (L : List Loc) : Prop := v = none ∧ Fr n0 L ∧ h = h0
theorem rm35 (l : Launch) (Z : State) (a0 : Array Value) (hw : HW a0 Z) (qa1 : Addr) (qa2 : Addr) (qk3 : ClassId) (h0 : Heap) (n0 : Nat) (X00 : Old Z n0 h0) (F_qa1_value : Fld Z h0 qa1 "java/lang/AbstractStringBuilder" "value" "[B" (.ref qa2)) (A_qa2 : Arv Z h0 qa2 qk3 .byte (16 : Int32) [.int 123, .int 0, .int 0, .int 0, .int 0, .int 0, .int 0, .int 0, .int 0, .int 0, .int 0, .int 0, .int 0, .int 0, .int 0, .int 0] (.int 0)) (F_qa1_coder : Fld Z h0 qa1 "java/lang/AbstractStringBuilder" "coder" "B" (.int 0)) :
    MF l Z Y23_ jdk_68_method_9_code 3 none (Rm 0 0 0 0) #[.ref qa1, .int 3] h0 (Q35 Z  h0 n0) := by
 refine own_sF pn7 rfl (fun m => ef12 m qa1 (3 : Int32)) ?_
 intro p e s m below meth c s₁ Bd hZ hh hx hby hml hown hnm X0 e0 pre0
 have N0 := Fr.nil n0
 obtain ⟨T1, X1, e1, st1⟩ := getF X0 hx hZ hown (host := "") (Or.inl (w172_ hw)) Via.refl e0 F_qa1_value (g := (mkF m 1 #[rv qa1, iv 3, .unset] [.ref qa1])) rfl rfl (hb hby d24_1)
 have av2 := A_qa2
 obtain ⟨cl2, Ar2, q2, S2, N2, H2, Gf2⟩ := av2
 obtain ⟨T3, X3, e3, st3⟩ := getF X1 hx hZ hown (host := "") (Or.inl (w174_ hw)) Via.refl e1 F_qa1_coder (g := (mkF m 6 #[rv qa1, iv 3, .unset] [.ref qa1, .int 16])) rfl rfl (hb hby d24_6)
 refine own_lvN X3 Bd e3 ⟨rfl, N0, rfl⟩ rfl (fun fs hr => pre0 _ (by
  show Sx p e below s₁ m 0 #[rv qa1, iv 3, .unset] [] _
  refine zb X0 Bd d24_0 rfl rfl ?_
  refine st1 _ ?_
  refine X1.arraylength hx (by rw [e1]; exact Ar2.1) (State.isArrayOf_alike hZ.alike Ar2.2.1) (g := (mkF m 4 #[rv qa1, iv 3, .unset] [.ref qa2])) rfl rfl (hb hby d24_4) _ ?_
  rw [len_of S2 N2]
  refine zb X1 Bd d24_5 rfl rfl ?_
  refine st3 _ ?_
  refine XS.ishr X3.here hx rfl (hb hby d24_9) rfl ?_
  refine zt X3 Bd d24_10 (l' := #[rv qa1, iv 3, iv 16]) rfl ?_
  refine zj X3 Bd d24_11 rfl ?_
  refine zj X3 Bd d24_12 rfl ?_
  refine XS.isub X3.here hx rfl (hb hby d24_13) rfl ?_
  refine zp (pc' := 38) X3 Bd d24_14 (XT.i0_le_t ((by decide) : ¬ ((0 : Int32) < (-13 : Int32)))) rfl ?_
  exact X3.returnOut hx Bd.returns (hb hby d24_38) hr))
-- java/lang/String.getBytes([BIB)V
def Q36 (Z : State) (qa2 : Addr) (qk5 : ClassId) (h0 : Heap) (n0 : Nat) (v : Option Value) (h : Heap) (L : List Loc) : Prop := v = none ∧ Fr n0 L ∧ Keep h0 h [qa2] ∧ Arv Z h qa2 qk5 .byte (16 : Int32) [.int 123, .int 42, .int 125, .int 0, .int 0, .int 0, .int 0, .int 0, .int 0, .int 0, .int 0, .int 0, .int 0, .int 0, .int 0, .int 0] (.int 0)
theorem rm36 (l : Launch) (Z : State) (a0 : Array Value) (hw : HW a0 Z) (G1 : Int32) (qa1 : Addr) (qa2 : Addr) (qa3 : Addr) (qk4 : ClassId) (qk5 : ClassId) (h0 : Heap) (n0 : Nat) (X00 : Old Z n0 h0) (O2 : Sta Z Z.heap "java/lang/String" "COMPACT_STRINGS" "Z" (.int G1)) (P5 : ¬ (G1 = (0 : Int32))) (E_qa1 : Exa Z h0 qa1 "java/lang/String") (F_qa1_coder : Fld Z h0 qa1 "java/lang/String" "coder" "B" (.int 0)) (F_qa1_value : Fld Z h0 qa1 "java/lang/String" "value" "[B" (.ref qa3)) (A_qa3 : Arv Z h0 qa3 qk4 .byte (2 : Int32) [.int 42, .int 125] (.int 0)) (A_qa2 : Arv Z h0 qa2 qk5 .byte (16 : Int32) [.int 123, .int 0, .int 0, .int 0, .int 0, .int 0, .int 0, .int 0, .int 0, .int 0, .int 0, .int 0, .int 0, .int 0, .int 0, .int 0] (.int 0)) (g_qa2 : n0 ≤ qa2) :
    MF l Z Y26_ jdk_42_method_147_code 4 none (Rm 1 0 0 18) #[.ref qa1, .ref qa2, .int 1, .int 0] h0 (Q36 Z qa2 qk5 h0 n0) := by
 refine own_sF pn1 rfl (fun m => ef14 m qa1 qa2 (1 : Int32) (0 : Int32)) ?_
 intro p e s m below meth c s₁ Bd hZ hh hx hby hml hown hnm X0 e0 pre0
 have N0 := Fr.nil n0
 obtain ⟨_, T1, L1, X1, hQ1, st1⟩ := own_cV 0 0 [] 1 #[rv qa1, rv qa2, iv 1, iv 0] X0 hx hZ hown E_qa1 (w63_ hw) (w64_ hw) (notFace_of_selects (args := #[]) (mvT hZ (w66_ hw))) (w66_ hw) (w65_ hw) (w6_ hw) (w67_ hw) (rm24 l Z a0 hw G1 qa1 h0 n0 X00 O2 P5 F_qa1_coder) pd20 hml.symm (hb hby d28_1) e0 rfl rfl rfl rfl (by decide)
 obtain ⟨rfl, N1q, e1q⟩ := hQ1
 have N1 := Fr.app N0 N1q
 obtain ⟨T2, X2, e2, st2⟩ := getF X1 hx hZ hown (host := "") (Or.inl (w24_ hw)) Via.refl e1q F_qa1_value (g := (mkF m 9 #[rv qa1, rv qa2, iv 1, iv 0] [.ref qa1])) rfl rfl (hb hby d28_9)
 obtain ⟨T3, X3, e3, st3⟩ := getF X2 hx hZ hown (host := "") (Or.inl (w24_ hw)) Via.refl e2 F_qa1_value (g := (mkF m 18 #[rv qa1, rv qa2, iv 1, iv 0] [.ref qa1, .int 1, .ref qa2, .int 0, .ref qa3])) rfl rfl (hb hby d28_18)
 have av4 := A_qa3
 obtain ⟨cl4, Ar4, q4, S4, N4, H4, Gf4⟩ := av4
 obtain ⟨T5, h5, L5, X5, e5, N5, K5q, A5, st5⟩ := cpA X3 hx hZ hown (w211_ hw) (w214_ hw) (w212_ hw) (w213_ hw) e3 (vs := [.int 42, .int 125]) (vd := [.int 123, .int 0, .int 0, .int 0, .int 0, .int 0, .int 0, .int 0, .int 0, .int 0, .int 0, .int 0, .int 0, .int 0, .int 0, .int 0]) (us := [.int 42, .int 125]) A_qa3 A_qa2 (Or.inl ⟨rfl, rfl⟩) (by decide) (by decide) (by decide) (by decide) (by decide) rfl (lE rfl) N1 g_qa2 (g := (mkF m 22 #[rv qa1, rv qa2, iv 1, iv 0] [.int 2, .int 1, .ref qa2, .int 0, .ref qa3])) rfl hml.symm rfl (hb hby d28_22) (by decide) (W := 0) (own_hw rfl) (by decide)
 have K6 := (Keep.refl h0 [qa2]).trans K5q (allS (Or.inl (mI 0 rfl)) all0)
 have A7_ : Arv Z h5 qa2 qk5 .byte (16 : Int32) [.int 123, .int 42, .int 125, .int 0, .int 0, .int 0, .int 0, .int 0, .int 0, .int 0, .int 0, .int 0, .int 0, .int 0, .int 0, .int 0] (.int 0) := A5
 refine own_lvN X5 Bd e5 ⟨rfl, N5, K6, A7_⟩ rfl (fun fs hr => pre0 _ (by
  show Sx p e below s₁ m 0 #[rv qa1, rv qa2, iv 1, iv 0] [] _
  refine zb X0 Bd d28_0 rfl rfl ?_
  refine st1 _ ?_
  refine zj X1 Bd d28_4 rfl ?_
  refine zn X1 Bd d28_5 (XT.ii_ne_f ((by decide) : (0 : Int32) = (0 : Int32))) ?_
  refine zb X1 Bd d28_8 rfl rfl ?_
  refine st2 _ ?_
  refine zc X2 Bd d28_12 ?_
  refine zb X2 Bd d28_13 rfl rfl ?_
  refine zj X2 Bd d28_14 rfl ?_
  refine zj X2 Bd d28_15 rfl ?_
  refine XS.ishl X2.here hx rfl (hb hby d28_16) rfl ?_
  refine zb X2 Bd d28_17 rfl rfl ?_
  refine st3 _ ?_
  refine X3.arraylength hx (by rw [e3]; exact Ar4.1) (State.isArrayOf_alike hZ.alike Ar4.2.1) (g := (mkF m 21 #[rv qa1, rv qa2, iv 1, iv 0] [.ref qa3, .int 1, .ref qa2, .int 0, .ref qa3])) rfl rfl (hb hby d28_21) _ ?_
  rw [len_of S4 N4]
  refine st5 _ ?_
  refine zg (pc' := 43) X5 Bd d28_25 rfl ?_
  exact X5.returnOut hx Bd.returns (hb hby d28_43) hr))
-- java/lang/AbstractStringBuilder.putStringAt(ILjava/lang/String;)V
def Q37 (Z : State) (qa3 : Addr) (qk6 : ClassId) (h0 : Heap) (n0 : Nat) (v : Option Value) (h : Heap) (L : List Loc) : Prop := v = none ∧ Fr n0 L ∧ Keep h0 h [qa3] ∧ Arv Z h qa3 qk6 .byte (16 : Int32) [.int 123, .int 42, .int 125, .int 0, .int 0, .int 0, .int 0, .int 0, .int 0, .int 0, .int 0, .int 0, .int 0, .int 0, .int 0, .int 0] (.int 0)
theorem rm37 (l : Launch) (Z : State) (a0 : Array Value) (hw : HW a0 Z) (G1 : Int32) (qa1 : Addr) (qa2 : Addr) (qa3 : Addr) (qa4 : Addr) (qk5 : ClassId) (qk6 : ClassId) (h0 : Heap) (n0 : Nat) (X00 : Old Z n0 h0) (O2 : Sta Z Z.heap "java/lang/String" "COMPACT_STRINGS" "Z" (.int G1)) (P5 : ¬ (G1 = (0 : Int32))) (F_qa1_coder : Fld Z h0 qa1 "java/lang/AbstractStringBuilder" "coder" "B" (.int 0)) (E_qa2 : Exa Z h0 qa2 "java/lang/String") (F_qa2_coder : Fld Z h0 qa2 "java/lang/String" "coder" "B" (.int 0)) (E_qa1 : Exa Z h0 qa1 "java/lang/StringBuilder") (F_qa1_value : Fld Z h0 qa1 "java/lang/AbstractStringBuilder" "value" "[B" (.ref qa3)) (F_qa2_value : Fld Z h0 qa2 "java/lang/String" "value" "[B" (.ref qa4)) (A_qa4 : Arv Z h0 qa4 qk5 .byte (2 : Int32) [.int 42, .int 125] (.int 0)) (A_qa3 : Arv Z h0 qa3 qk6 .byte (16 : Int32) [.int 123, .int 0, .int 0, .int 0, .int 0, .int 0, .int 0, .int 0, .int 0, .int 0, .int 0, .int 0, .int 0, .int 0, .int 0, .int 0] (.int 0)) (g_qa3 : n0 ≤ qa3) :
    MF l Z Y27_ jdk_68_method_73_code 3 none (Rm 2 0 0 33) #[.ref qa1, .int 1, .ref qa2] h0 (Q37 Z qa3 qk6 h0 n0) := by
 refine own_sF pn7 rfl (fun m => ef13 m qa1 (1 : Int32) qa2) ?_
 intro p e s m below meth c s₁ Bd hZ hh hx hby hml hown hnm X0 e0 pre0
 have N0 := Fr.nil n0
 obtain ⟨cq1, q1, q1'⟩ := E_qa1.cell
 obtain ⟨_, T1, L1, X1, hQ1, st1⟩ := own_cb 0 0 0 0 0 0 (X0.privateBack hx (y := Y25_) hown (mvT hZ (w200_ hw)) (mvT hZ (w201_ hw)) (own_selP (mvT hZ (w203_ hw)) (Cond.privateMethod_at (mvP hZ (w202_ hw) (args := #[]))) (mvT hZ (w201_ hw)) (by decide)) (Cond.privateMethod_at (mvP hZ (w202_ hw) (args := #[]))) (mvT hZ (w204_ hw)) (by decide) (backOf (W := 0) (rm25 l Z a0 hw G1 qa1 qa2 h0 n0 X00 O2 P5 F_qa1_coder E_qa2 F_qa2_coder) hZ (w204_ hw) (w168_ hw) (lE rfl) (lE rfl)) (g := (mkF m 2 #[rv qa1, iv 1, rv qa2] [.ref qa2, .ref qa1])) rfl hml.symm (Steps.refl _) (a := qa1) (by rw [e0]; exact q1) q1' (argsL := [.ref qa2]) (rest := []) (lenOf pd21 rfl) rfl (own_hw rfl) (hb hby d25_2) (fun _ _ => ⟨rfl, e0, (lE rfl : 0 + 0 ≤ _), (lE rfl : 0 + 0 ≤ _)⟩)) rfl rfl
 obtain ⟨rfl, N1q, e1q⟩ := hQ1
 have N1 := Fr.app N0 N1q
 obtain ⟨T2, X2, e2, st2⟩ := getF X1 hx hZ hown (host := "") (Or.inl (w172_ hw)) Via.refl e1q F_qa1_value (g := (mkF m 7 #[rv qa1, iv 1, rv qa2] [.ref qa1, .ref qa2])) rfl rfl (hb hby d25_7)
 obtain ⟨T3, X3, e3, st3⟩ := getF X2 hx hZ hown (host := "") (Or.inl (w174_ hw)) Via.refl e2 F_qa1_coder (g := (mkF m 12 #[rv qa1, iv 1, rv qa2] [.ref qa1, .int 1, .ref qa3, .ref qa2])) rfl rfl (hb hby d25_12)
 obtain ⟨_, T4, L4, X4, hQ4, st4⟩ := own_cV 0 0 [] 15 #[rv qa1, iv 1, rv qa2] X3 hx hZ hown E_qa2 (w206_ hw) (w207_ hw) (notFace_of_selects (args := #[]) (mvT hZ (w209_ hw))) (w209_ hw) (w208_ hw) (w6_ hw) (w210_ hw) (rm36 l Z a0 hw G1 qa2 qa3 qa4 qk5 qk6 h0 n0 X00 O2 P5 E_qa2 F_qa2_coder F_qa2_value A_qa4 A_qa3 g_qa3) pd22 hml.symm (hb hby d25_15) e3 rfl rfl rfl rfl (by decide)
 obtain ⟨rfl, N4q, K4q, w5⟩ := hQ4
 have N4 := Fr.app N1 N4q
 have K6 := (Keep.refl h0 [qa3]).trans K4q (allS (Or.inl (mI 0 rfl)) all0)
 refine own_lvN X4 Bd rfl ⟨rfl, N4, K6, w5⟩ rfl (fun fs hr => pre0 _ (by
  show Sx p e below s₁ m 0 #[rv qa1, iv 1, rv qa2] [] _
  refine zb X0 Bd d25_0 rfl rfl ?_
  refine zb X0 Bd d25_1 rfl rfl ?_
  refine st1.trans ?_
  refine zb X1 Bd d25_5 rfl rfl ?_
  refine zb X1 Bd d25_6 rfl rfl ?_
  refine st2 _ ?_
  refine zj X2 Bd d25_10 rfl ?_
  refine zb X2 Bd d25_11 rfl rfl ?_
  refine st3 _ ?_
  refine st4 _ ?_
  exact X4.returnOut hx Bd.returns (hb hby d25_18) hr))
-- java/lang/AbstractStringBuilder.append(Ljava/lang/String;)Ljava/lang/AbstractStringBuilder;
def Q38 (Z : State) (qa1 : Addr) (qa5 : Addr) (qk6 : ClassId) (h0 : Heap) (n0 : Nat) (v : Option Value) (h : Heap) (L : List Loc) : Prop := v = some (.ref qa1) ∧ Fr n0 L ∧ Keep h0 h [qa5, qa1] ∧ Fld Z h qa1 "java/lang/AbstractStringBuilder" "count" "I" (.int 3) ∧ Fld Z h qa1 "java/lang/AbstractStringBuilder" "value" "[B" (.ref qa5) ∧ Fld Z h qa1 "java/lang/AbstractStringBuilder" "coder" "B" (.int 0) ∧ Exa Z h qa1 "java/lang/StringBuilder" ∧ Arv Z h qa5 qk6 .byte (16 : Int32) [.int 123, .int 42, .int 125, .int 0, .int 0, .int 0, .int 0, .int 0, .int 0, .int 0, .int 0, .int 0, .int 0, .int 0, .int 0, .int 0] (.int 0)
theorem rm38 (l : Launch) (Z : State) (a0 : Array Value) (hw : HW a0 Z) (G1 : Int32) (qa1 : Addr) (qa2 : Addr) (qa3 : Addr) (qk4 : ClassId) (qa5 : Addr) (qk6 : ClassId) (h0 : Heap) (n0 : Nat) (X00 : Old Z n0 h0) (O2 : Sta Z Z.heap "java/lang/String" "COMPACT_STRINGS" "Z" (.int G1)) (P5 : ¬ (G1 = (0 : Int32))) (E_qa2 : Exa Z h0 qa2 "java/lang/String") (F_qa2_coder : Fld Z h0 qa2 "java/lang/String" "coder" "B" (.int 0)) (F_qa2_value : Fld Z h0 qa2 "java/lang/String" "value" "[B" (.ref qa3)) (hp_qa2 : ∀ c ∈ ([42, 125] : List Int32), ¬ c < 0 ∧ ¬ (255 : Int32) < c) (A_qa3 : Arv Z h0 qa3 qk4 .byte (2 : Int32) [.int 42, .int 125] (.int 0)) (F_qa1_count : Fld Z h0 qa1 "java/lang/AbstractStringBuilder" "count" "I" (.int 1)) (F_qa1_value : Fld Z h0 qa1 "java/lang/AbstractStringBuilder" "value" "[B" (.ref qa5)) (A_qa5 : Arv Z h0 qa5 qk6 .byte (16 : Int32) [.int 123, .int 0, .int 0, .int 0, .int 0, .int 0, .int 0, .int 0, .int 0, .int 0, .int 0, .int 0, .int 0, .int 0, .int 0, .int 0] (.int 0)) (F_qa1_coder : Fld Z h0 qa1 "java/lang/AbstractStringBuilder" "coder" "B" (.int 0)) (E_qa1 : Exa Z h0 qa1 "java/lang/StringBuilder") (g_qa5 : n0 ≤ qa5) (ne_qa1_qa5 : qa1 ≠ qa5) (g_qa1 : n0 ≤ qa1) :
    MF l Z Y28_ jdk_68_method_22_code 3 (some (.object "java/lang/AbstractStringBuilder")) (Rm 3 0 0 47) #[.ref qa1, .ref qa2] h0 (Q38 Z qa1 qa5 qk6 h0 n0) := by
 refine own_sF pn7 rfl (fun m => ef10 m qa1 qa2) ?_
 intro p e s m below meth c s₁ Bd hZ hh hx hby hml hown hnm X0 e0 pre0
 have N0 := Fr.nil n0
 have hcd2 : StrChars.Road.CodA ([42, 125] : List Int32) 0 (2 : Int32) [.int 42, .int 125] := StrChars.Road.codOf (n := 2) rfl (fun x hx => (hp_qa2 x hx).2)
 have hbd2 : ∀ x ∈ ([42, 125] : List Int32), ¬ x < 0 ∧ ¬ (65535 : Int32) < x := own_up _ hp_qa2
 obtain ⟨cq1, kq1, q1a, q1b, q1c⟩ := isOf hZ e0 E_qa2
 obtain ⟨_, T1, L1, X1, hQ1, st1⟩ := own_cb0 0 0 0 0 0 0 (X0.virtualBack hx (y := Y10_) (z := Y10_) hown (mvT hZ (w187_ hw)) (mvT hZ (w59_ hw)) (notFace_of_selects (args := #[]) (mvT hZ (w61_ hw))) (mvT hZ (w61_ hw)) (mvT hZ (w60_ hw)) (by decide) (StrChars.Road.lenW (W := 0) hZ (own_wl hw) (kI := 4) (w5_ hw) E_qa2 F_qa2_value F_qa2_coder A_qa3 hcd2 hbd2 (O2.ext X00.2) P5 (lE rfl) (lE rfl) (lE rfl)) q1a q1c (g := (mkF m 10 #[rv qa1, rv qa2, .unset] [.ref qa2])) rfl hml.symm (Steps.refl _) (argsL := []) (rest := []) (lenOf pd7 rfl) rfl (own_hw rfl) (hb hby d23_10) (fun _ _ => ⟨rfl, e0, (lE rfl : 0 + 0 ≤ _), (lE rfl : 0 + 0 ≤ _)⟩)) rfl rfl
 dsimp only [Pt.U, Pt.locs, Pt.cells, Pt.slots] at hQ1
 obtain ⟨rfl, rfl, e1q⟩ := hQ1
 have N1 := Fr.app N0 (Fr.nil n0)
 obtain ⟨T3, X3, e3, st3⟩ := getF X1 hx hZ hown (host := "") (Or.inl (w188_ hw)) Via.refl e1q F_qa1_count (g := (mkF m 16 #[rv qa1, rv qa2, iv 2] [.ref qa1, .ref qa1])) rfl rfl (hb hby d23_16)
 obtain ⟨cq4, q4, q4'⟩ := E_qa1.cell
 obtain ⟨_, T4, L4, X4, hQ4, st4⟩ := own_cb 0 0 0 0 0 0 (X3.privateBack hx (y := Y23_) hown (mvT hZ (w190_ hw)) (mvT hZ (w191_ hw)) (own_selP (mvT hZ (w193_ hw)) (Cond.privateMethod_at (mvP hZ (w192_ hw) (args := #[]))) (mvT hZ (w191_ hw)) (by decide)) (Cond.privateMethod_at (mvP hZ (w192_ hw) (args := #[]))) (mvT hZ (w194_ hw)) (by decide) (backOf (W := 0) (rm35 l Z a0 hw  qa1 qa5 qk6 h0 n0 X00 F_qa1_value A_qa5 F_qa1_coder) hZ (w194_ hw) (w168_ hw) (lE rfl) (lE rfl)) (g := (mkF m 21 #[rv qa1, rv qa2, iv 2] [.int 3, .ref qa1])) rfl hml.symm (Steps.refl _) (a := qa1) (by rw [e3]; exact q4) q4' (argsL := [.int 3]) (rest := []) (lenOf pd18 rfl) rfl (own_hw rfl) (hb hby d23_21) (fun _ _ => ⟨rfl, e3, (lE rfl : 0 + 0 ≤ _), (lE rfl : 0 + 0 ≤ _)⟩)) rfl rfl
 obtain ⟨rfl, N4q, e4q⟩ := hQ4
 have N4 := Fr.app N1 N4q
 obtain ⟨T5, X5, e5, st5⟩ := getF X4 hx hZ hown (host := "") (Or.inl (w188_ hw)) Via.refl e4q F_qa1_count (g := (mkF m 26 #[rv qa1, rv qa2, iv 2] [.ref qa1, .ref qa1])) rfl rfl (hb hby d23_26)
 obtain ⟨cq6, q6, q6'⟩ := E_qa1.cell
 obtain ⟨_, T6, L6, X6, hQ6, st6⟩ := own_cb 0 0 0 0 0 0 (X5.privateBack hx (y := Y27_) hown (mvT hZ (w195_ hw)) (mvT hZ (w196_ hw)) (own_selP (mvT hZ (w198_ hw)) (Cond.privateMethod_at (mvP hZ (w197_ hw) (args := #[]))) (mvT hZ (w196_ hw)) (by decide)) (Cond.privateMethod_at (mvP hZ (w197_ hw) (args := #[]))) (mvT hZ (w199_ hw)) (by decide) (backOf (W := 0) (rm37 l Z a0 hw G1 qa1 qa2 qa5 qa3 qk4 qk6 h0 n0 X00 O2 P5 F_qa1_coder E_qa2 F_qa2_coder E_qa1 F_qa1_value F_qa2_value A_qa3 A_qa5 g_qa5) hZ (w199_ hw) (w168_ hw) (lE rfl) (lE rfl)) (g := (mkF m 30 #[rv qa1, rv qa2, iv 2] [.ref qa2, .int 1, .ref qa1])) rfl hml.symm (Steps.refl _) (a := qa1) (by rw [e5]; exact q6) q6' (argsL := [.int 1, .ref qa2]) (rest := []) (lenOf pd23 rfl) rfl (own_hw rfl) (hb hby d23_30) (fun _ _ => ⟨rfl, e5, (lE rfl : 0 + 0 ≤ _), (lE rfl : 0 + 0 ≤ _)⟩)) rfl rfl
 obtain ⟨rfl, N6q, K6q, w7⟩ := hQ6
 have N6 := Fr.app N4 N6q
 have K8 := (Keep.refl h0 [qa5, qa1]).trans K6q (allS (Or.inl (mI 0 rfl)) all0)
 have F10_ := F_qa1_count.keep K6q (ninS ne_qa1_qa5 nin0)
 obtain ⟨T9, X9, e9, st9⟩ := getF X6 hx hZ hown (host := "") (Or.inl (w188_ hw)) Via.refl rfl F10_ (g := (mkF m 35 #[rv qa1, rv qa2, iv 2] [.ref qa1, .ref qa1])) rfl rfl (hb hby d23_35)
 have E11_ := E_qa1.keep K6q
 obtain ⟨T12, h12, X12, e12, W12, st12⟩ := putF X9 hx hZ hown (host := "") (Or.inl (w188_ hw)) Via.refl e9 F10_ E11_ (Or.inl (w189_ hw)) (w159_ hw) (ty := .int) (by decide) rfl rfl (g := (mkF m 40 #[rv qa1, rv qa2, iv 2] [.int 3, .ref qa1])) rfl rfl (hb hby d23_40)
 have N12 := Fr.snoc X12 N6 g_qa1
 have K13 := K8.wr W12 (Or.inl (mI 1 rfl))
 have F14_ : Fld Z h12 qa1 "java/lang/AbstractStringBuilder" "count" "I" (.int 3) := F10_.same W12
 have F15_ := F_qa1_value.keep K6q (ninS ne_qa1_qa5 nin0)
 have F16_ := F15_.other W12 (Or.inr (slot_ne (Or.inl (w173_ hw)) (Or.inl (w189_ hw)) (by decide) (t := (.array .byte)) (t' := .int) (by decide) (by decide)))
 have F17_ := F_qa1_coder.keep K6q (ninS ne_qa1_qa5 nin0)
 have F18_ := F17_.other W12 (Or.inr (slot_ne (Or.inl (w175_ hw)) (Or.inl (w189_ hw)) (by decide) (t := .byte) (t' := .int) (by decide) (by decide)))
 have E19_ := E11_.wr W12
 have A20_ := w7.other W12 (Ne.symm ne_qa1_qa5)
 refine own_lvF X12 Bd (.ref qa1) e12 ⟨rfl, N12, K13, F14_, F16_, F18_, E19_, A20_⟩ rfl (fun fs hr => pre0 _ (by
  show Sx p e below s₁ m 0 #[rv qa1, rv qa2, .unset] [] _
  refine zb X0 Bd d23_0 rfl rfl ?_
  refine XS.ifnonnullYes X0.here hx rfl (pc0 := 1) (pc' := 9) rfl (hb hby d23_1) rfl (by decide) (by decide) ?_
  refine zb X0 Bd d23_9 rfl rfl ?_
  refine st1.trans ?_
  refine zt X1 Bd d23_13 (l' := #[rv qa1, rv qa2, iv 2]) rfl ?_
  refine zb X1 Bd d23_14 rfl rfl ?_
  refine zb X1 Bd d23_15 rfl rfl ?_
  refine st3 _ ?_
  refine zj X3 Bd d23_19 rfl ?_
  refine XS.iadd X3.here hx rfl (hb hby d23_20) rfl ?_
  refine st4.trans ?_
  refine zb X4 Bd d23_24 rfl rfl ?_
  refine zb X4 Bd d23_25 rfl rfl ?_
  refine st5 _ ?_
  refine zb X5 Bd d23_29 rfl rfl ?_
  refine st6.trans ?_
  refine zb X6 Bd d23_33 rfl rfl ?_
  refine XS.dup X6.here hx rfl (hb hby d23_34) rfl rfl ?_
  refine st9 _ ?_
  refine zj X9 Bd d23_38 rfl ?_
  refine XS.iadd X9.here hx rfl (hb hby d23_39) rfl ?_
  refine st12 _ ?_
  refine zb X12 Bd d23_43 rfl rfl ?_
  exact retOut X12 hx Bd.returns rfl (Or.inr (Or.inr (Or.inr (Or.inr ⟨rfl, rfl, rfl⟩)))) (hb hby d23_44) hr))
-- java/lang/StringBuilder.append(Ljava/lang/String;)Ljava/lang/StringBuilder;
def Q39 (Z : State) (qa1 : Addr) (qa5 : Addr) (qk6 : ClassId) (h0 : Heap) (n0 : Nat) (v : Option Value) (h : Heap) (L : List Loc) : Prop := v = some (.ref qa1) ∧ Fr n0 L ∧ Keep h0 h [qa1, qa5] ∧ Exa Z h qa1 "java/lang/StringBuilder" ∧ Fld Z h qa1 "java/lang/AbstractStringBuilder" "count" "I" (.int 3) ∧ Fld Z h qa1 "java/lang/AbstractStringBuilder" "value" "[B" (.ref qa5) ∧ Fld Z h qa1 "java/lang/AbstractStringBuilder" "coder" "B" (.int 0) ∧ Arv Z h qa5 qk6 .byte (16 : Int32) [.int 123, .int 42, .int 125, .int 0, .int 0, .int 0, .int 0, .int 0, .int 0, .int 0, .int 0, .int 0, .int 0, .int 0, .int 0, .int 0] (.int 0)
theorem rm39 (l : Launch) (Z : State) (a0 : Array Value) (hw : HW a0 Z) (G1 : Int32) (qa1 : Addr) (qa2 : Addr) (qa3 : Addr) (qk4 : ClassId) (qa5 : Addr) (qk6 : ClassId) (h0 : Heap) (n0 : Nat) (X00 : Old Z n0 h0) (O2 : Sta Z Z.heap "java/lang/String" "COMPACT_STRINGS" "Z" (.int G1)) (P5 : ¬ (G1 = (0 : Int32))) (E_qa2 : Exa Z h0 qa2 "java/lang/String") (F_qa2_coder : Fld Z h0 qa2 "java/lang/String" "coder" "B" (.int 0)) (F_qa2_value : Fld Z h0 qa2 "java/lang/String" "value" "[B" (.ref qa3)) (hp_qa2 : ∀ c ∈ ([42, 125] : List Int32), ¬ c < 0 ∧ ¬ (255 : Int32) < c) (A_qa3 : Arv Z h0 qa3 qk4 .byte (2 : Int32) [.int 42, .int 125] (.int 0)) (F_qa1_count : Fld Z h0 qa1 "java/lang/AbstractStringBuilder" "count" "I" (.int 1)) (F_qa1_value : Fld Z h0 qa1 "java/lang/AbstractStringBuilder" "value" "[B" (.ref qa5)) (A_qa5 : Arv Z h0 qa5 qk6 .byte (16 : Int32) [.int 123, .int 0, .int 0, .int 0, .int 0, .int 0, .int 0, .int 0, .int 0, .int 0, .int 0, .int 0, .int 0, .int 0, .int 0, .int 0] (.int 0)) (F_qa1_coder : Fld Z h0 qa1 "java/lang/AbstractStringBuilder" "coder" "B" (.int 0)) (E_qa1 : Exa Z h0 qa1 "java/lang/StringBuilder") (g_qa5 : n0 ≤ qa5) (ne_qa1_qa5 : qa1 ≠ qa5) (g_qa1 : n0 ≤ qa1) :
    MF l Z Y29_ jdk_67_method_7_code 2 (some (.object "java/lang/StringBuilder")) (Rm 4 0 0 61) #[.ref qa1, .ref qa2] h0 (Q39 Z qa1 qa5 qk6 h0 n0) := by
 refine own_sF pn6 rfl (fun m => ef2 m qa1 qa2) ?_
 intro p e s m below meth c s₁ Bd hZ hh hx hby hml hown hnm X0 e0 pre0
 have N0 := Fr.nil n0
 obtain ⟨_, T1, L1, X1, hQ1, st1⟩ := own_cb 0 0 0 0 0 0 (superBack X0 hx hZ (y := Y28_) hown (w182_ hw) (own_same (w183_ hw) (w193_ hw) rfl (by decide)) (w183_ hw) (w184_ hw) (by decide) (backOf (W := 0) (rm38 l Z a0 hw G1 qa1 qa2 qa3 qk4 qa5 qk6 h0 n0 X00 O2 P5 E_qa2 F_qa2_coder F_qa2_value hp_qa2 A_qa3 F_qa1_count F_qa1_value A_qa5 F_qa1_coder E_qa1 g_qa5 ne_qa1_qa5 g_qa1) hZ (w186_ hw) (w168_ hw) (lE rfl) (lE rfl)) e0 (Ins.self E_qa1) (g := (mkF m 2 #[rv qa1, rv qa2] [.ref qa2, .ref qa1])) rfl hml.symm (w186_ hw) (argsL := [.ref qa2]) (rest := []) (lenOf pd24 rfl) rfl (own_hw rfl) (hb hby d22_2) (fun _ _ => ⟨rfl, e0, (lE rfl : 0 + 0 ≤ _), (lE rfl : 0 + 0 ≤ _)⟩)) rfl rfl
 obtain ⟨rfl, N1q, K1q, w2, w3, w4, w5, w6⟩ := hQ1
 have N1 := Fr.app N0 N1q
 have K7 := (Keep.refl h0 [qa1, qa5]).trans K1q (allS (Or.inl (mI 1 rfl)) (allS (Or.inl (mI 0 rfl)) all0))
 have E8_ := E_qa1.keep K1q
 refine own_lvF X1 Bd (.ref qa1) rfl ⟨rfl, N1, K7, E8_, w2, w3, w4, w6⟩ rfl (fun fs hr => pre0 _ (by
  show Sx p e below s₁ m 0 #[rv qa1, rv qa2] [] _
  refine zb X0 Bd d22_0 rfl rfl ?_
  refine zb X0 Bd d22_1 rfl rfl ?_
  refine st1.trans ?_
  refine XS.pop X1.here hx rfl (hb hby d22_5) rfl rfl ?_
  refine zb X1 Bd d22_6 rfl rfl ?_
  exact retOut X1 hx Bd.returns rfl (Or.inr (Or.inr (Or.inr (Or.inr ⟨rfl, rfl, rfl⟩)))) (hb hby d22_7) hr))
theorem d19_43 : decode prog_15_method_18_code 43 = .ok (.invokevirtual 109, 3) := by decide +kernel
theorem d29_0 : decode jdk_67_method_42_code 0 = .ok (.new 18, 3) := by decide +kernel
theorem d29_3 : decode jdk_67_method_42_code 3 = .ok (.dup, 1) := by decide +kernel
theorem d29_4 : decode jdk_67_method_42_code 4 = .ok (.aload_n 0, 1) := by decide +kernel
theorem d29_5 : decode jdk_67_method_42_code 5 = .ok (.invokespecial 137, 3) := by decide +kernel
theorem d30_0 : decode jdk_42_method_53_code 0 = .ok (.aload_n 0, 1) := by decide +kernel
theorem d30_1 : decode jdk_42_method_53_code 1 = .ok (.aload_n 1, 1) := by decide +kernel
theorem d30_2 : decode jdk_42_method_53_code 2 = .ok (.aconst_null, 1) := by decide +kernel
theorem d30_3 : decode jdk_42_method_53_code 3 = .ok (.invokespecial 489, 3) := by decide +kernel
theorem ef15 (m : MethodId) (x0 : Addr) (x1 : Addr) : entryFrame m #[.ref x0, .ref x1, .null] 5 = mkF m 0 #[.val (.ref x0), .val (.ref x1), .val .null, .unset, .unset] [] := by first | (simp [entryFrame, mkF, argsToLocals, Value.category]; done) | rfl
theorem d31_0 : decode jdk_42_method_150_code 0 = .ok (.aload_n 0, 1) := by decide +kernel
theorem d31_1 : decode jdk_42_method_150_code 1 = .ok (.invokespecial 1, 3) := by decide +kernel
theorem d31_4 : decode jdk_42_method_150_code 4 = .ok (.aload_n 1, 1) := by decide +kernel
theorem d31_5 : decode jdk_42_method_150_code 5 = .ok (.invokevirtual 552, 3) := by decide +kernel
theorem d32_0 : decode jdk_68_method_64_code 0 = .ok (.aload_n 0, 1) := by decide +kernel
theorem d32_1 : decode jdk_68_method_64_code 1 = .ok (.getfield 15, 3) := by decide +kernel
theorem d32_4 : decode jdk_68_method_64_code 4 = .ok (.areturn, 1) := by decide +kernel
-- java/lang/AbstractStringBuilder.getValue()[B
def Q40 (Z : State) (qa2 : Addr) (h0 : Heap) (n0 : Nat) (v : Option Value) (h : Heap) (L : List Loc) : Prop := v = some (.ref qa2) ∧ Fr n0 L ∧ h = h0
theorem rm40 (l : Launch) (Z : State) (a0 : Array Value) (hw : HW a0 Z) (qa1 : Addr) (qa2 : Addr) (h0 : Heap) (n0 : Nat) (X00 : Old Z n0 h0) (F_qa1_value : Fld Z h0 qa1 "java/lang/AbstractStringBuilder" "value" "[B" (.ref qa2)) :
    MF l Z Y30_ jdk_68_method_64_code 1 (some (.array .byte)) (Rm 0 0 0 0) #[.ref qa1] h0 (Q40 Z qa2 h0 n0) := by
 refine own_sF pn7 rfl (fun m => ef8 m qa1) ?_
 intro p e s m below meth c s₁ Bd hZ hh hx hby hml hown hnm X0 e0 pre0
 have N0 := Fr.nil n0
 obtain ⟨T1, X1, e1, st1⟩ := getF X0 hx hZ hown (host := "") (Or.inl (w172_ hw)) Via.refl e0 F_qa1_value (g := (mkF m 1 #[rv qa1] [.ref qa1])) rfl rfl (hb hby d32_1)
 refine own_lvF X1 Bd (.ref qa2) e1 ⟨rfl, N0, rfl⟩ rfl (fun fs hr => pre0 _ (by
  show Sx p e below s₁ m 0 #[rv qa1] [] _
  refine zb X0 Bd d32_0 rfl rfl ?_
  refine st1 _ ?_
  exact retOut X1 hx Bd.returns rfl (Or.inr (Or.inr (Or.inr (Or.inr ⟨rfl, rfl, rfl⟩)))) (hb hby d32_4) hr))
theorem pd26 : parseMethodDescriptor "()[B" = some ⟨[], some (.array .byte)⟩ := by decide +kernel
theorem d31_8 : decode jdk_42_method_150_code 8 = .ok (.astore_n 3, 1) := by decide +kernel
theorem d31_9 : decode jdk_42_method_150_code 9 = .ok (.aload_n 1, 1) := by decide +kernel
theorem d31_10 : decode jdk_42_method_150_code 10 = .ok (.invokevirtual 549, 3) := by decide +kernel
theorem d33_0 : decode jdk_67_method_93_code 0 = .ok (.aload_n 0, 1) := by decide +kernel
theorem d33_1 : decode jdk_67_method_93_code 1 = .ok (.invokespecial 343, 3) := by decide +kernel
theorem d34_0 : decode jdk_68_method_6_code 0 = .ok (.aload_n 0, 1) := by decide +kernel
theorem d34_1 : decode jdk_68_method_6_code 1 = .ok (.getfield 79, 3) := by decide +kernel
theorem d34_4 : decode jdk_68_method_6_code 4 = .ok (.ireturn, 1) := by decide +kernel
-- java/lang/AbstractStringBuilder.length()I
def Q41 (Z : State)  (h0 : Heap) (n0 : Nat) (v : Option Value) (h : Heap) (L : List Loc) : Prop := v = some (.int 3) ∧ Fr n0 L ∧ h = h0
theorem rm41 (l : Launch) (Z : State) (a0 : Array Value) (hw : HW a0 Z) (qa1 : Addr) (h0 : Heap) (n0 : Nat) (X00 : Old Z n0 h0) (F_qa1_count : Fld Z h0 qa1 "java/lang/AbstractStringBuilder" "count" "I" (.int 3)) :
    MF l Z Y31_ jdk_68_method_6_code 1 (some .int) (Rm 0 0 0 0) #[.ref qa1] h0 (Q41 Z  h0 n0) := by
 refine own_sF pn7 rfl (fun m => ef8 m qa1) ?_
 intro p e s m below meth c s₁ Bd hZ hh hx hby hml hown hnm X0 e0 pre0
 have N0 := Fr.nil n0
 obtain ⟨T1, X1, e1, st1⟩ := getF X0 hx hZ hown (host := "") (Or.inl (w188_ hw)) Via.refl e0 F_qa1_count (g := (mkF m 1 #[rv qa1] [.ref qa1])) rfl rfl (hb hby d34_1)
 refine own_lvF X1 Bd (.int 3) e1 ⟨rfl, N0, rfl⟩ rfl (fun fs hr => pre0 _ (by
  show Sx p e below s₁ m 0 #[rv qa1] [] _
  refine zb X0 Bd d34_0 rfl rfl ?_
  refine st1 _ ?_
  exact retI X1 hx Bd.returns (hb hby d34_4) hr))
theorem d33_4 : decode jdk_67_method_93_code 4 = .ok (.ireturn, 1) := by decide +kernel
-- java/lang/StringBuilder.length()I
def Q42 (Z : State)  (h0 : Heap) (n0 : Nat) (v : Option Value) (h : Heap) (L : List Loc) : Prop := v = some (.int 3) ∧ Fr n0 L ∧ h = h0
theorem rm42 (l : Launch) (Z : State) (a0 : Array Value) (hw : HW a0 Z) (qa1 : Addr) (h0 : Heap) (n0 : Nat) (X00 : Old Z n0 h0) (F_qa1_count : Fld Z h0 qa1 "java/lang/AbstractStringBuilder" "count" "I" (.int 3)) (E_qa1 : Exa Z h0 qa1 "java/lang/StringBuilder") :
    MF l Z Y32_ jdk_67_method_93_code 1 (some .int) (Rm 1 0 0 12) #[.ref qa1] h0 (Q42 Z  h0 n0) := by
 refine own_sF pn6 rfl (fun m => ef8 m qa1) ?_
 intro p e s m below meth c s₁ Bd hZ hh hx hby hml hown hnm X0 e0 pre0
 have N0 := Fr.nil n0
 obtain ⟨_, T1, L1, X1, hQ1, st1⟩ := own_cb 0 0 0 0 0 0 (superBack X0 hx hZ (y := Y31_) hown (w239_ hw) (own_same (w235_ hw) (w193_ hw) rfl (by decide)) (w235_ hw) (w184_ hw) (by decide) (backOf (W := 0) (rm41 l Z a0 hw  qa1 h0 n0 X00 F_qa1_count) hZ (w240_ hw) (w168_ hw) (lE rfl) (lE rfl)) e0 (Ins.self E_qa1) (g := (mkF m 1 #[rv qa1] [.ref qa1])) rfl hml.symm (w240_ hw) (argsL := []) (rest := []) (lenOf pd7 rfl) rfl (own_hw rfl) (hb hby d33_1) (fun _ _ => ⟨rfl, e0, (lE rfl : 0 + 0 ≤ _), (lE rfl : 0 + 0 ≤ _)⟩)) rfl rfl
 obtain ⟨rfl, N1q, e1q⟩ := hQ1
 have N1 := Fr.app N0 N1q
 refine own_lvF X1 Bd (.int 3) e1q ⟨rfl, N1, rfl⟩ rfl (fun fs hr => pre0 _ (by
  show Sx p e below s₁ m 0 #[rv qa1] [] _
  refine zb X0 Bd d33_0 rfl rfl ?_
  refine st1.trans ?_
  exact retI X1 hx Bd.returns (hb hby d33_4) hr))
theorem d31_13 : decode jdk_42_method_150_code 13 = .ok (.istore 4, 2) := by decide +kernel
theorem d31_15 : decode jdk_42_method_150_code 15 = .ok (.aload_n 1, 1) := by decide +kernel
theorem d31_16 : decode jdk_42_method_150_code 16 = .ok (.invokevirtual 1047, 3) := by decide +kernel
theorem d35_0 : decode jdk_68_method_68_code 0 = .ok (.getstatic 18, 3) := by decide +kernel
theorem d35_3 : decode jdk_68_method_68_code 3 = .ok (.ifCond .eq 14, 3) := by decide +kernel
theorem d35_6 : decode jdk_68_method_68_code 6 = .ok (.aload_n 0, 1) := by decide +kernel
theorem d35_7 : decode jdk_68_method_68_code 7 = .ok (.getfield 22, 3) := by decide +kernel
theorem d35_10 : decode jdk_68_method_68_code 10 = .ok (.ifCond .ne 7, 3) := by decide +kernel
theorem d35_13 : decode jdk_68_method_68_code 13 = .ok (.iconst 1, 1) := by decide +kernel
theorem d35_14 : decode jdk_68_method_68_code 14 = .ok (.goto 4, 3) := by decide +kernel
theorem d35_18 : decode jdk_68_method_68_code 18 = .ok (.ireturn, 1) := by decide +kernel
-- java/lang/AbstractStringBuilder.isLatin1()Z
def Q43 (Z : State)  (h0 : Heap) (n0 : Nat) (v : Option Value) (h : Heap) (L : List Loc) : Prop := v = some (.int 1) ∧ Fr n0 L ∧ h = h0
theorem rm43 (l : Launch) (Z : State) (a0 : Array Value) (hw : HW a0 Z) (G1 : Int32) (qa1 : Addr) (h0 : Heap) (n0 : Nat) (X00 : Old Z n0 h0) (O2 : Sta Z Z.heap "java/lang/String" "COMPACT_STRINGS" "Z" (.int G1)) (P5 : ¬ (G1 = (0 : Int32))) (F_qa1_coder : Fld Z h0 qa1 "java/lang/AbstractStringBuilder" "coder" "B" (.int 0)) :
    MF l Z Y33_ jdk_68_method_68_code 1 (some .boolean) (Rm 0 0 0 0) #[.ref qa1] h0 (Q43 Z  h0 n0) := by
 refine own_sF pn7 rfl (fun m => ef8 m qa1) ?_
 intro p e s m below meth c s₁ Bd hZ hh hx hby hml hown hnm X0 e0 pre0
 have N0 := Fr.nil n0
 obtain ⟨T1, X1, e1, st1⟩ := getS2 X0 hx hZ hown (host := "") (Or.inl (w171_ hw)) Via.refl e0 (O2.ext X00.2) (g := (mkF m 0 #[rv qa1] [])) rfl (hb hby d35_0)
 obtain ⟨T2, X2, e2, st2⟩ := getF X1 hx hZ hown (host := "") (Or.inl (w174_ hw)) Via.refl e1 F_qa1_coder (g := (mkF m 7 #[rv qa1] [.ref qa1])) rfl rfl (hb hby d35_7)
 refine own_lvF X2 Bd (.int 1) e2 ⟨rfl, N0, rfl⟩ rfl (fun fs hr => pre0 _ (by
  show Sx p e below s₁ m 0 #[rv qa1] [] _
  refine st1 _ ?_
  refine zo X1 Bd d35_3 (XT.i0_eq_f (P5 : ¬ (G1 = (0 : Int32)))) ?_
  refine zb X1 Bd d35_6 rfl rfl ?_
  refine st2 _ ?_
  refine zo X2 Bd d35_10 (XT.i0_ne_f ((by decide) : (0 : Int32) = (0 : Int32))) ?_
  refine zc X2 Bd d35_13 ?_
  refine zg (pc' := 18) X2 Bd d35_14 rfl ?_
  exact retN X2 hx (t := .boolean) Bd.returns (by simp) (hb hby d35_18) hr))
theorem d31_19 : decode jdk_42_method_150_code 19 = .ok (.ifCond .eq 22, 3) := by decide +kernel
theorem d31_22 : decode jdk_42_method_150_code 22 = .ok (.aload_n 0, 1) := by decide +kernel
theorem d31_23 : decode jdk_42_method_150_code 23 = .ok (.iconst 0, 1) := by decide +kernel
theorem d31_24 : decode jdk_42_method_150_code 24 = .ok (.putfield 15, 3) := by decide +kernel
theorem d31_27 : decode jdk_42_method_150_code 27 = .ok (.aload_n 0, 1) := by decide +kernel
theorem d31_28 : decode jdk_42_method_150_code 28 = .ok (.aload_n 3, 1) := by decide +kernel
theorem d31_29 : decode jdk_42_method_150_code 29 = .ok (.iconst 0, 1) := by decide +kernel
theorem d31_30 : decode jdk_42_method_150_code 30 = .ok (.iload 4, 2) := by decide +kernel
theorem d31_32 : decode jdk_42_method_150_code 32 = .ok (.invokestatic 54, 3) := by decide +kernel
theorem ef16 (m : MethodId) (x0 : Addr) (x1 : Int32) (x2 : Int32) : entryFrame m #[.ref x0, .int x1, .int x2] 3 = mkF m 0 #[.val (.ref x0), .val (.int x1), .val (.int x2)] [] := by first | (simp [entryFrame, mkF, argsToLocals, Value.category]; done) | rfl
theorem pn8 : plainName "java/util/Arrays" = true := by first | (simp [plainName, overriddenIn]; done) | decide +kernel
theorem d36_0 : decode jdk_65_method_132_code 0 = .ok (.iload_n 1, 1) := by decide +kernel
theorem d36_1 : decode jdk_65_method_132_code 1 = .ok (.ifCond .ne 9, 3) := by decide +kernel
theorem d36_4 : decode jdk_65_method_132_code 4 = .ok (.iload_n 2, 1) := by decide +kernel
theorem d36_5 : decode jdk_65_method_132_code 5 = .ok (.aload_n 0, 1) := by decide +kernel
theorem d36_6 : decode jdk_65_method_132_code 6 = .ok (.arraylength, 1) := by decide +kernel
theorem d36_7 : decode jdk_65_method_132_code 7 = .ok (.if_icmp .eq 10, 3) := by decide +kernel
theorem d36_10 : decode jdk_65_method_132_code 10 = .ok (.aload_n 0, 1) := by decide +kernel
theorem d36_11 : decode jdk_65_method_132_code 11 = .ok (.iload_n 1, 1) := by decide +kernel
theorem d36_12 : decode jdk_65_method_132_code 12 = .ok (.iload_n 2, 1) := by decide +kernel
theorem d36_13 : decode jdk_65_method_132_code 13 = .ok (.invokestatic 339, 3) := by decide +kernel
theorem ef17 (m : MethodId) (x0 : Addr) (x1 : Int32) (x2 : Int32) : entryFrame m #[.ref x0, .int x1, .int x2] 5 = mkF m 0 #[.val (.ref x0), .val (.int x1), .val (.int x2), .unset, .unset] [] := by first | (simp [entryFrame, mkF, argsToLocals, Value.category]; done) | rfl
theorem d37_0 : decode jdk_65_method_133_code 0 = .ok (.iload_n 1, 1) := by decide +kernel
theorem d37_1 : decode jdk_65_method_133_code 1 = .ok (.iload_n 2, 1) := by decide +kernel
theorem d37_2 : decode jdk_65_method_133_code 2 = .ok (.invokestatic 343, 3) := by decide +kernel
theorem ef18 (m : MethodId) (x0 : Int32) (x1 : Int32) : entryFrame m #[.int x0, .int x1] 2 = mkF m 0 #[.val (.int x0), .val (.int x1)] [] := by first | (simp [entryFrame, mkF, argsToLocals, Value.category]; done) | rfl
theorem d38_0 : decode jdk_65_method_131_code 0 = .ok (.iload_n 1, 1) := by decide +kernel
theorem d38_1 : decode jdk_65_method_131_code 1 = .ok (.iload_n 0, 1) := by decide +kernel
theorem d38_2 : decode jdk_65_method_131_code 2 = .ok (.if_icmp .ge 35, 3) := by decide +kernel
theorem d38_37 : decode jdk_65_method_131_code 37 = .ok (.return_, 1) := by decide +kernel
-- java/util/Arrays.checkLength(II)V
def Q44 (Z : State)  (h0 : Heap) (n0 : Nat) (v : Option Value) (h : Heap) (L : List Loc) : Prop := v = none ∧ Fr n0 L ∧ h = h0
theorem rm44 (l : Launch) (Z : State) (a0 : Array Value) (hw : HW a0 Z)  (h0 : Heap) (n0 : Nat) (X00 : Old Z n0 h0)  :
    MF l Z Y34_ jdk_65_method_131_code 2 none (Rm 0 0 0 0) #[.int 0, .int 3] h0 (Q44 Z  h0 n0) := by
 refine own_sF pn8 rfl (fun m => ef18 m (0 : Int32) (3 : Int32)) ?_
 intro p e s m below meth c s₁ Bd hZ hh hx hby hml hown hnm X0 e0 pre0
 have N0 := Fr.nil n0
 refine own_lvN X0 Bd e0 ⟨rfl, N0, rfl⟩ rfl (fun fs hr => pre0 _ (by
  show Sx p e below s₁ m 0 #[iv 0, iv 3] [] _
  refine zj X0 Bd d38_0 rfl ?_
  refine zj X0 Bd d38_1 rfl ?_
  refine zy (pc' := 37) X0 Bd d38_2 (XT.ii_ge_t ((by decide) : ¬ ((3 : Int32) < (0 : Int32)))) rfl ?_
  exact X0.returnOut hx Bd.returns (hb hby d38_37) hr))
theorem pd27 : parseMethodDescriptor "(II)V" = some ⟨[.int, .int], none⟩ := by decide +kernel
theorem d37_5 : decode jdk_65_method_133_code 5 = .ok (.iload_n 2, 1) := by decide +kernel
theorem d37_6 : decode jdk_65_method_133_code 6 = .ok (.iload_n 1, 1) := by decide +kernel
theorem d37_7 : decode jdk_65_method_133_code 7 = .ok (.isub, 1) := by decide +kernel
theorem d37_8 : decode jdk_65_method_133_code 8 = .ok (.istore_n 3, 1) := by decide +kernel
theorem d37_9 : decode jdk_65_method_133_code 9 = .ok (.iload_n 3, 1) := by decide +kernel
theorem d37_10 : decode jdk_65_method_133_code 10 = .ok (.newarray .byte, 2) := by decide +kernel
theorem d37_12 : decode jdk_65_method_133_code 12 = .ok (.astore 4, 2) := by decide +kernel
theorem d37_14 : decode jdk_65_method_133_code 14 = .ok (.aload_n 0, 1) := by decide +kernel
theorem d37_15 : decode jdk_65_method_133_code 15 = .ok (.iload_n 1, 1) := by decide +kernel
theorem d37_16 : decode jdk_65_method_133_code 16 = .ok (.aload 4, 2) := by decide +kernel
theorem d37_18 : decode jdk_65_method_133_code 18 = .ok (.iconst 0, 1) := by decide +kernel
theorem d37_19 : decode jdk_65_method_133_code 19 = .ok (.aload_n 0, 1) := by decide +kernel
theorem d37_20 : decode jdk_65_method_133_code 20 = .ok (.arraylength, 1) := by decide +kernel
theorem d37_21 : decode jdk_65_method_133_code 21 = .ok (.iload_n 1, 1) := by decide +kernel
theorem d37_22 : decode jdk_65_method_133_code 22 = .ok (.isub, 1) := by decide +kernel
theorem d37_23 : decode jdk_65_method_133_code 23 = .ok (.iload_n 3, 1) := by decide +kernel
theorem d37_24 : decode jdk_65_method_133_code 24 = .ok (.invokestatic 304, 3) := by decide +kernel
theorem d39_0 : decode jdk_29_method_69_code 0 = .ok (.iload_n 0, 1) := by decide +kernel
theorem d39_1 : decode jdk_29_method_69_code 1 = .ok (.iload_n 1, 1) := by decide +kernel
theorem d39_2 : decode jdk_29_method_69_code 2 = .ok (.if_icmp .gt 7, 3) := by decide +kernel
theorem d39_9 : decode jdk_29_method_69_code 9 = .ok (.iload_n 1, 1) := by decide +kernel
theorem d39_10 : decode jdk_29_method_69_code 10 = .ok (.ireturn, 1) := by decide +kernel
-- java/lang/Math.min(II)I
def Q45 (Z : State)  (h0 : Heap) (n0 : Nat) (v : Option Value) (h : Heap) (L : List Loc) : Prop := v = some (.int 3) ∧ Fr n0 L ∧ h = h0
theorem rm45 (l : Launch) (Z : State) (a0 : Array Value) (hw : HW a0 Z)  (h0 : Heap) (n0 : Nat) (X00 : Old Z n0 h0)  :
    MF l Z Y35_ jdk_29_method_69_code 2 (some .int) (Rm 0 0 0 0) #[.int 16, .int 3] h0 (Q45 Z  h0 n0) := by
 refine own_sFm (K := "java/lang/Math") (by decide +kernel) rfl (fun m => ef18 m (16 : Int32) (3 : Int32)) ?_
 intro p e s m below meth c s₁ Bd hZ hh hx hby hml hown hnm X0 e0 pre0
 have N0 := Fr.nil n0
 refine own_lvF X0 Bd (.int 3) e0 ⟨rfl, N0, rfl⟩ rfl (fun fs hr => pre0 _ (by
  show Sx p e below s₁ m 0 #[iv 16, iv 3] [] _
  refine zj X0 Bd d39_0 rfl ?_
  refine zj X0 Bd d39_1 rfl ?_
  refine zy (pc' := 9) X0 Bd d39_2 (XT.ii_gt_t ((by decide) : (3 : Int32) < (16 : Int32))) rfl ?_
  refine zj X0 Bd d39_9 rfl ?_
  exact retI X0 hx Bd.returns (hb hby d39_10) hr))
theorem pd28 : parseMethodDescriptor "(II)I" = some ⟨[.int, .int], some .int⟩ := by decide +kernel
theorem d37_27 : decode jdk_65_method_133_code 27 = .ok (.invokestatic 150, 3) := by decide +kernel
theorem d37_30 : decode jdk_65_method_133_code 30 = .ok (.aload 4, 2) := by decide +kernel
theorem d37_32 : decode jdk_65_method_133_code 32 = .ok (.areturn, 1) := by decide +kernel
-- java/util/Arrays.copyOfRangeByte([BII)[B
def Q46 (Z : State)  (h0 : Heap) (n0 : Nat) (v : Option Value) (h : Heap) (L : List Loc) : Prop := ∃ b2 : Addr, ∃ c2 : ClassId, v = some (.ref b2) ∧ Fr n0 L ∧ Keep h0 h [] ∧ h0.size ≤ b2 ∧ Arv Z h b2 c2 .byte (3 : Int32) [.int 123, .int 42, .int 125] (.int 0)
theorem rm46 (l : Launch) (Z : State) (a0 : Array Value) (hw : HW a0 Z) (qa1 : Addr) (qk2 : ClassId) (h0 : Heap) (n0 : Nat) (X00 : Old Z n0 h0) (A_qa1 : Arv Z h0 qa1 qk2 .byte (16 : Int32) [.int 123, .int 42, .int 125, .int 0, .int 0, .int 0, .int 0, .int 0, .int 0, .int 0, .int 0, .int 0, .int 0, .int 0, .int 0, .int 0] (.int 0)) :
    MF l Z Y36_ jdk_65_method_133_code 5 (some (.array .byte)) (Rm 1 1 3 18) #[.ref qa1, .int 0, .int 3] h0 (Q46 Z  h0 n0) := by
 refine own_sF pn8 rfl (fun m => ef17 m qa1 (0 : Int32) (3 : Int32)) ?_
 intro p e s m below meth c s₁ Bd hZ hh hx hby hml hown hnm X0 e0 pre0
 have N0 := Fr.nil n0
 obtain ⟨_, T1, L1, X1, hQ1, st1⟩ := own_cS 0 0 [] 2 #[rv qa1, iv 0, iv 3, .unset, .unset] X0 hx hZ hown (w253_ hw) (w254_ hw) (w248_ hw) (w255_ hw) (rm44 l Z a0 hw   h0 n0 X00 ) pd27 hml.symm (hb hby d37_2) e0 rfl rfl rfl rfl (by decide)
 obtain ⟨rfl, N1q, e1q⟩ := hQ1
 have N1 := Fr.app N0 N1q
 obtain ⟨T2, h2, c2, X2, e2, E2, A2, st2⟩ := newP (aty := .byte) X1 hx hZ (w19_ hw) e1q (g := (mkF m 10 #[rv qa1, iv 0, iv 3, iv 3, .unset] [.int 3])) rfl (hb hby d37_10) rfl (by decide) (cap := 3) (by decide) (lE rfl) (lE rfl) (lE rfl)
 obtain ⟨b2, g2⟩ : ∃ z, z = h0.size := ⟨_, rfl⟩
 rw [← g2] at A2 st2
 replace X2 : Stand p l e (Rm 1 1 3 18) s m #[.ref qa1, .int 0, .int 3] below meth c T2 _ 1 3 := X2
 have K3 := (Keep.refl h0 []).ext E2
 have A4_ : Arv Z h2 b2 c2 .byte (3 : Int32) [.int 0, .int 0, .int 0] (.int 0) := (Arv.new A2 (by decide)).pad (pad_rep [] (.int 0) 3)
 have A6_ := A_qa1.ext E2
 have av5 := A6_
 obtain ⟨cl5, Ar5, q5, S5, N5, H5, Gf5⟩ := av5
 have O8 := X00.ext E2
 obtain ⟨_, T7, L7, X7, hQ7, st7⟩ := own_cS 1 3 [.int 0, .ref b2, .int 0, .ref qa1] 24 #[rv qa1, iv 0, iv 3, iv 3, rv b2] X2 hx hZ hown (w256_ hw) (w257_ hw) (w258_ hw) (w259_ hw) (rm45 l Z a0 hw   h2 n0 O8 ) pd28 hml.symm (hb hby d37_24) e2 rfl rfl rfl rfl (by decide)
 obtain ⟨rfl, N7q, e7q⟩ := hQ7
 have N7 := Fr.app N1 N7q
 have g_b2 : n0 ≤ b2 := Nat.le_trans (Nat.le_trans (Nat.le_of_eq X00.1.symm) X00.2.1) (Nat.le_of_eq g2.symm)
 obtain ⟨T9, h9, L9, X9, e9, N9, K9q, A9, st9⟩ := cpA X7 hx hZ hown (w260_ hw) (w214_ hw) (w212_ hw) (w213_ hw) e7q (vs := [.int 123, .int 42, .int 125, .int 0, .int 0, .int 0, .int 0, .int 0, .int 0, .int 0, .int 0, .int 0, .int 0, .int 0, .int 0, .int 0]) (vd := [.int 0, .int 0, .int 0]) (us := [.int 123, .int 42, .int 125]) A6_ A4_ (Or.inl ⟨rfl, rfl⟩) (by decide) (by decide) (by decide) (by decide) (by decide) rfl (lE rfl) N7 g_b2 (g := (mkF m 27 #[rv qa1, iv 0, iv 3, iv 3, rv b2] [.int 3, .int 0, .ref b2, .int 0, .ref qa1])) rfl hml.symm rfl (hb hby d37_27) (by decide) (W := 0) (own_hw rfl) (by decide)
 have sz_b2 : h0.size ≤ b2 := (Nat.le_of_eq g2.symm)
 have K10 := K3.trans K9q (allS (Or.inr sz_b2) all0)
 have A11_ : Arv Z h9 b2 c2 .byte (3 : Int32) [.int 123, .int 42, .int 125] (.int 0) := A9
 refine own_lvF X9 Bd (.ref b2) e9 ⟨b2, c2, rfl, N9, K10, sz_b2, A11_⟩ rfl (fun fs hr => pre0 _ (by
  show Sx p e below s₁ m 0 #[rv qa1, iv 0, iv 3, .unset, .unset] [] _
  refine zj X0 Bd d37_0 rfl ?_
  refine zj X0 Bd d37_1 rfl ?_
  refine st1 _ ?_
  refine zj X1 Bd d37_5 rfl ?_
  refine zj X1 Bd d37_6 rfl ?_
  refine XS.isub X1.here hx rfl (hb hby d37_7) rfl ?_
  refine zt X1 Bd d37_8 (l' := #[rv qa1, iv 0, iv 3, iv 3, .unset]) rfl ?_
  refine zj X1 Bd d37_9 rfl ?_
  refine st2 _ ?_
  refine XS.astore X2.here hx rfl (hb hby d37_12) rfl rfl (l' := #[rv qa1, iv 0, iv 3, iv 3, rv b2]) rfl ?_
  refine zb X2 Bd d37_14 rfl rfl ?_
  refine zj X2 Bd d37_15 rfl ?_
  refine za X2 Bd d37_16 rfl rfl ?_
  refine zc X2 Bd d37_18 ?_
  refine zb X2 Bd d37_19 rfl rfl ?_
  refine X2.arraylength hx (by rw [e2]; exact Ar5.1) (State.isArrayOf_alike hZ.alike Ar5.2.1) (g := (mkF m 20 #[rv qa1, iv 0, iv 3, iv 3, rv b2] [.ref qa1, .int 0, .ref b2, .int 0, .ref qa1])) rfl rfl (hb hby d37_20) _ ?_
  rw [len_of S5 N5]
  refine zj X2 Bd d37_21 rfl ?_
  refine XS.isub X2.here hx rfl (hb hby d37_22) rfl ?_
  refine zj X2 Bd d37_23 rfl ?_
  refine st7 _ ?_
  refine st9 _ ?_
  refine za X9 Bd d37_30 rfl rfl ?_
  exact retOut X9 hx Bd.returns rfl (Or.inr (Or.inr (Or.inr (Or.inr ⟨rfl, rfl, rfl⟩)))) (hb hby d37_32) hr))
theorem pd29 : parseMethodDescriptor "([BII)[B" = some ⟨[(.array .byte), .int, .int], some (.array .byte)⟩ := by decide +kernel
theorem d36_16 : decode jdk_65_method_132_code 16 = .ok (.areturn, 1) := by decide +kernel
-- java/util/Arrays.copyOfRange([BII)[B
def Q47 (Z : State)  (h0 : Heap) (n0 : Nat) (v : Option Value) (h : Heap) (L : List Loc) : Prop := ∃ b3 : Addr, ∃ c4_ : ClassId, v = some (.ref b3) ∧ Fr n0 L ∧ Keep h0 h [] ∧ h0.size ≤ b3 ∧ Arv Z h b3 c4_ .byte (3 : Int32) [.int 123, .int 42, .int 125] (.int 0)
theorem rm47 (l : Launch) (Z : State) (a0 : Array Value) (hw : HW a0 Z) (qa1 : Addr) (qk2 : ClassId) (h0 : Heap) (n0 : Nat) (X00 : Old Z n0 h0) (A_qa1 : Arv Z h0 qa1 qk2 .byte (16 : Int32) [.int 123, .int 42, .int 125, .int 0, .int 0, .int 0, .int 0, .int 0, .int 0, .int 0, .int 0, .int 0, .int 0, .int 0, .int 0, .int 0] (.int 0)) :
    MF l Z Y37_ jdk_65_method_132_code 3 (some (.array .byte)) (Rm 2 1 3 34) #[.ref qa1, .int 0, .int 3] h0 (Q47 Z  h0 n0) := by
 refine own_sF pn8 rfl (fun m => ef16 m qa1 (0 : Int32) (3 : Int32)) ?_
 intro p e s m below meth c s₁ Bd hZ hh hx hby hml hown hnm X0 e0 pre0
 have N0 := Fr.nil n0
 have av1 := A_qa1
 obtain ⟨cl1, Ar1, q1, S1, N1, H1, Gf1⟩ := av1
 obtain ⟨_, T2, L2, X2, hQ2, st2⟩ := own_cS 1 3 [] 13 #[rv qa1, iv 0, iv 3] X0 hx hZ hown (w250_ hw) (w251_ hw) (w248_ hw) (w252_ hw) (rm46 l Z a0 hw  qa1 qk2 h0 n0 X00 A_qa1) pd29 hml.symm (hb hby d36_13) e0 rfl rfl rfl rfl (by decide)
 obtain ⟨b3, c4_, rfl, N2q, K2q, w5, w6⟩ := hQ2
 have N2 := Fr.app N0 N2q
 have K7 := (Keep.refl h0 []).trans K2q (fun x q => nomatch q)
 have sz_b3 : h0.size ≤ b3 := w5
 refine own_lvF X2 Bd (.ref b3) rfl ⟨b3, c4_, rfl, N2, K7, sz_b3, w6⟩ rfl (fun fs hr => pre0 _ (by
  show Sx p e below s₁ m 0 #[rv qa1, iv 0, iv 3] [] _
  refine zj X0 Bd d36_0 rfl ?_
  refine zo X0 Bd d36_1 (XT.i0_ne_f ((by decide) : (0 : Int32) = (0 : Int32))) ?_
  refine zj X0 Bd d36_4 rfl ?_
  refine zb X0 Bd d36_5 rfl rfl ?_
  refine X0.arraylength hx (by rw [e0]; exact Ar1.1) (State.isArrayOf_alike hZ.alike Ar1.2.1) (g := (mkF m 6 #[rv qa1, iv 0, iv 3] [.ref qa1, .int 3])) rfl rfl (hb hby d36_6) _ ?_
  rw [len_of S1 N1]
  refine zn X0 Bd d36_7 (XT.ii_eq_f ((by decide) : ¬ ((3 : Int32) = (16 : Int32)))) ?_
  refine zb X0 Bd d36_10 rfl rfl ?_
  refine zj X0 Bd d36_11 rfl ?_
  refine zj X0 Bd d36_12 rfl ?_
  refine st2 _ ?_
  exact retOut X2 hx Bd.returns rfl (Or.inr (Or.inr (Or.inr (Or.inr ⟨rfl, rfl, rfl⟩)))) (hb hby d36_16) hr))
theorem d31_35 : decode jdk_42_method_150_code 35 = .ok (.putfield 9, 3) := by decide +kernel
theorem d31_38 : decode jdk_42_method_150_code 38 = .ok (.goto 59, 3) := by decide +kernel
theorem d31_97 : decode jdk_42_method_150_code 97 = .ok (.return_, 1) := by decide +kernel
-- java/lang/String.<init>(Ljava/lang/AbstractStringBuilder;Ljava/lang/Void;)V
def Q48 (Z : State) (qa1 : Addr) (h0 : Heap) (n0 : Nat) (v : Option Value) (h : Heap) (L : List Loc) : Prop := ∃ b11 : Addr, ∃ c12_ : ClassId, v = none ∧ Fr n0 L ∧ Keep h0 h [qa1] ∧ h0.size ≤ b11 ∧ Exa Z h qa1 "java/lang/String" ∧ Fld Z h qa1 "java/lang/String" "coder" "B" (.int 0) ∧ Fld Z h qa1 "java/lang/String" "value" "[B" (.ref b11) ∧ Arv Z h b11 c12_ .byte (3 : Int32) [.int 123, .int 42, .int 125] (.int 0)
theorem rm48 (l : Launch) (Z : State) (a0 : Array Value) (hw : HW a0 Z) (G1 : Int32) (qa1 : Addr) (qa2 : Addr) (qa3 : Addr) (qk4 : ClassId) (h0 : Heap) (n0 : Nat) (X00 : Old Z n0 h0) (O2 : Sta Z Z.heap "java/lang/String" "COMPACT_STRINGS" "Z" (.int G1)) (P5 : ¬ (G1 = (0 : Int32))) (E_qa2 : Exa Z h0 qa2 "java/lang/StringBuilder") (F_qa2_value : Fld Z h0 qa2 "java/lang/AbstractStringBuilder" "value" "[B" (.ref qa3)) (F_qa2_count : Fld Z h0 qa2 "java/lang/AbstractStringBuilder" "count" "I" (.int 3)) (F_qa2_coder : Fld Z h0 qa2 "java/lang/AbstractStringBuilder" "coder" "B" (.int 0)) (E_qa1 : Exa Z h0 qa1 "java/lang/String") (F_qa1_coder : Fld Z h0 qa1 "java/lang/String" "coder" "B" (.int 0)) (g_qa1 : n0 ≤ qa1) (A_qa3 : Arv Z h0 qa3 qk4 .byte (16 : Int32) [.int 123, .int 42, .int 125, .int 0, .int 0, .int 0, .int 0, .int 0, .int 0, .int 0, .int 0, .int 0, .int 0, .int 0, .int 0, .int 0] (.int 0)) (ne_qa3_qa1 : qa3 ≠ qa1) (F_qa1_value : Fld Z h0 qa1 "java/lang/String" "value" "[B" .null) :
    MF l Z Y38_ jdk_42_method_150_code 5 none (Rm 3 1 3 49) #[.ref qa1, .ref qa2, .null] h0 (Q48 Z qa1 h0 n0) := by
 refine own_sF pn1 rfl (fun m => ef15 m qa1 qa2) ?_
 intro p e s m below meth c s₁ Bd hZ hh hx hby hml hown hnm X0 e0 pre0
 have N0 := Fr.nil n0
 obtain ⟨T1, X1, e1, st1⟩ := initO X0 hx hZ hown (w15_ hw) (w16_ hw) (w17_ hw) e0 (g := (mkF m 1 #[rv qa1, rv qa2, .val .null, .unset, .unset] [.ref qa1])) rfl hml.symm rfl (hb hby d31_1) (by decide) (W := 0) (own_hw rfl) (lE rfl)
 obtain ⟨_, T2, L2, X2, hQ2, st2⟩ := own_cV 0 0 [] 5 #[rv qa1, rv qa2, .val .null, .unset, .unset] X1 hx hZ hown E_qa2 (w228_ hw) (w229_ hw) (notFace_of_selects (args := #[]) (mvT hZ (w231_ hw))) (w231_ hw) (w230_ hw) (w168_ hw) (w232_ hw) (rm40 l Z a0 hw  qa2 qa3 h0 n0 X00 F_qa2_value) pd26 hml.symm (hb hby d31_5) e1 rfl rfl rfl rfl (by decide)
 obtain ⟨rfl, N2q, e2q⟩ := hQ2
 have N2 := Fr.app N0 N2q
 obtain ⟨_, T3, L3, X3, hQ3, st3⟩ := own_cV 0 0 [] 10 #[rv qa1, rv qa2, .val .null, rv qa3, .unset] X2 hx hZ hown E_qa2 (w233_ hw) (w234_ hw) (own_nf (mvT (args := #[]) hZ (w193_ hw)) rfl) (w236_ hw) (w237_ hw) (w160_ hw) (w238_ hw) (rm42 l Z a0 hw  qa2 h0 n0 X00 F_qa2_count E_qa2) pd7 hml.symm (hb hby d31_10) e2q rfl rfl rfl rfl (by decide)
 obtain ⟨rfl, N3q, e3q⟩ := hQ3
 have N3 := Fr.app N2 N3q
 obtain ⟨_, T4, L4, X4, hQ4, st4⟩ := own_cV 0 0 [] 16 #[rv qa1, rv qa2, .val .null, rv qa3, iv 3] X3 hx hZ hown E_qa2 (w241_ hw) (w242_ hw) (notFace_of_selects (args := #[]) (mvT hZ (w244_ hw))) (w244_ hw) (w243_ hw) (w168_ hw) (w245_ hw) (rm43 l Z a0 hw G1 qa2 h0 n0 X00 O2 P5 F_qa2_coder) pd14 hml.symm (hb hby d31_16) e3q rfl rfl rfl rfl (by decide)
 obtain ⟨rfl, N4q, e4q⟩ := hQ4
 have N4 := Fr.app N3 N4q
 obtain ⟨T5, h5, X5, e5, W5, st5⟩ := putF X4 hx hZ hown (host := "") (Or.inl (w25_ hw)) Via.refl e4q F_qa1_coder E_qa1 (Or.inr ⟨(w21_ hw), rfl, hnm⟩) (w5_ hw) (ty := .byte) (by decide) rfl rfl (g := (mkF m 24 #[rv qa1, rv qa2, .val .null, rv qa3, iv 3] [.int 0, .ref qa1])) rfl rfl (hb hby d31_24)
 have N5 := Fr.snoc X5 N4 g_qa1
 have K6 := (Keep.refl h0 [qa1]).wr W5 (Or.inl (mI 0 rfl))
 have F7_ : Fld Z h5 qa1 "java/lang/String" "coder" "B" (.int 0) := F_qa1_coder.same W5
 have A9_ := A_qa3.other W5 ne_qa3_qa1
 have O10 := X00.wr W5 g_qa1
 obtain ⟨_, T8, L8, X8, hQ8, st8⟩ := own_cS 1 3 [.ref qa1] 32 #[rv qa1, rv qa2, .val .null, rv qa3, iv 3] X5 hx hZ hown (w246_ hw) (w247_ hw) (w248_ hw) (w249_ hw) (rm47 l Z a0 hw  qa3 qk4 h5 n0 O10 A9_) pd29 hml.symm (hb hby d31_32) e5 rfl rfl rfl rfl (by decide)
 obtain ⟨b11, c12_, rfl, N8q, K8q, w13, w14⟩ := hQ8
 have N8 := Fr.app N5 N8q
 have K15 := K6.trans K8q (fun x q => nomatch q)
 have F16_ := F_qa1_value.other W5 (Or.inr (slot_ne (Or.inr (w20_ hw)) (Or.inr (w21_ hw)) (by decide) (t := (.array .byte)) (t' := .byte) (by decide) (by decide)))
 have F17_ := F16_.keep K8q nin0
 have E18_ := E_qa1.wr W5
 have E19_ := E18_.keep K8q
 obtain ⟨T20, h20, X20, e20, W20, st20⟩ := putF X8 hx hZ hown (host := "") (Or.inl (w24_ hw)) Via.refl rfl F17_ E19_ (Or.inr ⟨(w20_ hw), rfl, hnm⟩) (w5_ hw) (ty := (.array .byte)) (by decide) rfl rfl (g := (mkF m 35 #[rv qa1, rv qa2, .val .null, rv qa3, iv 3] [.ref b11, .ref qa1])) rfl rfl (hb hby d31_35)
 have N20 := Fr.snoc X20 N8 g_qa1
 have K21 := K15.wr W20 (Or.inl (mI 0 rfl))
 have F22_ : Fld Z h20 qa1 "java/lang/String" "value" "[B" (.ref b11) := F17_.same W20
 have sz_b11 : h0.size ≤ b11 := Nat.le_trans K6.1 w13
 have E23_ := E19_.wr W20
 have F24_ := F7_.keep K8q nin0
 have F25_ := F24_.other W20 (Or.inr (slot_ne (Or.inr (w21_ hw)) (Or.inr (w20_ hw)) (by decide) (t := .byte) (t' := (.array .byte)) (by decide) (by decide)))
 have A26_ := w14.other W20 (Ne.symm (Nat.ne_of_lt (Nat.lt_of_lt_of_le (Nat.lt_of_lt_of_le E_qa1.lt (Nat.le_of_eq W5.size.symm)) w13)))
 refine own_lvN X20 Bd e20 ⟨b11, c12_, rfl, N20, K21, sz_b11, E23_, F25_, F22_, A26_⟩ rfl (fun fs hr => pre0 _ (by
  show Sx p e below s₁ m 0 #[rv qa1, rv qa2, .val .null, .unset, .unset] [] _
  refine zb X0 Bd d31_0 rfl rfl ?_
  refine st1 _ ?_
  refine zb X1 Bd d31_4 rfl rfl ?_
  refine st2 _ ?_
  refine XS.astoreN X2.here hx rfl (hb hby d31_8) rfl rfl (l' := #[rv qa1, rv qa2, .val .null, rv qa3, .unset]) rfl ?_
  refine zb X2 Bd d31_9 rfl rfl ?_
  refine st3 _ ?_
  refine zs X3 Bd d31_13 (l' := #[rv qa1, rv qa2, .val .null, rv qa3, iv 3]) rfl ?_
  refine zb X3 Bd d31_15 rfl rfl ?_
  refine st4 _ ?_
  refine zo X4 Bd d31_19 (XT.i0_eq_f ((by decide) : ¬ ((1 : Int32) = (0 : Int32)))) ?_
  refine zb X4 Bd d31_22 rfl rfl ?_
  refine zc X4 Bd d31_23 ?_
  refine st5 _ ?_
  refine zb X5 Bd d31_27 rfl rfl ?_
  refine zb X5 Bd d31_28 rfl rfl ?_
  refine zc X5 Bd d31_29 ?_
  refine zi X5 Bd d31_30 rfl ?_
  refine st8 _ ?_
  refine st20 _ ?_
  refine zg (pc' := 97) X20 Bd d31_38 rfl ?_
  exact X20.returnOut hx Bd.returns (hb hby d31_97) hr))
theorem pd30 : parseMethodDescriptor "(Ljava/lang/AbstractStringBuilder;Ljava/lang/Void;)V" = some ⟨[(.object "java/lang/AbstractStringBuilder"), (.object "java/lang/Void")], none⟩ := by decide +kernel
theorem d30_6 : decode jdk_42_method_53_code 6 = .ok (.return_, 1) := by decide +kernel
-- java/lang/String.<init>(Ljava/lang/StringBuilder;)V
def Q49 (Z : State) (qa1 : Addr) (h0 : Heap) (n0 : Nat) (v : Option Value) (h : Heap) (L : List Loc) : Prop := ∃ b2 : Addr, ∃ c3_ : ClassId, v = none ∧ Fr n0 L ∧ Keep h0 h [qa1] ∧ h0.size ≤ b2 ∧ Exa Z h qa1 "java/lang/String" ∧ Fld Z h qa1 "java/lang/String" "coder" "B" (.int 0) ∧ Fld Z h qa1 "java/lang/String" "value" "[B" (.ref b2) ∧ Arv Z h b2 c3_ .byte (3 : Int32) [.int 123, .int 42, .int 125] (.int 0)
theorem rm49 (l : Launch) (Z : State) (a0 : Array Value) (hw : HW a0 Z) (G1 : Int32) (qa1 : Addr) (qa2 : Addr) (qa3 : Addr) (qk4 : ClassId) (h0 : Heap) (n0 : Nat) (X00 : Old Z n0 h0) (O2 : Sta Z Z.heap "java/lang/String" "COMPACT_STRINGS" "Z" (.int G1)) (P5 : ¬ (G1 = (0 : Int32))) (E_qa2 : Exa Z h0 qa2 "java/lang/StringBuilder") (F_qa2_value : Fld Z h0 qa2 "java/lang/AbstractStringBuilder" "value" "[B" (.ref qa3)) (F_qa2_count : Fld Z h0 qa2 "java/lang/AbstractStringBuilder" "count" "I" (.int 3)) (F_qa2_coder : Fld Z h0 qa2 "java/lang/AbstractStringBuilder" "coder" "B" (.int 0)) (E_qa1 : Exa Z h0 qa1 "java/lang/String") (F_qa1_coder : Fld Z h0 qa1 "java/lang/String" "coder" "B" (.int 0)) (g_qa1 : n0 ≤ qa1) (A_qa3 : Arv Z h0 qa3 qk4 .byte (16 : Int32) [.int 123, .int 42, .int 125, .int 0, .int 0, .int 0, .int 0, .int 0, .int 0, .int 0, .int 0, .int 0, .int 0, .int 0, .int 0, .int 0] (.int 0)) (ne_qa3_qa1 : qa3 ≠ qa1) (F_qa1_value : Fld Z h0 qa1 "java/lang/String" "value" "[B" .null) :
    MF l Z Y39_ jdk_42_method_53_code 2 none (Rm 4 1 3 65) #[.ref qa1, .ref qa2] h0 (Q49 Z qa1 h0 n0) := by
 refine own_sF pn1 rfl (fun m => ef2 m qa1 qa2) ?_
 intro p e s m below meth c s₁ Bd hZ hh hx hby hml hown hnm X0 e0 pre0
 have N0 := Fr.nil n0
 obtain ⟨_, T1, L1, X1, hQ1, st1⟩ := own_cI 1 3 [] 3 #[rv qa1, rv qa2] X0 hx hZ hown (w225_ hw) (w226_ hw) (w6_ hw) (w227_ hw) (rm48 l Z a0 hw G1 qa1 qa2 qa3 qk4 h0 n0 X00 O2 P5 E_qa2 F_qa2_value F_qa2_count F_qa2_coder E_qa1 F_qa1_coder g_qa1 A_qa3 ne_qa3_qa1 F_qa1_value) pd30 hml.symm (hb hby d30_3) e0 rfl rfl rfl rfl rfl (by decide)
 obtain ⟨b2, c3_, rfl, N1q, K1q, w4, w5, w6, w7, w8⟩ := hQ1
 have N1 := Fr.app N0 N1q
 have K9 := (Keep.refl h0 [qa1]).trans K1q (allS (Or.inl (mI 0 rfl)) all0)
 have sz_b2 : h0.size ≤ b2 := w4
 have E10_ := E_qa1.keep K1q
 refine own_lvN X1 Bd rfl ⟨b2, c3_, rfl, N1, K9, sz_b2, E10_, w6, w7, w8⟩ rfl (fun fs hr => pre0 _ (by
  show Sx p e below s₁ m 0 #[rv qa1, rv qa2] [] _
  refine zb X0 Bd d30_0 rfl rfl ?_
  refine zb X0 Bd d30_1 rfl rfl ?_
  refine XS.aconstNull X0.here hx rfl (hb hby d30_2) ?_
  refine st1 _ ?_
  exact X1.returnOut hx Bd.returns (hb hby d30_6) hr))
theorem pd31 : parseMethodDescriptor "(Ljava/lang/StringBuilder;)V" = some ⟨[(.object "java/lang/StringBuilder")], none⟩ := by decide +kernel
theorem d29_8 : decode jdk_67_method_42_code 8 = .ok (.areturn, 1) := by decide +kernel
-- java/lang/StringBuilder.toString()Ljava/lang/String;
def Q50 (Z : State)  (h0 : Heap) (n0 : Nat) (v : Option Value) (h : Heap) (L : List Loc) : Prop := ∃ b1 : Addr, ∃ b12 : Addr, ∃ c13_ : ClassId, v = some (.ref b1) ∧ Fr n0 L ∧ Keep h0 h [] ∧ h0.size ≤ b1 ∧ h0.size ≤ b12 ∧ b1 ≠ b12 ∧ Exa Z h b1 "java/lang/String" ∧ Fld Z h b1 "java/lang/String" "coder" "B" (.int 0) ∧ Fld Z h b1 "java/lang/String" "value" "[B" (.ref b12) ∧ Arv Z h b12 c13_ .byte (3 : Int32) [.int 123, .int 42, .int 125] (.int 0)
theorem rm50 (l : Launch) (Z : State) (a0 : Array Value) (hw : HW a0 Z) (G1 : Int32) (qa1 : Addr) (qa2 : Addr) (qk3 : ClassId) (h0 : Heap) (n0 : Nat) (X00 : Old Z n0 h0) (O2 : Sta Z Z.heap "java/lang/String" "COMPACT_STRINGS" "Z" (.int G1)) (P5 : ¬ (G1 = (0 : Int32))) (E_qa1 : Exa Z h0 qa1 "java/lang/StringBuilder") (F_qa1_value : Fld Z h0 qa1 "java/lang/AbstractStringBuilder" "value" "[B" (.ref qa2)) (F_qa1_count : Fld Z h0 qa1 "java/lang/AbstractStringBuilder" "count" "I" (.int 3)) (F_qa1_coder : Fld Z h0 qa1 "java/lang/AbstractStringBuilder" "coder" "B" (.int 0)) (A_qa2 : Arv Z h0 qa2 qk3 .byte (16 : Int32) [.int 123, .int 42, .int 125, .int 0, .int 0, .int 0, .int 0, .int 0, .int 0, .int 0, .int 0, .int 0, .int 0, .int 0, .int 0, .int 0] (.int 0)) :
    MF l Z Y40_ jdk_67_method_42_code 1 (some (.object "java/lang/String")) (Rm 5 2 7 79) #[.ref qa1] h0 (Q50 Z  h0 n0) := by
 refine own_sF pn6 rfl (fun m => ef8 m qa1) ?_
 intro p e s m below meth c s₁ Bd hZ hh hx hby hml hown hnm X0 e0 pre0
 have N0 := Fr.nil n0
 obtain ⟨T1, h1, X1, e1, E1, A1, D1, -, st1⟩ := newO X0 hx hZ hown (w221_ hw) (w5_ hw) (w6_ hw) e0 (g := (mkF m 0 #[rv qa1] [])) rfl (hb hby d29_0) (lE rfl) (lE rfl)
 obtain ⟨b1, g1⟩ : ∃ z, z = h0.size := ⟨_, rfl⟩
 rw [← g1] at A1 D1 st1
 replace X1 : Stand p l e (Rm 5 2 7 79) s m #[.ref qa1] below meth c T1 _ 1 4 := X1
 have K2 := (Keep.refl h0 []).ext E1
 have F3_ : Fld Z h1 b1 "java/lang/String" "value" "[B" .null := D1 (Or.inr (w20_ hw)) (ty := (.array .byte)) (by decide)
 have F4_ : Fld Z h1 b1 "java/lang/String" "coder" "B" (.int 0) := D1 (Or.inr (w21_ hw)) (ty := .byte) (by decide)
 have E6_ := E_qa1.ext E1
 have F7_ := F_qa1_value.ext E1
 have F8_ := F_qa1_count.ext E1
 have F9_ := F_qa1_coder.ext E1
 have g_b1 : n0 ≤ b1 := Nat.le_trans (Nat.le_trans (Nat.le_of_eq X00.1.symm) X00.2.1) (Nat.le_of_eq g1.symm)
 have A10_ := A_qa2.ext E1
 have O11 := X00.ext E1
 obtain ⟨_, T5, L5, X5, hQ5, st5⟩ := own_cI 2 7 [.ref b1] 5 #[rv qa1] X1 hx hZ hown (w222_ hw) (w223_ hw) (w6_ hw) (w224_ hw) (rm49 l Z a0 hw G1 b1 qa1 qa2 qk3 h1 n0 O11 O2 P5 E6_ F7_ F8_ F9_ A1 F4_ g_b1 A10_ (Nat.ne_of_lt (Nat.lt_of_lt_of_le A_qa2.lt (Nat.le_of_eq g1.symm))) F3_) pd31 hml.symm (hb hby d29_5) e1 rfl rfl rfl rfl rfl (by decide)
 obtain ⟨b12, c13_, rfl, N5q, K5q, w14, w15, w16, w17, w18⟩ := hQ5
 have N5 := Fr.app N0 N5q
 have sz_b1 : h0.size ≤ b1 := (Nat.le_of_eq g1.symm)
 have K19 := K2.trans K5q (allS (Or.inr sz_b1) all0)
 have sz_b12 : h0.size ≤ b12 := Nat.le_trans K2.1 w14
 have E20_ := A1.keep K5q
 refine own_lvF X5 Bd (.ref b1) rfl ⟨b1, b12, c13_, rfl, N5, K19, sz_b1, sz_b12, (Nat.ne_of_lt (Nat.lt_of_lt_of_le A1.lt w14)), E20_, w16, w17, w18⟩ rfl (fun fs hr => pre0 _ (by
  show Sx p e below s₁ m 0 #[rv qa1] [] _
  refine st1 _ ?_
  refine XS.dup X1.here hx rfl (hb hby d29_3) rfl rfl ?_
  refine zb X1 Bd d29_4 rfl rfl ?_
  refine st5 _ ?_
  exact retOut X5 hx Bd.returns rfl (Or.inr (Or.inr (Or.inr (Or.inr ⟨rfl, rfl, rfl⟩)))) (hb hby d29_8) hr))
theorem d19_46 : decode prog_15_method_18_code 46 = .ok (.areturn, 1) := by decide +kernel
-- com/example/echoes_to_canon/echoestocanon/UrlKeys$Value.toString()Ljava/lang/String;
def Q51 (Z : State)  (h0 : Heap) (n0 : Nat) (v : Option Value) (h : Heap) (L : List Loc) : Prop := ∃ b110 : Addr, ∃ b111 : Addr, ∃ c112_ : ClassId, v = some (.ref b110) ∧ Fr n0 L ∧ Keep h0 h [] ∧ h0.size ≤ b110 ∧ h0.size ≤ b111 ∧ b110 ≠ b111 ∧ Exa Z h b110 "java/lang/String" ∧ Fld Z h b110 "java/lang/String" "coder" "B" (.int 0) ∧ Fld Z h b110 "java/lang/String" "value" "[B" (.ref b111) ∧ Arv Z h b111 c112_ .byte (3 : Int32) [.int 123, .int 42, .int 125] (.int 0)
theorem rm51 (l : Launch) (Z : State) (a0 : Array Value) (hw : HW a0 Z) (G1 : Int32) (qa1 : Addr) (qa2 : Addr) (qa3 : Addr) (qk4 : ClassId) (h0 : Heap) (n0 : Nat) (X00 : Old Z n0 h0) (O2 : Sta Z Z.heap "java/lang/String" "COMPACT_STRINGS" "Z" (.int G1)) (P5 : ¬ (G1 = (0 : Int32))) (F_qa1_variable : Fld Z h0 qa1 "com/example/echoes_to_canon/echoestocanon/UrlKeys$Value" "variable" "Ljava/lang/String;" (.ref qa2)) (F_qa1_run : Fld Z h0 qa1 "com/example/echoes_to_canon/echoestocanon/UrlKeys$Value" "run" "Z" (.int 1)) (E_qa2 : Exa Z h0 qa2 "java/lang/String") (F_qa2_coder : Fld Z h0 qa2 "java/lang/String" "coder" "B" (.int 0)) (F_qa2_value : Fld Z h0 qa2 "java/lang/String" "value" "[B" (.ref qa3)) (A_qa3 : Arv Z h0 qa3 qk4 .byte (0 : Int32) [] (.int 0)) :
    MW l Z consts_1 Y41_ prog_15_method_18_code 1 (some (.object "java/lang/String")) (Rm 6 8 47 91) #[.ref qa1] h0 (Q51 Z  h0 n0) := by
 refine own_sW pn4 rfl (fun m => ef8 m qa1) ?_
 intro p e s m below meth c s₁ Bd hZ hh hx hby hml hown hnm X0 e0 pre0 hC0 hS0 hk0 hR0
 have N0 := Fr.nil n0
 have hEL := own_EW hw
 have hwS := own_wS hw
 obtain ⟨T1, X1, e1, st1⟩ := getF X0 hx hZ hown (host := "") (Or.inl (w117_ hw)) Via.refl e0 F_qa1_variable (g := (mkF m 1 #[rv qa1] [.ref qa1])) rfl rfl (hb hby d19_1)
 obtain ⟨T2, X2, e2, st2⟩ := getF X1 hx hZ hown (host := "") (Or.inl (w119_ hw)) Via.refl e1 F_qa1_run (g := (mkF m 13 #[rv qa1] [.ref qa1])) rfl rfl (hb hby d19_13)
 obtain ⟨T3, h3, X3, e3, E3, A3, D3, -, st3⟩ := newO X2 hx hZ hown (w158_ hw) (w159_ hw) (w160_ hw) e2 (g := (mkF m 19 #[rv qa1] [])) rfl (hb hby d19_19) (lE rfl) (lE rfl)
 obtain ⟨b3, g3⟩ : ∃ z, z = h0.size := ⟨_, rfl⟩
 rw [← g3] at A3 D3 st3
 replace X3 : Stand p l e (Rm 6 8 47 91) (s.setVm s.vm) m #[.ref qa1] below meth c T3 _ 1 4 := X3
 have K4 := (Keep.refl h0 []).ext E3
 have C5 : CHv Z consts_1 s.vm h3 := CHv.ext E3 hC0
 have R6 : CHr Z consts_1 s.vm h0 s.vm h3 := hR0.trans (CHr.ext E3 hC0)
 have F7_ : Fld Z h3 b3 "java/lang/AbstractStringBuilder" "value" "[B" .null := D3 (Or.inl (w173_ hw)) (ty := (.array .byte)) (by decide)
 have F8_ : Fld Z h3 b3 "java/lang/AbstractStringBuilder" "coder" "B" (.int 0) := D3 (Or.inl (w175_ hw)) (ty := .byte) (by decide)
 have F9_ : Fld Z h3 b3 "java/lang/AbstractStringBuilder" "count" "I" (.int 0) := D3 (Or.inl (w189_ hw)) (ty := .int) (by decide)
 have g_b3 : n0 ≤ b3 := Nat.le_trans (Nat.le_trans (Nat.le_of_eq X00.1.symm) X00.2.1) (Nat.le_of_eq g3.symm)
 have O11 := X00.ext E3
 obtain ⟨_, T10, L10, X10, hQ10, st10⟩ := own_cI 2 20 [.ref b3] 23 #[rv qa1] X3 hx hZ hown (w161_ hw) (w162_ hw) (w160_ hw) (w163_ hw) (rm22 l Z a0 hw G1 b3 h3 n0 O11 O2 P5 A3 F7_ g_b3 F8_ F9_) pd19 hml.symm (hb hby d19_23) e3 rfl rfl rfl rfl rfl (by decide)
 obtain ⟨b12, c13_, rfl, N10q, K10q, w14, w15, w16, w17, w18, w19⟩ := hQ10
 have N10 := Fr.app N0 N10q
 have sz_b3 : h0.size ≤ b3 := (Nat.le_of_eq g3.symm)
 have K20 := K4.trans K10q (allS (Or.inr sz_b3) all0)
 have C21 : CHv Z consts_1 s.vm T10.heap := CHv.keep K10q (sfS (Safe.exa hZ.alike A3 (by decide) (by decide)) sf0) C5
 have R22 : CHr Z consts_1 s.vm h0 s.vm T10.heap := R6.trans (CHr.keep K10q (sfS (Safe.exa hZ.alike A3 (by decide) (by decide)) sf0) C5)
 have hk24' : _ ≤ T10.heap.size := (Nat.le_trans (Nat.le_trans hk0 E3.1) K10q.1)
 obtain ⟨b23, T23, h23, k23, t23, c23, X23, e23, E23, hS23, hk23, hZ23, ho23, Ex23, Fc23, Fv23, Av23, lb23, lt23, CR23, -, sf23, st23⟩ := ldcCH (text := "{") (EL := consts_1) X10 hx hZ hown (w176_ hw) hwS rfl hS0 hk24' hEL (by decide) C21 (vs := [.int 123]) (z := (1 : Int32)) ⟨by decide, by decide⟩ (by decide) (by decide) (g := (mkF m 26 #[rv qa1] [.ref b3])) rfl (hb hby d19_26) (n := 4) (by decide) (lE rfl) (lE rfl) (lE rfl)
 have K25 := K20.ext E23
 have R27 := R22.trans CR23
 replace X23 : Stand p l e (Rm 6 8 47 91) (s.setVm T23.vm) m #[.ref qa1] below meth c T23 _ 4 28 := X23
 have hp29 : ∀ c ∈ ([123] : List Int32), ¬ c < 0 ∧ ¬ (255 : Int32) < c := (List.forall_mem_cons.mpr ⟨(by decide), (fun _ q => nomatch q)⟩)
 have F30_ := w18.ext E23
 have F31_ := w16.ext E23
 have A32_ := w19.ext E23
 have F33_ := w17.ext E23
 have E34_ := A3.keep K10q
 have E35_ := E34_.ext E23
 have g_b12 : n0 ≤ b12 := Nat.le_trans (Nat.le_trans (Nat.le_of_eq O11.1.symm) O11.2.1) w14
 have O36 := O11.keep K10q (allS g_b3 all0)
 have O37 := O36.ext E23
 obtain ⟨_, T28, L28, X28, hQ28, st28⟩ := own_cV 4 28 [] 28 #[rv qa1] X23 hx hZ23 ho23 E35_ (w177_ hw) (w178_ hw) (notFace_of_selects (args := #[]) (mvT hZ23 (w180_ hw))) (w180_ hw) (w179_ hw) (w160_ hw) (w181_ hw) (rm29 l Z a0 hw G1 b3 b23 t23 c23 b12 c13_ h23 n0 O37 O2 P5 Ex23 Fc23 Fv23 hp29 Av23 F30_ F31_ A32_ F33_ E35_ g_b12 (Nat.ne_of_lt (Nat.lt_of_lt_of_le A3.lt w14)) g_b3) pd25 hml.symm (hb hby d19_28) e23 rfl rfl rfl rfl (by decide)
 obtain ⟨rfl, N28q, K28q, w38, w39, w40, w41, w42⟩ := hQ28
 have N28 := Fr.app N10 N28q
 have sz_b12 : h0.size ≤ b12 := Nat.le_trans K4.1 w14
 have K43 := K25.trans K28q (allS (Or.inr sz_b3) (allS (Or.inr sz_b12) all0))
 have f45 : Safe Z consts_1 s.vm T10.heap b12 := Safe.keep K10q (sfS (Safe.exa hZ.alike A3 (by decide) (by decide)) sf0) C5 (Safe.new w14)
 have f46 : Safe Z consts_1 T23.vm h23 b12 := CR23.safe w19.lt f45
 have C44 : CHv Z consts_1 T23.vm T28.heap := CHv.keep K28q (sfS (Safe.exa hZ23.alike E35_ (by decide) (by decide)) (sfS f46 sf0)) CR23.1
 have R47 : CHr Z consts_1 s.vm h0 T23.vm T28.heap := R27.trans (CHr.keep K28q (sfS (Safe.exa hZ23.alike E35_ (by decide) (by decide)) (sfS f46 sf0)) CR23.1)
 have F49_ := F_qa1_variable.ext E3
 have F50_ := F49_.keep K10q (ninS (Nat.ne_of_lt (Nat.lt_of_lt_of_le F_qa1_variable.lt (Nat.le_of_eq g3.symm))) nin0)
 have F51_ := F50_.ext E23
 have F52_ := F51_.keep K28q (ninS (Nat.ne_of_lt (Nat.lt_of_lt_of_le F_qa1_variable.lt (Nat.le_of_eq g3.symm))) (ninS (Nat.ne_of_lt (Nat.lt_of_lt_of_le (Nat.lt_of_lt_of_le F_qa1_variable.lt E3.1) w14)) nin0))
 obtain ⟨T48, X48, e48, st48⟩ := getF X28 hx hZ23 ho23 (host := "") (Or.inl (w117_ hw)) Via.refl rfl F52_ (g := (mkF m 32 #[rv qa1] [.ref qa1, .ref b3])) rfl rfl (hb hby d19_32)
 have E54_ := E_qa2.ext E3
 have E55_ := E54_.keep K10q
 have E56_ := E55_.ext E23
 have E57_ := E56_.keep K28q
 have F58_ := F_qa2_coder.ext E3
 have F59_ := F58_.keep K10q (ninS (Nat.ne_of_lt (Nat.lt_of_lt_of_le E_qa2.lt (Nat.le_of_eq g3.symm))) nin0)
 have F60_ := F59_.ext E23
 have F61_ := F60_.keep K28q (ninS (Nat.ne_of_lt (Nat.lt_of_lt_of_le E_qa2.lt (Nat.le_of_eq g3.symm))) (ninS (Nat.ne_of_lt (Nat.lt_of_lt_of_le (Nat.lt_of_lt_of_le E_qa2.lt E3.1) w14)) nin0))
 have hp62 : ∀ c ∈ ([] : List Int32), ¬ c < 0 ∧ ¬ (255 : Int32) < c := (fun _ q => nomatch q)
 have F63_ := F_qa2_value.ext E3
 have F64_ := F63_.keep K10q (ninS (Nat.ne_of_lt (Nat.lt_of_lt_of_le E_qa2.lt (Nat.le_of_eq g3.symm))) nin0)
 have F65_ := F64_.ext E23
 have F66_ := F65_.keep K28q (ninS (Nat.ne_of_lt (Nat.lt_of_lt_of_le E_qa2.lt (Nat.le_of_eq g3.symm))) (ninS (Nat.ne_of_lt (Nat.lt_of_lt_of_le (Nat.lt_of_lt_of_le E_qa2.lt E3.1) w14)) nin0))
 have A67_ := A_qa3.ext E3
 have A68_ := A67_.keep K10q (ninS (Nat.ne_of_lt (Nat.lt_of_lt_of_le A_qa3.lt (Nat.le_of_eq g3.symm))) nin0)
 have A69_ := A68_.ext E23
 have A70_ := A69_.keep K28q (ninS (Nat.ne_of_lt (Nat.lt_of_lt_of_le A_qa3.lt (Nat.le_of_eq g3.symm))) (ninS (Nat.ne_of_lt (Nat.lt_of_lt_of_le (Nat.lt_of_lt_of_le A_qa3.lt E3.1) w14)) nin0))
 have E71_ := E35_.keep K28q
 have O72 := O37.keep K28q (allS g_b3 (allS g_b12 all0))
 obtain ⟨_, T53, L53, X53, hQ53, st53⟩ := own_cV 4 28 [] 35 #[rv qa1] X48 hx hZ23 ho23 E71_ (w177_ hw) (w178_ hw) (notFace_of_selects (args := #[]) (mvT hZ23 (w180_ hw))) (w180_ hw) (w179_ hw) (w160_ hw) (w181_ hw) (rm34 l Z a0 hw G1 b3 qa2 qa3 qk4 b12 c13_ T28.heap n0 O72 O2 P5 E57_ F61_ F66_ A70_ w39 w40 w42 w41 E71_ g_b12 (Nat.ne_of_lt (Nat.lt_of_lt_of_le A3.lt w14)) g_b3) pd25 hml.symm (hb hby d19_35) e48 rfl rfl rfl rfl (by decide)
 obtain ⟨rfl, N53q, K53q, w73, w74, w75, w76, w77⟩ := hQ53
 have N53 := Fr.app N28 N53q
 have K78 := K43.trans K53q (allS (Or.inr sz_b3) (allS (Or.inr sz_b12) all0))
 have f80 : Safe Z consts_1 T23.vm T28.heap b12 := Safe.keep K28q (sfS (Safe.exa hZ23.alike E35_ (by decide) (by decide)) (sfS f46 sf0)) CR23.1 f46
 have C79 : CHv Z consts_1 T23.vm T53.heap := CHv.keep K53q (sfS (Safe.exa hZ23.alike E71_ (by decide) (by decide)) (sfS f80 sf0)) C44
 have R81 : CHr Z consts_1 s.vm h0 T23.vm T53.heap := R47.trans (CHr.keep K53q (sfS (Safe.exa hZ23.alike E71_ (by decide) (by decide)) (sfS f80 sf0)) C44)
 have hk83' : _ ≤ T53.heap.size := (Nat.le_trans (Nat.le_trans hk23 K28q.1) K53q.1)
 obtain ⟨b82, T82, h82, k82, t82, c82, X82, e82, E82, hS82, hk82, hZ82, ho82, Ex82, Fc82, Fv82, Av82, lb82, lt82, CR82, -, sf82, st82⟩ := ldcCH (text := "*}") (EL := consts_1) X53 hx hZ23 ho23 (w215_ hw) hwS rfl hS23 hk83' hEL (by decide) C79 (vs := [.int 42, .int 125]) (z := (2 : Int32)) ⟨by decide, by decide⟩ (by decide) (by decide) (g := (mkF m 38 #[rv qa1] [.ref b3])) rfl (hb hby d19_38) (n := 8) (by decide) (lE rfl) (lE rfl) (lE rfl)
 have K84 := K78.ext E82
 have R86 := R81.trans CR82
 replace X82 : Stand p l e (Rm 6 8 47 91) (s.setVm T82.vm) m #[.ref qa1] below meth c T82 _ 6 40 := X82
 have hp88 : ∀ c ∈ ([42, 125] : List Int32), ¬ c < 0 ∧ ¬ (255 : Int32) < c := (List.forall_mem_cons.mpr ⟨(by decide), (List.forall_mem_cons.mpr ⟨(by decide), (fun _ q => nomatch q)⟩)⟩)
 have F89_ := w74.ext E82
 have F90_ := w75.ext E82
 have A91_ := w77.ext E82
 have F92_ := w76.ext E82
 have E93_ := E71_.keep K53q
 have E94_ := E93_.ext E82
 have O95 := O72.keep K53q (allS g_b3 (allS g_b12 all0))
 have O96 := O95.ext E82
 obtain ⟨_, T87, L87, X87, hQ87, st87⟩ := own_cV 6 40 [] 40 #[rv qa1] X82 hx hZ82 ho82 E94_ (w177_ hw) (w178_ hw) (notFace_of_selects (args := #[]) (mvT hZ82 (w180_ hw))) (w180_ hw) (w179_ hw) (w160_ hw) (w181_ hw) (rm39 l Z a0 hw G1 b3 b82 t82 c82 b12 c13_ h82 n0 O96 O2 P5 Ex82 Fc82 Fv82 hp88 Av82 F89_ F90_ A91_ F92_ E94_ g_b12 (Nat.ne_of_lt (Nat.lt_of_lt_of_le A3.lt w14)) g_b3) pd25 hml.symm (hb hby d19_40) e82 rfl rfl rfl rfl (by decide)
 obtain ⟨rfl, N87q, K87q, w97, w98, w99, w100, w101⟩ := hQ87
 have N87 := Fr.app N53 N87q
 have K102 := K84.trans K87q (allS (Or.inr sz_b3) (allS (Or.inr sz_b12) all0))
 have f104 : Safe Z consts_1 T23.vm T53.heap b12 := Safe.keep K53q (sfS (Safe.exa hZ23.alike E71_ (by decide) (by decide)) (sfS f80 sf0)) C44 f80
 have f105 : Safe Z consts_1 T82.vm h82 b12 := CR82.safe (Nat.lt_of_lt_of_le w19.lt (Nat.le_trans (Nat.le_trans E23.1 K28q.1) K53q.1)) f104
 have C103 : CHv Z consts_1 T82.vm T87.heap := CHv.keep K87q (sfS (Safe.exa hZ82.alike E94_ (by decide) (by decide)) (sfS f105 sf0)) CR82.1
 have R106 : CHr Z consts_1 s.vm h0 T82.vm T87.heap := R86.trans (CHr.keep K87q (sfS (Safe.exa hZ82.alike E94_ (by decide) (by decide)) (sfS f105 sf0)) CR82.1)
 have E108_ := E94_.keep K87q
 have O109 := O96.keep K87q (allS g_b3 (allS g_b12 all0))
 obtain ⟨_, T107, L107, X107, hQ107, st107⟩ := own_cV 8 47 [] 43 #[rv qa1] X87 hx hZ82 ho82 E108_ (w216_ hw) (w217_ hw) (notFace_of_selects (args := #[]) (mvT hZ82 (w219_ hw))) (w219_ hw) (w218_ hw) (w160_ hw) (w220_ hw) (rm50 l Z a0 hw G1 b3 b12 c13_ T87.heap n0 O109 O2 P5 E108_ w99 w98 w100 w101) pd15 hml.symm (hb hby d19_43) rfl rfl rfl rfl rfl (by decide)
 obtain ⟨b110, b111, c112_, rfl, N107q, K107q, w113, w114, w115, w116, w117, w118, w119⟩ := hQ107
 have N107 := Fr.app N87 N107q
 have K120 := K102.trans K107q (fun x q => nomatch q)
 have C121 : CHv Z consts_1 T82.vm T107.heap := CHv.keep K107q sf0 C103
 have R122 : CHr Z consts_1 s.vm h0 T82.vm T107.heap := R106.trans (CHr.keep K107q sf0 C103)
 have sz_b110 : h0.size ≤ b110 := Nat.le_trans K102.1 w113
 have sz_b111 : h0.size ≤ b111 := Nat.le_trans K102.1 w114
 have hk123' : _ ≤ T107.heap.size := (Nat.le_trans (Nat.le_trans hk82 K87q.1) K107q.1)
 refine own_lvW X107 Bd.notSynchronized hS82 hk123' (v := (some (.ref b110))) (fun h => by rw [Bd.returns] at h; cases h) rfl hh ⟨b110, b111, c112_, rfl, N107, K120, sz_b110, sz_b111, w115, w116, w117, w118, w119⟩ (R122.trans (CHv.at X107 hZ82 hEL C121)) (lE rfl) (lE rfl) (fun fs hr => pre0 _ (by
  show Sx p e below s₁ m 0 #[rv qa1] [] _
  refine zb X0 Bd d19_0 rfl rfl ?_
  refine st1 _ ?_
  refine XS.ifnonnullYes X1.here hx rfl (pc0 := 4) (pc' := 12) rfl (hb hby d19_4) rfl (by decide) (by decide) ?_
  refine zb X1 Bd d19_12 rfl rfl ?_
  refine st2 _ ?_
  refine zo X2 Bd d19_16 (XT.i0_eq_f ((by decide) : ¬ ((1 : Int32) = (0 : Int32)))) ?_
  refine st3 _ ?_
  refine XS.dup X3.here hx rfl (hb hby d19_22) rfl rfl ?_
  refine st10 _ ?_
  refine st23 _ ?_
  refine st28 _ ?_
  refine zb X28 Bd d19_31 rfl rfl ?_
  refine st48 _ ?_
  refine st53 _ ?_
  refine st82 _ ?_
  refine st87 _ ?_
  refine st107 _ ?_
  exact retOut X107 hx Bd.returns rfl (Or.inr (Or.inr (Or.inr (Or.inr ⟨rfl, rfl, rfl⟩)))) (hb hby d19_46) hr))
theorem ef19 (m : MethodId) (x0 : Addr) (x1 : Addr) (x2 : Addr) : entryFrame m #[.ref x0, .ref x1, .ref x2] 3 = mkF m 0 #[.val (.ref x0), .val (.ref x1), .val (.ref x2)] [] := by first | (simp [entryFrame, mkF, argsToLocals, Value.category]; done) | rfl
theorem d40_0 : decode prog_15_method_16_code 0 = .ok (.aload_n 0, 1) := by decide +kernel
theorem d40_1 : decode prog_15_method_16_code 1 = .ok (.getfield 18, 3) := by decide +kernel
theorem d40_4 : decode prog_15_method_16_code 4 = .ok (.ifCond .eq 11, 3) := by decide +kernel
theorem d40_7 : decode prog_15_method_16_code 7 = .ok (.aload_n 0, 1) := by decide +kernel
theorem d40_8 : decode prog_15_method_16_code 8 = .ok (.aload_n 1, 1) := by decide +kernel
theorem d40_9 : decode prog_15_method_16_code 9 = .ok (.invokevirtual 95, 3) := by decide +kernel
theorem d41_0 : decode prog_15_method_17_code 0 = .ok (.aload_n 0, 1) := by decide +kernel
theorem d41_1 : decode prog_15_method_17_code 1 = .ok (.getfield 22, 3) := by decide +kernel
theorem d41_4 : decode prog_15_method_17_code 4 = .ok (.ifnonnull 7, 3) := by decide +kernel
theorem d41_7 : decode prog_15_method_17_code 7 = .ok (.aload_n 1, 1) := by decide +kernel
theorem d41_8 : decode prog_15_method_17_code 8 = .ok (.goto 11, 3) := by decide +kernel
theorem d41_19 : decode prog_15_method_17_code 19 = .ok (.areturn, 1) := by decide +kernel
-- com/example/echoes_to_canon/echoestocanon/UrlKeys$Value.converted(Ljava/lang/String;)Ljava/lang/String;
def Q52 (Z : State) (qa2 : Addr) (h0 : Heap) (n0 : Nat) (v : Option Value) (h : Heap) (L : List Loc) : Prop := v = some (.ref qa2) ∧ Fr n0 L ∧ h = h0
theorem rm52 (l : Launch) (Z : State) (a0 : Array Value) (hw : HW a0 Z) (qa1 : Addr) (qa2 : Addr) (h0 : Heap) (n0 : Nat) (X00 : Old Z n0 h0) (F_qa1_conversion : Fld Z h0 qa1 "com/example/echoes_to_canon/echoestocanon/UrlKeys$Value" "conversion" "Lcom/example/echoes_to_canon/echoestocanon/Conversion;" .null) :
    MF l Z Y42_ prog_15_method_17_code 2 (some (.object "java/lang/String")) (Rm 0 0 0 0) #[.ref qa1, .ref qa2] h0 (Q52 Z qa2 h0 n0) := by
 refine own_sF pn4 rfl (fun m => ef2 m qa1 qa2) ?_
 intro p e s m below meth c s₁ Bd hZ hh hx hby hml hown hnm X0 e0 pre0
 have N0 := Fr.nil n0
 obtain ⟨T1, X1, e1, st1⟩ := getF X0 hx hZ hown (host := "") (Or.inl (w121_ hw)) Via.refl e0 F_qa1_conversion (g := (mkF m 1 #[rv qa1, rv qa2] [.ref qa1])) rfl rfl (hb hby d41_1)
 refine own_lvF X1 Bd (.ref qa2) e1 ⟨rfl, N0, rfl⟩ rfl (fun fs hr => pre0 _ (by
  show Sx p e below s₁ m 0 #[rv qa1, rv qa2] [] _
  refine zb X0 Bd d41_0 rfl rfl ?_
  refine st1 _ ?_
  refine XS.ifnonnullNo X1.here hx rfl (hb hby d41_4) rfl ?_
  refine zb X1 Bd d41_7 rfl rfl ?_
  refine zg (pc' := 19) X1 Bd d41_8 rfl ?_
  exact retOut X1 hx Bd.returns rfl (Or.inr (Or.inr (Or.inr (Or.inr ⟨rfl, rfl, rfl⟩)))) (hb hby d41_19) hr))
theorem pd32 : parseMethodDescriptor "(Ljava/lang/String;)Ljava/lang/String;" = some ⟨[(.object "java/lang/String")], some (.object "java/lang/String")⟩ := by decide +kernel
theorem d40_12 : decode prog_15_method_16_code 12 = .ok (.goto 12, 3) := by decide +kernel
theorem d40_24 : decode prog_15_method_16_code 24 = .ok (.areturn, 1) := by decide +kernel
-- com/example/echoes_to_canon/echoestocanon/UrlKeys$Value.copied(Ljava/lang/String;Lcom/example/echoes_to_canon/echoestocanon/HttpUrl$CharClass;)Ljava/lang/String;
def Q53 (Z : State) (qa2 : Addr) (h0 : Heap) (n0 : Nat) (v : Option Value) (h : Heap) (L : List Loc) : Prop := v = some (.ref qa2) ∧ Fr n0 L ∧ h = h0
theorem rm53 (l : Launch) (Z : State) (a0 : Array Value) (hw : HW a0 Z) (qa1 : Addr) (qa2 : Addr) (qa3 : Addr) (h0 : Heap) (n0 : Nat) (X00 : Old Z n0 h0) (F_qa1_run : Fld Z h0 qa1 "com/example/echoes_to_canon/echoestocanon/UrlKeys$Value" "run" "Z" (.int 1)) (F_qa1_conversion : Fld Z h0 qa1 "com/example/echoes_to_canon/echoestocanon/UrlKeys$Value" "conversion" "Lcom/example/echoes_to_canon/echoestocanon/Conversion;" .null) (E_qa1 : Exa Z h0 qa1 "com/example/echoes_to_canon/echoestocanon/UrlKeys$Value") :
    MF l Z Y43_ prog_15_method_16_code 3 (some (.object "java/lang/String")) (Rm 1 0 0 13) #[.ref qa1, .ref qa2, .ref qa3] h0 (Q53 Z qa2 h0 n0) := by
 refine own_sF pn4 rfl (fun m => ef19 m qa1 qa2 qa3) ?_
 intro p e s m below meth c s₁ Bd hZ hh hx hby hml hown hnm X0 e0 pre0
 have N0 := Fr.nil n0
 obtain ⟨T1, X1, e1, st1⟩ := getF X0 hx hZ hown (host := "") (Or.inl (w119_ hw)) Via.refl e0 F_qa1_run (g := (mkF m 1 #[rv qa1, rv qa2, rv qa3] [.ref qa1])) rfl rfl (hb hby d40_1)
 obtain ⟨cq2, q2, q2'⟩ := E_qa1.cell
 obtain ⟨_, T2, L2, X2, hQ2, st2⟩ := own_cb 0 0 0 0 0 0 (X1.privateBack hx (y := Y42_) hown (mvT hZ (w269_ hw)) (mvT hZ (w270_ hw)) (own_selQ (args := #[]) (mvT hZ (w126_ hw)) rfl (Cond.privateMethod_at (mvP hZ (w271_ hw) (args := #[]))) (mvT hZ (w270_ hw)) (by decide)) (Cond.privateMethod_at (mvP hZ (w271_ hw) (args := #[]))) (mvT hZ (w272_ hw)) (by decide) (backOf (W := 0) (rm52 l Z a0 hw  qa1 qa2 h0 n0 X00 F_qa1_conversion) hZ (w272_ hw) (w101_ hw) (lE rfl) (lE rfl)) (g := (mkF m 9 #[rv qa1, rv qa2, rv qa3] [.ref qa2, .ref qa1])) rfl hml.symm (Steps.refl _) (a := qa1) (by rw [e1]; exact q2) q2' (argsL := [.ref qa2]) (rest := []) (lenOf pd32 rfl) rfl (own_hw rfl) (hb hby d40_9) (fun _ _ => ⟨rfl, e1, (lE rfl : 0 + 0 ≤ _), (lE rfl : 0 + 0 ≤ _)⟩)) rfl rfl
 obtain ⟨rfl, N2q, e2q⟩ := hQ2
 have N2 := Fr.app N0 N2q
 refine own_lvF X2 Bd (.ref qa2) e2q ⟨rfl, N2, rfl⟩ rfl (fun fs hr => pre0 _ (by
  show Sx p e below s₁ m 0 #[rv qa1, rv qa2, rv qa3] [] _
  refine zb X0 Bd d40_0 rfl rfl ?_
  refine st1 _ ?_
  refine zo X1 Bd d40_4 (XT.i0_eq_f ((by decide) : ¬ ((1 : Int32) = (0 : Int32)))) ?_
  refine zb X1 Bd d40_7 rfl rfl ?_
  refine zb X1 Bd d40_8 rfl rfl ?_
  refine st2.trans ?_
  refine zg (pc' := 24) X2 Bd d40_12 rfl ?_
  exact retOut X2 hx Bd.returns rfl (Or.inr (Or.inr (Or.inr (Or.inr ⟨rfl, rfl, rfl⟩)))) (hb hby d40_24) hr))
theorem pd33 : parseMethodDescriptor "(Ljava/lang/String;Lcom/example/echoes_to_canon/echoestocanon/HttpUrl$CharClass;)Ljava/lang/String;" = some ⟨[(.object "java/lang/String"), (.object "com/example/echoes_to_canon/echoestocanon/HttpUrl$CharClass")], some (.object "java/lang/String")⟩ := by decide +kernel
theorem d0_15 : decode method_2_code 15 = .ok (.iload_n 0, 1) := by decide +kernel
theorem d0_16 : decode method_2_code 16 = .ok (.iconst 1, 1) := by decide +kernel
theorem d0_17 : decode method_2_code 17 = .ok (.if_icmp .ne 18, 3) := by decide +kernel
theorem d0_20 : decode method_2_code 20 = .ok (.new 7, 3) := by decide +kernel
theorem d0_23 : decode method_2_code 23 = .ok (.dup, 1) := by decide +kernel
theorem d0_24 : decode method_2_code 24 = .ok (.iconst 1, 1) := by decide +kernel
theorem d0_25 : decode method_2_code 25 = .ok (.newarray .char, 2) := by decide +kernel
theorem d0_27 : decode method_2_code 27 = .ok (.dup, 1) := by decide +kernel
theorem d0_28 : decode method_2_code 28 = .ok (.iconst 0, 1) := by decide +kernel
theorem d0_29 : decode method_2_code 29 = .ok (.iload_n 1, 1) := by decide +kernel
theorem d0_30 : decode method_2_code 30 = .ok (.castore, 1) := by decide +kernel
theorem d0_31 : decode method_2_code 31 = .ok (.invokespecial 9, 3) := by decide +kernel
theorem d0_34 : decode method_2_code 34 = .ok (.areturn, 1) := by decide +kernel
-- com/example/echoes_to_canon/echoestocanon/UrlKeysRestPinLaw.nameOf(ICCC)Ljava/lang/String;
def Q54 (Z : State) (qi2 : Int32) (h0 : Heap) (n0 : Nat) (v : Option Value) (h : Heap) (L : List Loc) : Prop := ∃ b3 : Addr, ∃ b27 : Addr, ∃ c27_ : ClassId, v = some (.ref b3) ∧ Fr n0 L ∧ Keep h0 h [] ∧ h0.size ≤ b3 ∧ h0.size ≤ b27 ∧ b3 ≠ b27 ∧ Exa Z h b3 "java/lang/String" ∧ Fld Z h b3 "java/lang/String" "coder" "B" (.int 0) ∧ Fld Z h b3 "java/lang/String" "value" "[B" (.ref b27) ∧ Arv Z h b27 c27_ .byte (1 : Int32) ((([qi2] : List Int32).map (fun c => c.toInt8.toInt32)).map Value.int) (.int 0)
theorem rm54 (l : Launch) (Z : State) (a0 : Array Value) (hw : HW a0 Z) (G1 : Int32) (qi1 : Int32) (qi2 : Int32) (qi3 : Int32) (qi4 : Int32) (h0 : Heap) (n0 : Nat) (X00 : Old Z n0 h0) (O2 : Sta Z Z.heap "java/lang/String" "COMPACT_STRINGS" "Z" (.int G1)) (P5 : ¬ (G1 = (0 : Int32))) (hc1 : ¬ (qi1 = (0 : Int32))) (hc2 : qi1 = (1 : Int32)) (hl14 : ¬ qi2 < 0 ∧ ¬ (255 : Int32) < qi2) :
    MF l Z Y2_ method_2_code 4 (some (.object "java/lang/String")) (Rm 4 3 6 66) #[.int qi1, .int qi2, .int qi3, .int qi4] h0 (Q54 Z qi2 h0 n0) := by
 refine own_sF pn0 rfl (fun m => ef1 m qi1 qi2 qi3 qi4) ?_
 intro p e s m below meth c s₁ Bd hZ hh hx hby hml hown hnm X0 e0 pre0
 have N0 := Fr.nil n0
 obtain ⟨T3, h3, X3, e3, E3, A3, D3, -, st3⟩ := newO X0 hx hZ hown (w4_ hw) (w5_ hw) (w6_ hw) e0 (g := (mkF m 20 #[iv qi1, iv qi2, iv qi3, iv qi4] [])) rfl (hb hby d0_20) (lE rfl) (lE rfl)
 obtain ⟨b3, g3⟩ : ∃ z, z = h0.size := ⟨_, rfl⟩
 rw [← g3] at A3 D3 st3
 replace X3 : Stand p l e (Rm 4 3 6 66) s m #[.int qi1, .int qi2, .int qi3, .int qi4] below meth c T3 _ 1 4 := X3
 have K4 := (Keep.refl h0 []).ext E3
 have F5_ : Fld Z h3 b3 "java/lang/String" "value" "[B" .null := D3 (Or.inr (w20_ hw)) (ty := (.array .byte)) (by decide)
 have F6_ : Fld Z h3 b3 "java/lang/String" "coder" "B" (.int 0) := D3 (Or.inr (w21_ hw)) (ty := .byte) (by decide)
 obtain ⟨T7, h7, c7, X7, e7, E7, A7, st7⟩ := newP (aty := .char) X3 hx hZ (w7_ hw) e3 (g := (mkF m 25 #[iv qi1, iv qi2, iv qi3, iv qi4] [.int 1, .ref b3, .ref b3])) rfl (hb hby d0_25) rfl (by decide) (cap := 1) (by decide) (lE rfl) (lE rfl) (lE rfl)
 obtain ⟨b7, g7⟩ : ∃ z, z = h3.size := ⟨_, rfl⟩
 rw [← g7] at A7 st7
 replace X7 : Stand p l e (Rm 4 3 6 66) s m #[.int qi1, .int qi2, .int qi3, .int qi4] below meth c T7 _ 2 5 := X7
 have K8 := K4.ext E7
 have A9_ : Arv Z h7 b7 c7 .char (1 : Int32) [.int 0] (.int 0) := (Arv.new A7 (by decide)).pad (pad_rep [] (.int 0) 1)
 have av10 := A9_
 obtain ⟨cl10, Ar10, q10, S10, N10, H10, Gf10⟩ := av10
 have hin11 : ¬ ((0 : Int32) < 0 ∨ cl10.slots.size ≤ ((0 : Int32) : Int32).toNatClampNeg) := inb_of S10 (by decide)
 obtain ⟨T11, h11, X11, e11, W11, st11⟩ := stC X7 hx hZ e7 Ar10 (j := (0 : Int32)) hin11 (g := (mkF m 30 #[iv qi1, iv qi2, iv qi3, iv qi4] [.int qi2, .int 0, .ref b7, .ref b7, .ref b3, .ref b3])) rfl rfl (hb hby d0_30)
 have O12 := X00.ext E3
 have g_b7 : n0 ≤ b7 := Nat.le_trans (Nat.le_trans (Nat.le_of_eq O12.1.symm) O12.2.1) (Nat.le_of_eq g7.symm)
 have N11_ := Fr.snoc X11 N0 g_b7
 have sz_b7 : h0.size ≤ b7 := Nat.le_trans K4.1 (Nat.le_of_eq g7.symm)
 have K13 := K8.wr W11 (Or.inr sz_b7)
 have A15_ : Arv Z h11 b7 c7 .char (1 : Int32) [.int qi2] (.int 0) := by have q := Arv.set (v := .int (nar .char qi2)) Ar10 q10 S10 N10 H10 Gf10 (fits_nar_char _) W11 0 (by decide) (lE rfl); rw [((own_nar_lat hl14) : nar .char qi2 = qi2)] at q; exact q
 have hp17 : ∀ c ∈ ([qi2] : List Int32), ¬ c < 0 ∧ ¬ (255 : Int32) < c := (List.forall_mem_cons.mpr ⟨hl14, (fun _ q => nomatch q)⟩)
 have g_b3 : n0 ≤ b3 := Nat.le_trans (Nat.le_trans (Nat.le_of_eq X00.1.symm) X00.2.1) (Nat.le_of_eq g3.symm)
 have O19 := O12.ext E7
 have O20 := O19.wr W11 g_b7
 have E21_ := A3.ext E7
 have E22_ := E21_.wr W11
 have F23_ := F5_.ext E7
 have F24_ := F23_.other W11 (Or.inl (Nat.ne_of_lt (Nat.lt_of_lt_of_le A3.lt (Nat.le_of_eq g7.symm))))
 have F25_ := F6_.ext E7
 have F26_ := F25_.other W11 (Or.inl (Nat.ne_of_lt (Nat.lt_of_lt_of_le A3.lt (Nat.le_of_eq g7.symm))))
 obtain ⟨_, T16, L16, X16, hQ16, st16⟩ := own_cb 2 5 1 1 3 6 (X11.specialBack hx (y := Y1_) rfl hown (mvT hZ (w8_ hw)) (mvT hZ (w9_ hw)) (mvT hZ (w10_ hw)) (by decide) (StrChars.Road.backV (W := 1) hZ (own_ws hw) (kI := 4) (w5_ hw) (cs := ([qi2] : List Int32)) (bs := ([qi2] : List Int32).map (fun c => c.toInt8.toInt32)) (n := 1) g_b3 (Nat.le_trans (Nat.le_of_eq O20.1.symm) O20.2.1) E22_ F24_ F26_ A15_ (O2.ext O20.2) P5 rfl rfl (lE rfl) (lE rfl) hp17 rfl (lE rfl) (lE rfl)) (g := (mkF m 31 #[iv qi1, iv qi2, iv qi3, iv qi4] [.ref b7, .ref b3, .ref b3])) rfl hml.symm (Steps.refl _) (a := b3) (argsL := [.ref b7]) (rest := [.ref b3]) (lenOf pd1 rfl) rfl (own_hw rfl) (hb hby d0_31) (fun _ _ => ⟨rfl, e11, (lE rfl : 2 + 1 ≤ _), (lE rfl : 5 + 1 ≤ _)⟩)) rfl rfl
 obtain ⟨rfl, N16q, K16q, E16q, C16q, b27, c27_, u27, g27, ne27, V27_, A27_⟩ := hQ16
 have N16 := Fr.app N11_ N16q
 have sz_b3 : h0.size ≤ b3 := (Nat.le_of_eq g3.symm)
 have K28 := K13.trans K16q (allS (Or.inr sz_b3) all0)
 have sz_b27 : h0.size ≤ b27 := Nat.le_trans K13.1 g27
 have E29_ := E22_.keep K16q
 refine own_lvF X16 Bd (.ref b3) rfl ⟨b3, b27, c27_, rfl, N16, K28, sz_b3, sz_b27, (Ne.symm ne27), E29_, C16q, V27_, A27_⟩ rfl (fun fs hr => pre0 _ (by
  show Sx p e below s₁ m 0 #[iv qi1, iv qi2, iv qi3, iv qi4] [] _
  refine zj X0 Bd d0_0 rfl ?_
  refine zp (pc' := 15) X0 Bd d0_1 (XT.i0_ne_t (hc1 : ¬ (qi1 = (0 : Int32)))) rfl ?_
  refine zj X0 Bd d0_15 rfl ?_
  refine zc X0 Bd d0_16 ?_
  refine zn X0 Bd d0_17 (XT.ii_ne_f (hc2 : qi1 = (1 : Int32))) ?_
  refine st3 _ ?_
  refine XS.dup X3.here hx rfl (hb hby d0_23) rfl rfl ?_
  refine zc X3 Bd d0_24 ?_
  refine st7 _ ?_
  refine XS.dup X7.here hx rfl (hb hby d0_27) rfl rfl ?_
  refine zc X7 Bd d0_28 ?_
  refine zj X7 Bd d0_29 rfl ?_
  refine st11 _ ?_
  refine st16.trans ?_
  exact retOut X16 hx Bd.returns rfl (Or.inr (Or.inr (Or.inr (Or.inr ⟨rfl, rfl, rfl⟩)))) (hb hby d0_34) hr))
theorem d3_30 : decode method_3_code 30 = .ok (.iload_n 0, 1) := by decide +kernel
theorem d3_31 : decode method_3_code 31 = .ok (.iconst 1, 1) := by decide +kernel
theorem d3_32 : decode method_3_code 32 = .ok (.if_icmp .ne 33, 3) := by decide +kernel
theorem d3_35 : decode method_3_code 35 = .ok (.new 7, 3) := by decide +kernel
theorem d3_38 : decode method_3_code 38 = .ok (.dup, 1) := by decide +kernel
theorem d3_39 : decode method_3_code 39 = .ok (.iconst 4, 1) := by decide +kernel
theorem d3_40 : decode method_3_code 40 = .ok (.newarray .char, 2) := by decide +kernel
theorem d3_42 : decode method_3_code 42 = .ok (.dup, 1) := by decide +kernel
theorem d3_43 : decode method_3_code 43 = .ok (.iconst 0, 1) := by decide +kernel
theorem d3_44 : decode method_3_code 44 = .ok (.bipush 123, 2) := by decide +kernel
theorem d3_46 : decode method_3_code 46 = .ok (.castore, 1) := by decide +kernel
theorem d3_47 : decode method_3_code 47 = .ok (.dup, 1) := by decide +kernel
theorem d3_48 : decode method_3_code 48 = .ok (.iconst 1, 1) := by decide +kernel
theorem d3_49 : decode method_3_code 49 = .ok (.iload_n 1, 1) := by decide +kernel
theorem d3_50 : decode method_3_code 50 = .ok (.castore, 1) := by decide +kernel
theorem d3_51 : decode method_3_code 51 = .ok (.dup, 1) := by decide +kernel
theorem d3_52 : decode method_3_code 52 = .ok (.iconst 2, 1) := by decide +kernel
theorem d3_53 : decode method_3_code 53 = .ok (.bipush 42, 2) := by decide +kernel
theorem d3_55 : decode method_3_code 55 = .ok (.castore, 1) := by decide +kernel
theorem d3_56 : decode method_3_code 56 = .ok (.dup, 1) := by decide +kernel
theorem d3_57 : decode method_3_code 57 = .ok (.iconst 3, 1) := by decide +kernel
theorem d3_58 : decode method_3_code 58 = .ok (.bipush 125, 2) := by decide +kernel
theorem d3_60 : decode method_3_code 60 = .ok (.castore, 1) := by decide +kernel
theorem d3_61 : decode method_3_code 61 = .ok (.invokespecial 9, 3) := by decide +kernel
theorem d3_64 : decode method_3_code 64 = .ok (.areturn, 1) := by decide +kernel
-- com/example/echoes_to_canon/echoestocanon/UrlKeysRestPinLaw.shownOf(ICCC)Ljava/lang/String;
def Q55 (Z : State) (qi2 : Int32) (h0 : Heap) (n0 : Nat) (v : Option Value) (h : Heap) (L : List Loc) : Prop := ∃ b3 : Addr, ∃ b51 : Addr, ∃ c51_ : ClassId, v = some (.ref b3) ∧ Fr n0 L ∧ Keep h0 h [] ∧ h0.size ≤ b3 ∧ h0.size ≤ b51 ∧ b3 ≠ b51 ∧ Exa Z h b3 "java/lang/String" ∧ Fld Z h b3 "java/lang/String" "coder" "B" (.int 0) ∧ Fld Z h b3 "java/lang/String" "value" "[B" (.ref b51) ∧ Arv Z h b51 c51_ .byte (4 : Int32) ((([123, qi2, 42, 125] : List Int32).map (fun c => c.toInt8.toInt32)).map Value.int) (.int 0)
theorem rm55 (l : Launch) (Z : State) (a0 : Array Value) (hw : HW a0 Z) (G1 : Int32) (qi1 : Int32) (qi2 : Int32) (qi3 : Int32) (qi4 : Int32) (h0 : Heap) (n0 : Nat) (X00 : Old Z n0 h0) (O2 : Sta Z Z.heap "java/lang/String" "COMPACT_STRINGS" "Z" (.int G1)) (P5 : ¬ (G1 = (0 : Int32))) (hc1 : ¬ (qi1 = (0 : Int32))) (hc2 : qi1 = (1 : Int32)) (hl18 : ¬ qi2 < 0 ∧ ¬ (255 : Int32) < qi2) :
    MF l Z Y3_ method_3_code 4 (some (.object "java/lang/String")) (Rm 4 3 12 66) #[.int qi1, .int qi2, .int qi3, .int qi4] h0 (Q55 Z qi2 h0 n0) := by
 refine own_sF pn0 rfl (fun m => ef1 m qi1 qi2 qi3 qi4) ?_
 intro p e s m below meth c s₁ Bd hZ hh hx hby hml hown hnm X0 e0 pre0
 have N0 := Fr.nil n0
 obtain ⟨T3, h3, X3, e3, E3, A3, D3, -, st3⟩ := newO X0 hx hZ hown (w4_ hw) (w5_ hw) (w6_ hw) e0 (g := (mkF m 35 #[iv qi1, iv qi2, iv qi3, iv qi4] [])) rfl (hb hby d3_35) (lE rfl) (lE rfl)
 obtain ⟨b3, g3⟩ : ∃ z, z = h0.size := ⟨_, rfl⟩
 rw [← g3] at A3 D3 st3
 replace X3 : Stand p l e (Rm 4 3 12 66) s m #[.int qi1, .int qi2, .int qi3, .int qi4] below meth c T3 _ 1 4 := X3
 have K4 := (Keep.refl h0 []).ext E3
 have F5_ : Fld Z h3 b3 "java/lang/String" "value" "[B" .null := D3 (Or.inr (w20_ hw)) (ty := (.array .byte)) (by decide)
 have F6_ : Fld Z h3 b3 "java/lang/String" "coder" "B" (.int 0) := D3 (Or.inr (w21_ hw)) (ty := .byte) (by decide)
 obtain ⟨T7, h7, c7, X7, e7, E7, A7, st7⟩ := newP (aty := .char) X3 hx hZ (w7_ hw) e3 (g := (mkF m 40 #[iv qi1, iv qi2, iv qi3, iv qi4] [.int 4, .ref b3, .ref b3])) rfl (hb hby d3_40) rfl (by decide) (cap := 4) (by decide) (lE rfl) (lE rfl) (lE rfl)
 obtain ⟨b7, g7⟩ : ∃ z, z = h3.size := ⟨_, rfl⟩
 rw [← g7] at A7 st7
 replace X7 : Stand p l e (Rm 4 3 12 66) s m #[.int qi1, .int qi2, .int qi3, .int qi4] below meth c T7 _ 2 8 := X7
 have K8 := K4.ext E7
 have A9_ : Arv Z h7 b7 c7 .char (4 : Int32) [.int 0, .int 0, .int 0, .int 0] (.int 0) := (Arv.new A7 (by decide)).pad (pad_rep [] (.int 0) 4)
 have av10 := A9_
 obtain ⟨cl10, Ar10, q10, S10, N10, H10, Gf10⟩ := av10
 have hin11 : ¬ ((0 : Int32) < 0 ∨ cl10.slots.size ≤ ((0 : Int32) : Int32).toNatClampNeg) := inb_of S10 (by decide)
 obtain ⟨T11, h11, X11, e11, W11, st11⟩ := stC X7 hx hZ e7 Ar10 (j := (0 : Int32)) hin11 (g := (mkF m 46 #[iv qi1, iv qi2, iv qi3, iv qi4] [.int 123, .int 0, .ref b7, .ref b7, .ref b3, .ref b3])) rfl rfl (hb hby d3_46)
 have O12 := X00.ext E3
 have g_b7 : n0 ≤ b7 := Nat.le_trans (Nat.le_trans (Nat.le_of_eq O12.1.symm) O12.2.1) (Nat.le_of_eq g7.symm)
 have N11_ := Fr.snoc X11 N0 g_b7
 have sz_b7 : h0.size ≤ b7 := Nat.le_trans K4.1 (Nat.le_of_eq g7.symm)
 have K13 := K8.wr W11 (Or.inr sz_b7)
 have A14_ : Arv Z h11 b7 c7 .char (4 : Int32) [.int 123, .int 0, .int 0, .int 0] (.int 0) := Arv.set Ar10 q10 S10 N10 H10 Gf10 (fits_nar_char _) W11 0 (by decide) (lE rfl)
 have av15 := A14_
 obtain ⟨cl15, Ar15, q15, S15, N15, H15, Gf15⟩ := av15
 have hin16 : ¬ ((1 : Int32) < 0 ∨ cl15.slots.size ≤ ((1 : Int32) : Int32).toNatClampNeg) := inb_of S15 (by decide)
 obtain ⟨T16, h16, X16, e16, W16, st16⟩ := stC X11 hx hZ e11 Ar15 (j := (1 : Int32)) hin16 (g := (mkF m 50 #[iv qi1, iv qi2, iv qi3, iv qi4] [.int qi2, .int 1, .ref b7, .ref b7, .ref b3, .ref b3])) rfl rfl (hb hby d3_50)
 have N16_ := Fr.snoc X16 N11_ g_b7
 have K17 := K13.wr W16 (Or.inr sz_b7)
 have A19_ : Arv Z h16 b7 c7 .char (4 : Int32) [.int 123, .int qi2, .int 0, .int 0] (.int 0) := by have q := Arv.set (v := .int (nar .char qi2)) Ar15 q15 S15 N15 H15 Gf15 (fits_nar_char _) W16 1 (by decide) (lE rfl); rw [((own_nar_lat hl18) : nar .char qi2 = qi2)] at q; exact q
 have av20 := A19_
 obtain ⟨cl20, Ar20, q20, S20, N20, H20, Gf20⟩ := av20
 have hin21 : ¬ ((2 : Int32) < 0 ∨ cl20.slots.size ≤ ((2 : Int32) : Int32).toNatClampNeg) := inb_of S20 (by decide)
 obtain ⟨T21, h21, X21, e21, W21, st21⟩ := stC X16 hx hZ e16 Ar20 (j := (2 : Int32)) hin21 (g := (mkF m 55 #[iv qi1, iv qi2, iv qi3, iv qi4] [.int 42, .int 2, .ref b7, .ref b7, .ref b3, .ref b3])) rfl rfl (hb hby d3_55)
 have N21_ := Fr.snoc X21 N16_ g_b7
 have K22 := K17.wr W21 (Or.inr sz_b7)
 have A23_ : Arv Z h21 b7 c7 .char (4 : Int32) [.int 123, .int qi2, .int 42, .int 0] (.int 0) := Arv.set Ar20 q20 S20 N20 H20 Gf20 (fits_nar_char _) W21 2 (by decide) (lE rfl)
 have av24 := A23_
 obtain ⟨cl24, Ar24, q24, S24, N24, H24, Gf24⟩ := av24
 have hin25 : ¬ ((3 : Int32) < 0 ∨ cl24.slots.size ≤ ((3 : Int32) : Int32).toNatClampNeg) := inb_of S24 (by decide)
 obtain ⟨T25, h25, X25, e25, W25, st25⟩ := stC X21 hx hZ e21 Ar24 (j := (3 : Int32)) hin25 (g := (mkF m 60 #[iv qi1, iv qi2, iv qi3, iv qi4] [.int 125, .int 3, .ref b7, .ref b7, .ref b3, .ref b3])) rfl rfl (hb hby d3_60)
 have N25_ := Fr.snoc X25 N21_ g_b7
 have K26 := K22.wr W25 (Or.inr sz_b7)
 have A27_ : Arv Z h25 b7 c7 .char (4 : Int32) [.int 123, .int qi2, .int 42, .int 125] (.int 0) := Arv.set Ar24 q24 S24 N24 H24 Gf24 (fits_nar_char _) W25 3 (by decide) (lE rfl)
 have hp29 : ∀ c ∈ ([123, qi2, 42, 125] : List Int32), ¬ c < 0 ∧ ¬ (255 : Int32) < c := (List.forall_mem_cons.mpr ⟨(by decide), (List.forall_mem_cons.mpr ⟨hl18, (List.forall_mem_cons.mpr ⟨(by decide), (List.forall_mem_cons.mpr ⟨(by decide), (fun _ q => nomatch q)⟩)⟩)⟩)⟩)
 have g_b3 : n0 ≤ b3 := Nat.le_trans (Nat.le_trans (Nat.le_of_eq X00.1.symm) X00.2.1) (Nat.le_of_eq g3.symm)
 have O31 := O12.ext E7
 have O32 := O31.wr W11 g_b7
 have O33 := O32.wr W16 g_b7
 have O34 := O33.wr W21 g_b7
 have O35 := O34.wr W25 g_b7
 have E36_ := A3.ext E7
 have E37_ := E36_.wr W11
 have E38_ := E37_.wr W16
 have E39_ := E38_.wr W21
 have E40_ := E39_.wr W25
 have F41_ := F5_.ext E7
 have F42_ := F41_.other W11 (Or.inl (Nat.ne_of_lt (Nat.lt_of_lt_of_le A3.lt (Nat.le_of_eq g7.symm))))
 have F43_ := F42_.other W16 (Or.inl (Nat.ne_of_lt (Nat.lt_of_lt_of_le A3.lt (Nat.le_of_eq g7.symm))))
 have F44_ := F43_.other W21 (Or.inl (Nat.ne_of_lt (Nat.lt_of_lt_of_le A3.lt (Nat.le_of_eq g7.symm))))
 have F45_ := F44_.other W25 (Or.inl (Nat.ne_of_lt (Nat.lt_of_lt_of_le A3.lt (Nat.le_of_eq g7.symm))))
 have F46_ := F6_.ext E7
 have F47_ := F46_.other W11 (Or.inl (Nat.ne_of_lt (Nat.lt_of_lt_of_le A3.lt (Nat.le_of_eq g7.symm))))
 have F48_ := F47_.other W16 (Or.inl (Nat.ne_of_lt (Nat.lt_of_lt_of_le A3.lt (Nat.le_of_eq g7.symm))))
 have F49_ := F48_.other W21 (Or.inl (Nat.ne_of_lt (Nat.lt_of_lt_of_le A3.lt (Nat.le_of_eq g7.symm))))
 have F50_ := F49_.other W25 (Or.inl (Nat.ne_of_lt (Nat.lt_of_lt_of_le A3.lt (Nat.le_of_eq g7.symm))))
 obtain ⟨_, T28, L28, X28, hQ28, st28⟩ := own_cb 2 8 1 4 3 12 (X25.specialBack hx (y := Y1_) rfl hown (mvT hZ (w8_ hw)) (mvT hZ (w9_ hw)) (mvT hZ (w10_ hw)) (by decide) (StrChars.Road.backV (W := 1) hZ (own_ws hw) (kI := 4) (w5_ hw) (cs := ([123, qi2, 42, 125] : List Int32)) (bs := ([123, qi2, 42, 125] : List Int32).map (fun c => c.toInt8.toInt32)) (n := 4) g_b3 (Nat.le_trans (Nat.le_of_eq O35.1.symm) O35.2.1) E40_ F45_ F50_ A27_ (O2.ext O35.2) P5 rfl rfl (lE rfl) (lE rfl) hp29 rfl (lE rfl) (lE rfl)) (g := (mkF m 61 #[iv qi1, iv qi2, iv qi3, iv qi4] [.ref b7, .ref b3, .ref b3])) rfl hml.symm (Steps.refl _) (a := b3) (argsL := [.ref b7]) (rest := [.ref b3]) (lenOf pd1 rfl) rfl (own_hw rfl) (hb hby d3_61) (fun _ _ => ⟨rfl, e25, (lE rfl : 2 + 1 ≤ _), (lE rfl : 8 + 4 ≤ _)⟩)) rfl rfl
 obtain ⟨rfl, N28q, K28q, E28q, C28q, b51, c51_, u51, g51, ne51, V51_, A51_⟩ := hQ28
 have N28 := Fr.app N25_ N28q
 have sz_b3 : h0.size ≤ b3 := (Nat.le_of_eq g3.symm)
 have K52 := K26.trans K28q (allS (Or.inr sz_b3) all0)
 have sz_b51 : h0.size ≤ b51 := Nat.le_trans K26.1 g51
 have E53_ := E40_.keep K28q
 refine own_lvF X28 Bd (.ref b3) rfl ⟨b3, b51, c51_, rfl, N28, K52, sz_b3, sz_b51, (Ne.symm ne51), E53_, C28q, V51_, A51_⟩ rfl (fun fs hr => pre0 _ (by
  show Sx p e below s₁ m 0 #[iv qi1, iv qi2, iv qi3, iv qi4] [] _
  refine zj X0 Bd d3_0 rfl ?_
  refine zp (pc' := 30) X0 Bd d3_1 (XT.i0_ne_t (hc1 : ¬ (qi1 = (0 : Int32)))) rfl ?_
  refine zj X0 Bd d3_30 rfl ?_
  refine zc X0 Bd d3_31 ?_
  refine zn X0 Bd d3_32 (XT.ii_ne_f (hc2 : qi1 = (1 : Int32))) ?_
  refine st3 _ ?_
  refine XS.dup X3.here hx rfl (hb hby d3_38) rfl rfl ?_
  refine zc X3 Bd d3_39 ?_
  refine st7 _ ?_
  refine XS.dup X7.here hx rfl (hb hby d3_42) rfl rfl ?_
  refine zc X7 Bd d3_43 ?_
  refine zd X7 Bd d3_44 ?_
  refine st11 _ ?_
  refine XS.dup X11.here hx rfl (hb hby d3_47) rfl rfl ?_
  refine zc X11 Bd d3_48 ?_
  refine zj X11 Bd d3_49 rfl ?_
  refine st16 _ ?_
  refine XS.dup X16.here hx rfl (hb hby d3_51) rfl rfl ?_
  refine zc X16 Bd d3_52 ?_
  refine zd X16 Bd d3_53 ?_
  refine st21 _ ?_
  refine XS.dup X21.here hx rfl (hb hby d3_56) rfl rfl ?_
  refine zc X21 Bd d3_57 ?_
  refine zd X21 Bd d3_58 ?_
  refine st25 _ ?_
  show Sx p e below T25 m 61 #[iv qi1, iv qi2, iv qi3, iv qi4] [.ref b7, .ref b3, .ref b3] _
  refine st28.trans ?_
  exact retOut X28 hx Bd.returns rfl (Or.inr (Or.inr (Or.inr (Or.inr ⟨rfl, rfl, rfl⟩)))) (hb hby d3_64) hr))
-- java/lang/AbstractStringBuilder.ensureCapacityInternal(I)V
def Q56 (Z : State)  (h0 : Heap) (n0 : Nat) (v : Option Value) (h : Heap) (L : List Loc) : Prop := v = none ∧ Fr n0 L ∧ h = h0
theorem rm56 (l : Launch) (Z : State) (a0 : Array Value) (hw : HW a0 Z) (qa1 : Addr) (qa2 : Addr) (qk3 : ClassId) (h0 : Heap) (n0 : Nat) (X00 : Old Z n0 h0) (F_qa1_value : Fld Z h0 qa1 "java/lang/AbstractStringBuilder" "value" "[B" (.ref qa2)) (A_qa2 : Arv Z h0 qa2 qk3 .byte (16 : Int32) [.int 123, .int 0, .int 0, .int 0, .int 0, .int 0, .int 0, .int 0, .int 0, .int 0, .int 0, .int 0, .int 0, .int 0, .int 0, .int 0] (.int 0)) (F_qa1_coder : Fld Z h0 qa1 "java/lang/AbstractStringBuilder" "coder" "B" (.int 0)) :
    MF l Z Y23_ jdk_68_method_9_code 3 none (Rm 0 0 0 0) #[.ref qa1, .int 2] h0 (Q56 Z  h0 n0) := by
 refine own_sF pn7 rfl (fun m => ef12 m qa1 (2 : Int32)) ?_
 intro p e s m below meth c s₁ Bd hZ hh hx hby hml hown hnm X0 e0 pre0
 have N0 := Fr.nil n0
 obtain ⟨T1, X1, e1, st1⟩ := getF X0 hx hZ hown (host := "") (Or.inl (w172_ hw)) Via.refl e0 F_qa1_value (g := (mkF m 1 #[rv qa1, iv 2, .unset] [.ref qa1])) rfl rfl (hb hby d24_1)
 have av2 := A_qa2
 obtain ⟨cl2, Ar2, q2, S2, N2, H2, Gf2⟩ := av2
 obtain ⟨T3, X3, e3, st3⟩ := getF X1 hx hZ hown (host := "") (Or.inl (w174_ hw)) Via.refl e1 F_qa1_coder (g := (mkF m 6 #[rv qa1, iv 2, .unset] [.ref qa1, .int 16])) rfl rfl (hb hby d24_6)
 refine own_lvN X3 Bd e3 ⟨rfl, N0, rfl⟩ rfl (fun fs hr => pre0 _ (by
  show Sx p e below s₁ m 0 #[rv qa1, iv 2, .unset] [] _
  refine zb X0 Bd d24_0 rfl rfl ?_
  refine st1 _ ?_
  refine X1.arraylength hx (by rw [e1]; exact Ar2.1) (State.isArrayOf_alike hZ.alike Ar2.2.1) (g := (mkF m 4 #[rv qa1, iv 2, .unset] [.ref qa2])) rfl rfl (hb hby d24_4) _ ?_
  rw [len_of S2 N2]
  refine zb X1 Bd d24_5 rfl rfl ?_
  refine st3 _ ?_
  refine XS.ishr X3.here hx rfl (hb hby d24_9) rfl ?_
  refine zt X3 Bd d24_10 (l' := #[rv qa1, iv 2, iv 16]) rfl ?_
  refine zj X3 Bd d24_11 rfl ?_
  refine zj X3 Bd d24_12 rfl ?_
  refine XS.isub X3.here hx rfl (hb hby d24_13) rfl ?_
  refine zp (pc' := 38) X3 Bd d24_14 (XT.i0_le_t ((by decide) : ¬ ((0 : Int32) < (-14 : Int32)))) rfl ?_
  exact X3.returnOut hx Bd.returns (hb hby d24_38) hr))
-- java/lang/String.getBytes([BIB)V
def Q57 (Z : State) (qa2 : Addr) (qi5 : Int32) (qk6 : ClassId) (h0 : Heap) (n0 : Nat) (v : Option Value) (h : Heap) (L : List Loc) : Prop := v = none ∧ Fr n0 L ∧ Keep h0 h [qa2] ∧ Arv Z h qa2 qk6 .byte (16 : Int32) [.int 123, (.int ((qi5).toInt8.toInt32)), .int 0, .int 0, .int 0, .int 0, .int 0, .int 0, .int 0, .int 0, .int 0, .int 0, .int 0, .int 0, .int 0, .int 0] (.int 0)
theorem rm57 (l : Launch) (Z : State) (a0 : Array Value) (hw : HW a0 Z) (G1 : Int32) (qa1 : Addr) (qa2 : Addr) (qa3 : Addr) (qk4 : ClassId) (qi5 : Int32) (qk6 : ClassId) (h0 : Heap) (n0 : Nat) (X00 : Old Z n0 h0) (O2 : Sta Z Z.heap "java/lang/String" "COMPACT_STRINGS" "Z" (.int G1)) (P5 : ¬ (G1 = (0 : Int32))) (E_qa1 : Exa Z h0 qa1 "java/lang/String") (F_qa1_coder : Fld Z h0 qa1 "java/lang/String" "coder" "B" (.int 0)) (F_qa1_value : Fld Z h0 qa1 "java/lang/String" "value" "[B" (.ref qa3)) (A_qa3 : Arv Z h0 qa3 qk4 .byte (1 : Int32) ((([qi5] : List Int32).map (fun c => c.toInt8.toInt32)).map Value.int) (.int 0)) (A_qa2 : Arv Z h0 qa2 qk6 .byte (16 : Int32) [.int 123, .int 0, .int 0, .int 0, .int 0, .int 0, .int 0, .int 0, .int 0, .int 0, .int 0, .int 0, .int 0, .int 0, .int 0, .int 0] (.int 0)) (g_qa2 : n0 ≤ qa2) :
    MF l Z Y26_ jdk_42_method_147_code 4 none (Rm 1 0 0 18) #[.ref qa1, .ref qa2, .int 1, .int 0] h0 (Q57 Z qa2 qi5 qk6 h0 n0) := by
 refine own_sF pn1 rfl (fun m => ef14 m qa1 qa2 (1 : Int32) (0 : Int32)) ?_
 intro p e s m below meth c s₁ Bd hZ hh hx hby hml hown hnm X0 e0 pre0
 have N0 := Fr.nil n0
 obtain ⟨_, T1, L1, X1, hQ1, st1⟩ := own_cV 0 0 [] 1 #[rv qa1, rv qa2, iv 1, iv 0] X0 hx hZ hown E_qa1 (w63_ hw) (w64_ hw) (notFace_of_selects (args := #[]) (mvT hZ (w66_ hw))) (w66_ hw) (w65_ hw) (w6_ hw) (w67_ hw) (rm24 l Z a0 hw G1 qa1 h0 n0 X00 O2 P5 F_qa1_coder) pd20 hml.symm (hb hby d28_1) e0 rfl rfl rfl rfl (by decide)
 obtain ⟨rfl, N1q, e1q⟩ := hQ1
 have N1 := Fr.app N0 N1q
 obtain ⟨T2, X2, e2, st2⟩ := getF X1 hx hZ hown (host := "") (Or.inl (w24_ hw)) Via.refl e1q F_qa1_value (g := (mkF m 9 #[rv qa1, rv qa2, iv 1, iv 0] [.ref qa1])) rfl rfl (hb hby d28_9)
 obtain ⟨T3, X3, e3, st3⟩ := getF X2 hx hZ hown (host := "") (Or.inl (w24_ hw)) Via.refl e2 F_qa1_value (g := (mkF m 18 #[rv qa1, rv qa2, iv 1, iv 0] [.ref qa1, .int 1, .ref qa2, .int 0, .ref qa3])) rfl rfl (hb hby d28_18)
 have av4 := A_qa3
 obtain ⟨cl4, Ar4, q4, S4, N4, H4, Gf4⟩ := av4
 obtain ⟨T5, h5, L5, X5, e5, N5, K5q, A5, st5⟩ := cpA X3 hx hZ hown (w211_ hw) (w214_ hw) (w212_ hw) (w213_ hw) e3 (vs := [(.int ((qi5).toInt8.toInt32))]) (vd := [.int 123, .int 0, .int 0, .int 0, .int 0, .int 0, .int 0, .int 0, .int 0, .int 0, .int 0, .int 0, .int 0, .int 0, .int 0, .int 0]) (us := [(.int ((qi5).toInt8.toInt32))]) A_qa3 A_qa2 (Or.inl ⟨rfl, rfl⟩) (by decide) (by decide) (by decide) (by decide) (by decide) rfl (lE rfl) N1 g_qa2 (g := (mkF m 22 #[rv qa1, rv qa2, iv 1, iv 0] [.int 1, .int 1, .ref qa2, .int 0, .ref qa3])) rfl hml.symm rfl (hb hby d28_22) (by decide) (W := 0) (own_hw rfl) (by decide)
 have K6 := (Keep.refl h0 [qa2]).trans K5q (allS (Or.inl (mI 0 rfl)) all0)
 have A7_ : Arv Z h5 qa2 qk6 .byte (16 : Int32) [.int 123, (.int ((qi5).toInt8.toInt32)), .int 0, .int 0, .int 0, .int 0, .int 0, .int 0, .int 0, .int 0, .int 0, .int 0, .int 0, .int 0, .int 0, .int 0] (.int 0) := A5
 refine own_lvN X5 Bd e5 ⟨rfl, N5, K6, A7_⟩ rfl (fun fs hr => pre0 _ (by
  show Sx p e below s₁ m 0 #[rv qa1, rv qa2, iv 1, iv 0] [] _
  refine zb X0 Bd d28_0 rfl rfl ?_
  refine st1 _ ?_
  refine zj X1 Bd d28_4 rfl ?_
  refine zn X1 Bd d28_5 (XT.ii_ne_f ((by decide) : (0 : Int32) = (0 : Int32))) ?_
  refine zb X1 Bd d28_8 rfl rfl ?_
  refine st2 _ ?_
  refine zc X2 Bd d28_12 ?_
  refine zb X2 Bd d28_13 rfl rfl ?_
  refine zj X2 Bd d28_14 rfl ?_
  refine zj X2 Bd d28_15 rfl ?_
  refine XS.ishl X2.here hx rfl (hb hby d28_16) rfl ?_
  refine zb X2 Bd d28_17 rfl rfl ?_
  refine st3 _ ?_
  refine X3.arraylength hx (by rw [e3]; exact Ar4.1) (State.isArrayOf_alike hZ.alike Ar4.2.1) (g := (mkF m 21 #[rv qa1, rv qa2, iv 1, iv 0] [.ref qa3, .int 1, .ref qa2, .int 0, .ref qa3])) rfl rfl (hb hby d28_21) _ ?_
  rw [len_of S4 N4]
  refine st5 _ ?_
  refine zg (pc' := 43) X5 Bd d28_25 rfl ?_
  exact X5.returnOut hx Bd.returns (hb hby d28_43) hr))
-- java/lang/AbstractStringBuilder.putStringAt(ILjava/lang/String;)V
def Q58 (Z : State) (qa3 : Addr) (qi6 : Int32) (qk7 : ClassId) (h0 : Heap) (n0 : Nat) (v : Option Value) (h : Heap) (L : List Loc) : Prop := v = none ∧ Fr n0 L ∧ Keep h0 h [qa3] ∧ Arv Z h qa3 qk7 .byte (16 : Int32) [.int 123, (.int ((qi6).toInt8.toInt32)), .int 0, .int 0, .int 0, .int 0, .int 0, .int 0, .int 0, .int 0, .int 0, .int 0, .int 0, .int 0, .int 0, .int 0] (.int 0)
theorem rm58 (l : Launch) (Z : State) (a0 : Array Value) (hw : HW a0 Z) (G1 : Int32) (qa1 : Addr) (qa2 : Addr) (qa3 : Addr) (qa4 : Addr) (qk5 : ClassId) (qi6 : Int32) (qk7 : ClassId) (h0 : Heap) (n0 : Nat) (X00 : Old Z n0 h0) (O2 : Sta Z Z.heap "java/lang/String" "COMPACT_STRINGS" "Z" (.int G1)) (P5 : ¬ (G1 = (0 : Int32))) (F_qa1_coder : Fld Z h0 qa1 "java/lang/AbstractStringBuilder" "coder" "B" (.int 0)) (E_qa2 : Exa Z h0 qa2 "java/lang/String") (F_qa2_coder : Fld Z h0 qa2 "java/lang/String" "coder" "B" (.int 0)) (E_qa1 : Exa Z h0 qa1 "java/lang/StringBuilder") (F_qa1_value : Fld Z h0 qa1 "java/lang/AbstractStringBuilder" "value" "[B" (.ref qa3)) (F_qa2_value : Fld Z h0 qa2 "java/lang/String" "value" "[B" (.ref qa4)) (A_qa4 : Arv Z h0 qa4 qk5 .byte (1 : Int32) ((([qi6] : List Int32).map (fun c => c.toInt8.toInt32)).map Value.int) (.int 0)) (A_qa3 : Arv Z h0 qa3 qk7 .byte (16 : Int32) [.int 123, .int 0, .int 0, .int 0, .int 0, .int 0, .int 0, .int 0, .int 0, .int 0, .int 0, .int 0, .int 0, .int 0, .int 0, .int 0] (.int 0)) (g_qa3 : n0 ≤ qa3) :
    MF l Z Y27_ jdk_68_method_73_code 3 none (Rm 2 0 0 33) #[.ref qa1, .int 1, .ref qa2] h0 (Q58 Z qa3 qi6 qk7 h0 n0) := by
 refine own_sF pn7 rfl (fun m => ef13 m qa1 (1 : Int32) qa2) ?_
 intro p e s m below meth c s₁ Bd hZ hh hx hby hml hown hnm X0 e0 pre0
 have N0 := Fr.nil n0
 obtain ⟨cq1, q1, q1'⟩ := E_qa1.cell
 obtain ⟨_, T1, L1, X1, hQ1, st1⟩ := own_cb 0 0 0 0 0 0 (X0.privateBack hx (y := Y25_) hown (mvT hZ (w200_ hw)) (mvT hZ (w201_ hw)) (own_selP (mvT hZ (w203_ hw)) (Cond.privateMethod_at (mvP hZ (w202_ hw) (args := #[]))) (mvT hZ (w201_ hw)) (by decide)) (Cond.privateMethod_at (mvP hZ (w202_ hw) (args := #[]))) (mvT hZ (w204_ hw)) (by decide) (backOf (W := 0) (rm25 l Z a0 hw G1 qa1 qa2 h0 n0 X00 O2 P5 F_qa1_coder E_qa2 F_qa2_coder) hZ (w204_ hw) (w168_ hw) (lE rfl) (lE rfl)) (g := (mkF m 2 #[rv qa1, iv 1, rv qa2] [.ref qa2, .ref qa1])) rfl hml.symm (Steps.refl _) (a := qa1) (by rw [e0]; exact q1) q1' (argsL := [.ref qa2]) (rest := []) (lenOf pd21 rfl) rfl (own_hw rfl) (hb hby d25_2) (fun _ _ => ⟨rfl, e0, (lE rfl : 0 + 0 ≤ _), (lE rfl : 0 + 0 ≤ _)⟩)) rfl rfl
 obtain ⟨rfl, N1q, e1q⟩ := hQ1
 have N1 := Fr.app N0 N1q
 obtain ⟨T2, X2, e2, st2⟩ := getF X1 hx hZ hown (host := "") (Or.inl (w172_ hw)) Via.refl e1q F_qa1_value (g := (mkF m 7 #[rv qa1, iv 1, rv qa2] [.ref qa1, .ref qa2])) rfl rfl (hb hby d25_7)
 obtain ⟨T3, X3, e3, st3⟩ := getF X2 hx hZ hown (host := "") (Or.inl (w174_ hw)) Via.refl e2 F_qa1_coder (g := (mkF m 12 #[rv qa1, iv 1, rv qa2] [.ref qa1, .int 1, .ref qa3, .ref qa2])) rfl rfl (hb hby d25_12)
 obtain ⟨_, T4, L4, X4, hQ4, st4⟩ := own_cV 0 0 [] 15 #[rv qa1, iv 1, rv qa2] X3 hx hZ hown E_qa2 (w206_ hw) (w207_ hw) (notFace_of_selects (args := #[]) (mvT hZ (w209_ hw))) (w209_ hw) (w208_ hw) (w6_ hw) (w210_ hw) (rm57 l Z a0 hw G1 qa2 qa3 qa4 qk5 qi6 qk7 h0 n0 X00 O2 P5 E_qa2 F_qa2_coder F_qa2_value A_qa4 A_qa3 g_qa3) pd22 hml.symm (hb hby d25_15) e3 rfl rfl rfl rfl (by decide)
 obtain ⟨rfl, N4q, K4q, w5⟩ := hQ4
 have N4 := Fr.app N1 N4q
 have K6 := (Keep.refl h0 [qa3]).trans K4q (allS (Or.inl (mI 0 rfl)) all0)
 refine own_lvN X4 Bd rfl ⟨rfl, N4, K6, w5⟩ rfl (fun fs hr => pre0 _ (by
  show Sx p e below s₁ m 0 #[rv qa1, iv 1, rv qa2] [] _
  refine zb X0 Bd d25_0 rfl rfl ?_
  refine zb X0 Bd d25_1 rfl rfl ?_
  refine st1.trans ?_
  refine zb X1 Bd d25_5 rfl rfl ?_
  refine zb X1 Bd d25_6 rfl rfl ?_
  refine st2 _ ?_
  refine zj X2 Bd d25_10 rfl ?_
  refine zb X2 Bd d25_11 rfl rfl ?_
  refine st3 _ ?_
  refine st4 _ ?_
  exact X4.returnOut hx Bd.returns (hb hby d25_18) hr))
-- java/lang/AbstractStringBuilder.append(Ljava/lang/String;)Ljava/lang/AbstractStringBuilder;
def Q59 (Z : State) (qa1 : Addr) (qi4 : Int32) (qa6 : Addr) (qk7 : ClassId) (h0 : Heap) (n0 : Nat) (v : Option Value) (h : Heap) (L : List Loc) : Prop := v = some (.ref qa1) ∧ Fr n0 L ∧ Keep h0 h [qa6, qa1] ∧ Fld Z h qa1 "java/lang/AbstractStringBuilder" "count" "I" (.int 2) ∧ Fld Z h qa1 "java/lang/AbstractStringBuilder" "value" "[B" (.ref qa6) ∧ Fld Z h qa1 "java/lang/AbstractStringBuilder" "coder" "B" (.int 0) ∧ Exa Z h qa1 "java/lang/StringBuilder" ∧ Arv Z h qa6 qk7 .byte (16 : Int32) [.int 123, (.int ((qi4).toInt8.toInt32)), .int 0, .int 0, .int 0, .int 0, .int 0, .int 0, .int 0, .int 0, .int 0, .int 0, .int 0, .int 0, .int 0, .int 0] (.int 0)
theorem rm59 (l : Launch) (Z : State) (a0 : Array Value) (hw : HW a0 Z) (G1 : Int32) (qa1 : Addr) (qa2 : Addr) (qa3 : Addr) (qi4 : Int32) (qk5 : ClassId) (qa6 : Addr) (qk7 : ClassId) (h0 : Heap) (n0 : Nat) (X00 : Old Z n0 h0) (O2 : Sta Z Z.heap "java/lang/String" "COMPACT_STRINGS" "Z" (.int G1)) (P5 : ¬ (G1 = (0 : Int32))) (E_qa2 : Exa Z h0 qa2 "java/lang/String") (F_qa2_coder : Fld Z h0 qa2 "java/lang/String" "coder" "B" (.int 0)) (F_qa2_value : Fld Z h0 qa2 "java/lang/String" "value" "[B" (.ref qa3)) (hp_qa2 : ∀ c ∈ ([qi4] : List Int32), ¬ c < 0 ∧ ¬ (255 : Int32) < c) (A_qa3 : Arv Z h0 qa3 qk5 .byte (1 : Int32) ((([qi4] : List Int32).map (fun c => c.toInt8.toInt32)).map Value.int) (.int 0)) (F_qa1_count : Fld Z h0 qa1 "java/lang/AbstractStringBuilder" "count" "I" (.int 1)) (F_qa1_value : Fld Z h0 qa1 "java/lang/AbstractStringBuilder" "value" "[B" (.ref qa6)) (A_qa6 : Arv Z h0 qa6 qk7 .byte (16 : Int32) [.int 123, .int 0, .int 0, .int 0, .int 0, .int 0, .int 0, .int 0, .int 0, .int 0, .int 0, .int 0, .int 0, .int 0, .int 0, .int 0] (.int 0)) (F_qa1_coder : Fld Z h0 qa1 "java/lang/AbstractStringBuilder" "coder" "B" (.int 0)) (E_qa1 : Exa Z h0 qa1 "java/lang/StringBuilder") (g_qa6 : n0 ≤ qa6) (ne_qa1_qa6 : qa1 ≠ qa6) (g_qa1 : n0 ≤ qa1) :
    MF l Z Y28_ jdk_68_method_22_code 3 (some (.object "java/lang/AbstractStringBuilder")) (Rm 3 0 0 47) #[.ref qa1, .ref qa2] h0 (Q59 Z qa1 qi4 qa6 qk7 h0 n0) := by
 refine own_sF pn7 rfl (fun m => ef10 m qa1 qa2) ?_
 intro p e s m below meth c s₁ Bd hZ hh hx hby hml hown hnm X0 e0 pre0
 have N0 := Fr.nil n0
 have hcd2 : StrChars.Road.CodA ([qi4] : List Int32) 0 (1 : Int32) ((([qi4] : List Int32).map (fun c => c.toInt8.toInt32)).map Value.int) := StrChars.Road.codOf (n := 1) rfl (fun x hx => (hp_qa2 x hx).2)
 have hbd2 : ∀ x ∈ ([qi4] : List Int32), ¬ x < 0 ∧ ¬ (65535 : Int32) < x := own_up _ hp_qa2
 obtain ⟨cq1, kq1, q1a, q1b, q1c⟩ := isOf hZ e0 E_qa2
 obtain ⟨_, T1, L1, X1, hQ1, st1⟩ := own_cb0 0 0 0 0 0 0 (X0.virtualBack hx (y := Y10_) (z := Y10_) hown (mvT hZ (w187_ hw)) (mvT hZ (w59_ hw)) (notFace_of_selects (args := #[]) (mvT hZ (w61_ hw))) (mvT hZ (w61_ hw)) (mvT hZ (w60_ hw)) (by decide) (StrChars.Road.lenW (W := 0) hZ (own_wl hw) (kI := 4) (w5_ hw) E_qa2 F_qa2_value F_qa2_coder A_qa3 hcd2 hbd2 (O2.ext X00.2) P5 (lE rfl) (lE rfl) (lE rfl)) q1a q1c (g := (mkF m 10 #[rv qa1, rv qa2, .unset] [.ref qa2])) rfl hml.symm (Steps.refl _) (argsL := []) (rest := []) (lenOf pd7 rfl) rfl (own_hw rfl) (hb hby d23_10) (fun _ _ => ⟨rfl, e0, (lE rfl : 0 + 0 ≤ _), (lE rfl : 0 + 0 ≤ _)⟩)) rfl rfl
 dsimp only [Pt.U, Pt.locs, Pt.cells, Pt.slots] at hQ1
 obtain ⟨rfl, rfl, e1q⟩ := hQ1
 have N1 := Fr.app N0 (Fr.nil n0)
 obtain ⟨T3, X3, e3, st3⟩ := getF X1 hx hZ hown (host := "") (Or.inl (w188_ hw)) Via.refl e1q F_qa1_count (g := (mkF m 16 #[rv qa1, rv qa2, iv 1] [.ref qa1, .ref qa1])) rfl rfl (hb hby d23_16)
 obtain ⟨cq4, q4, q4'⟩ := E_qa1.cell
 obtain ⟨_, T4, L4, X4, hQ4, st4⟩ := own_cb 0 0 0 0 0 0 (X3.privateBack hx (y := Y23_) hown (mvT hZ (w190_ hw)) (mvT hZ (w191_ hw)) (own_selP (mvT hZ (w193_ hw)) (Cond.privateMethod_at (mvP hZ (w192_ hw) (args := #[]))) (mvT hZ (w191_ hw)) (by decide)) (Cond.privateMethod_at (mvP hZ (w192_ hw) (args := #[]))) (mvT hZ (w194_ hw)) (by decide) (backOf (W := 0) (rm56 l Z a0 hw  qa1 qa6 qk7 h0 n0 X00 F_qa1_value A_qa6 F_qa1_coder) hZ (w194_ hw) (w168_ hw) (lE rfl) (lE rfl)) (g := (mkF m 21 #[rv qa1, rv qa2, iv 1] [.int 2, .ref qa1])) rfl hml.symm (Steps.refl _) (a := qa1) (by rw [e3]; exact q4) q4' (argsL := [.int 2]) (rest := []) (lenOf pd18 rfl) rfl (own_hw rfl) (hb hby d23_21) (fun _ _ => ⟨rfl, e3, (lE rfl : 0 + 0 ≤ _), (lE rfl : 0 + 0 ≤ _)⟩)) rfl rfl
 obtain ⟨rfl, N4q, e4q⟩ := hQ4
 have N4 := Fr.app N1 N4q
 obtain ⟨T5, X5, e5, st5⟩ := getF X4 hx hZ hown (host := "") (Or.inl (w188_ hw)) Via.refl e4q F_qa1_count (g := (mkF m 26 #[rv qa1, rv qa2, iv 1] [.ref qa1, .ref qa1])) rfl rfl (hb hby d23_26)
 obtain ⟨cq6, q6, q6'⟩ := E_qa1.cell
 obtain ⟨_, T6, L6, X6, hQ6, st6⟩ := own_cb 0 0 0 0 0 0 (X5.privateBack hx (y := Y27_) hown (mvT hZ (w195_ hw)) (mvT hZ (w196_ hw)) (own_selP (mvT hZ (w198_ hw)) (Cond.privateMethod_at (mvP hZ (w197_ hw) (args := #[]))) (mvT hZ (w196_ hw)) (by decide)) (Cond.privateMethod_at (mvP hZ (w197_ hw) (args := #[]))) (mvT hZ (w199_ hw)) (by decide) (backOf (W := 0) (rm58 l Z a0 hw G1 qa1 qa2 qa6 qa3 qk5 qi4 qk7 h0 n0 X00 O2 P5 F_qa1_coder E_qa2 F_qa2_coder E_qa1 F_qa1_value F_qa2_value A_qa3 A_qa6 g_qa6) hZ (w199_ hw) (w168_ hw) (lE rfl) (lE rfl)) (g := (mkF m 30 #[rv qa1, rv qa2, iv 1] [.ref qa2, .int 1, .ref qa1])) rfl hml.symm (Steps.refl _) (a := qa1) (by rw [e5]; exact q6) q6' (argsL := [.int 1, .ref qa2]) (rest := []) (lenOf pd23 rfl) rfl (own_hw rfl) (hb hby d23_30) (fun _ _ => ⟨rfl, e5, (lE rfl : 0 + 0 ≤ _), (lE rfl : 0 + 0 ≤ _)⟩)) rfl rfl
 obtain ⟨rfl, N6q, K6q, w7⟩ := hQ6
 have N6 := Fr.app N4 N6q
 have K8 := (Keep.refl h0 [qa6, qa1]).trans K6q (allS (Or.inl (mI 0 rfl)) all0)
 have F10_ := F_qa1_count.keep K6q (ninS ne_qa1_qa6 nin0)
 obtain ⟨T9, X9, e9, st9⟩ := getF X6 hx hZ hown (host := "") (Or.inl (w188_ hw)) Via.refl rfl F10_ (g := (mkF m 35 #[rv qa1, rv qa2, iv 1] [.ref qa1, .ref qa1])) rfl rfl (hb hby d23_35)
 have E11_ := E_qa1.keep K6q
 obtain ⟨T12, h12, X12, e12, W12, st12⟩ := putF X9 hx hZ hown (host := "") (Or.inl (w188_ hw)) Via.refl e9 F10_ E11_ (Or.inl (w189_ hw)) (w159_ hw) (ty := .int) (by decide) rfl rfl (g := (mkF m 40 #[rv qa1, rv qa2, iv 1] [.int 2, .ref qa1])) rfl rfl (hb hby d23_40)
 have N12 := Fr.snoc X12 N6 g_qa1
 have K13 := K8.wr W12 (Or.inl (mI 1 rfl))
 have F14_ : Fld Z h12 qa1 "java/lang/AbstractStringBuilder" "count" "I" (.int 2) := F10_.same W12
 have F15_ := F_qa1_value.keep K6q (ninS ne_qa1_qa6 nin0)
 have F16_ := F15_.other W12 (Or.inr (slot_ne (Or.inl (w173_ hw)) (Or.inl (w189_ hw)) (by decide) (t := (.array .byte)) (t' := .int) (by decide) (by decide)))
 have F17_ := F_qa1_coder.keep K6q (ninS ne_qa1_qa6 nin0)
 have F18_ := F17_.other W12 (Or.inr (slot_ne (Or.inl (w175_ hw)) (Or.inl (w189_ hw)) (by decide) (t := .byte) (t' := .int) (by decide) (by decide)))
 have E19_ := E11_.wr W12
 have A20_ := w7.other W12 (Ne.symm ne_qa1_qa6)
 refine own_lvF X12 Bd (.ref qa1) e12 ⟨rfl, N12, K13, F14_, F16_, F18_, E19_, A20_⟩ rfl (fun fs hr => pre0 _ (by
  show Sx p e below s₁ m 0 #[rv qa1, rv qa2, .unset] [] _
  refine zb X0 Bd d23_0 rfl rfl ?_
  refine XS.ifnonnullYes X0.here hx rfl (pc0 := 1) (pc' := 9) rfl (hb hby d23_1) rfl (by decide) (by decide) ?_
  refine zb X0 Bd d23_9 rfl rfl ?_
  refine st1.trans ?_
  refine zt X1 Bd d23_13 (l' := #[rv qa1, rv qa2, iv 1]) rfl ?_
  refine zb X1 Bd d23_14 rfl rfl ?_
  refine zb X1 Bd d23_15 rfl rfl ?_
  refine st3 _ ?_
  refine zj X3 Bd d23_19 rfl ?_
  refine XS.iadd X3.here hx rfl (hb hby d23_20) rfl ?_
  refine st4.trans ?_
  refine zb X4 Bd d23_24 rfl rfl ?_
  refine zb X4 Bd d23_25 rfl rfl ?_
  refine st5 _ ?_
  refine zb X5 Bd d23_29 rfl rfl ?_
  refine st6.trans ?_
  refine zb X6 Bd d23_33 rfl rfl ?_
  refine XS.dup X6.here hx rfl (hb hby d23_34) rfl rfl ?_
  refine st9 _ ?_
  refine zj X9 Bd d23_38 rfl ?_
  refine XS.iadd X9.here hx rfl (hb hby d23_39) rfl ?_
  refine st12 _ ?_
  refine zb X12 Bd d23_43 rfl rfl ?_
  exact retOut X12 hx Bd.returns rfl (Or.inr (Or.inr (Or.inr (Or.inr ⟨rfl, rfl, rfl⟩)))) (hb hby d23_44) hr))
-- java/lang/StringBuilder.append(Ljava/lang/String;)Ljava/lang/StringBuilder;
def Q60 (Z : State) (qa1 : Addr) (qi4 : Int32) (qa6 : Addr) (qk7 : ClassId) (h0 : Heap) (n0 : Nat) (v : Option Value) (h : Heap) (L : List Loc) : Prop := v = some (.ref qa1) ∧ Fr n0 L ∧ Keep h0 h [qa1, qa6] ∧ Exa Z h qa1 "java/lang/StringBuilder" ∧ Fld Z h qa1 "java/lang/AbstractStringBuilder" "count" "I" (.int 2) ∧ Fld Z h qa1 "java/lang/AbstractStringBuilder" "value" "[B" (.ref qa6) ∧ Fld Z h qa1 "java/lang/AbstractStringBuilder" "coder" "B" (.int 0) ∧ Arv Z h qa6 qk7 .byte (16 : Int32) [.int 123, (.int ((qi4).toInt8.toInt32)), .int 0, .int 0, .int 0, .int 0, .int 0, .int 0, .int 0, .int 0, .int 0, .int 0, .int 0, .int 0, .int 0, .int 0] (.int 0)
theorem rm60 (l : Launch) (Z : State) (a0 : Array Value) (hw : HW a0 Z) (G1 : Int32) (qa1 : Addr) (qa2 : Addr) (qa3 : Addr) (qi4 : Int32) (qk5 : ClassId) (qa6 : Addr) (qk7 : ClassId) (h0 : Heap) (n0 : Nat) (X00 : Old Z n0 h0) (O2 : Sta Z Z.heap "java/lang/String" "COMPACT_STRINGS" "Z" (.int G1)) (P5 : ¬ (G1 = (0 : Int32))) (E_qa2 : Exa Z h0 qa2 "java/lang/String") (F_qa2_coder : Fld Z h0 qa2 "java/lang/String" "coder" "B" (.int 0)) (F_qa2_value : Fld Z h0 qa2 "java/lang/String" "value" "[B" (.ref qa3)) (hp_qa2 : ∀ c ∈ ([qi4] : List Int32), ¬ c < 0 ∧ ¬ (255 : Int32) < c) (A_qa3 : Arv Z h0 qa3 qk5 .byte (1 : Int32) ((([qi4] : List Int32).map (fun c => c.toInt8.toInt32)).map Value.int) (.int 0)) (F_qa1_count : Fld Z h0 qa1 "java/lang/AbstractStringBuilder" "count" "I" (.int 1)) (F_qa1_value : Fld Z h0 qa1 "java/lang/AbstractStringBuilder" "value" "[B" (.ref qa6)) (A_qa6 : Arv Z h0 qa6 qk7 .byte (16 : Int32) [.int 123, .int 0, .int 0, .int 0, .int 0, .int 0, .int 0, .int 0, .int 0, .int 0, .int 0, .int 0, .int 0, .int 0, .int 0, .int 0] (.int 0)) (F_qa1_coder : Fld Z h0 qa1 "java/lang/AbstractStringBuilder" "coder" "B" (.int 0)) (E_qa1 : Exa Z h0 qa1 "java/lang/StringBuilder") (g_qa6 : n0 ≤ qa6) (ne_qa1_qa6 : qa1 ≠ qa6) (g_qa1 : n0 ≤ qa1) :
    MF l Z Y29_ jdk_67_method_7_code 2 (some (.object "java/lang/StringBuilder")) (Rm 4 0 0 61) #[.ref qa1, .ref qa2] h0 (Q60 Z qa1 qi4 qa6 qk7 h0 n0) := by
 refine own_sF pn6 rfl (fun m => ef2 m qa1 qa2) ?_
 intro p e s m below meth c s₁ Bd hZ hh hx hby hml hown hnm X0 e0 pre0
 have N0 := Fr.nil n0
 obtain ⟨_, T1, L1, X1, hQ1, st1⟩ := own_cb 0 0 0 0 0 0 (superBack X0 hx hZ (y := Y28_) hown (w182_ hw) (own_same (w183_ hw) (w193_ hw) rfl (by decide)) (w183_ hw) (w184_ hw) (by decide) (backOf (W := 0) (rm59 l Z a0 hw G1 qa1 qa2 qa3 qi4 qk5 qa6 qk7 h0 n0 X00 O2 P5 E_qa2 F_qa2_coder F_qa2_value hp_qa2 A_qa3 F_qa1_count F_qa1_value A_qa6 F_qa1_coder E_qa1 g_qa6 ne_qa1_qa6 g_qa1) hZ (w186_ hw) (w168_ hw) (lE rfl) (lE rfl)) e0 (Ins.self E_qa1) (g := (mkF m 2 #[rv qa1, rv qa2] [.ref qa2, .ref qa1])) rfl hml.symm (w186_ hw) (argsL := [.ref qa2]) (rest := []) (lenOf pd24 rfl) rfl (own_hw rfl) (hb hby d22_2) (fun _ _ => ⟨rfl, e0, (lE rfl : 0 + 0 ≤ _), (lE rfl : 0 + 0 ≤ _)⟩)) rfl rfl
 obtain ⟨rfl, N1q, K1q, w2, w3, w4, w5, w6⟩ := hQ1
 have N1 := Fr.app N0 N1q
 have K7 := (Keep.refl h0 [qa1, qa6]).trans K1q (allS (Or.inl (mI 1 rfl)) (allS (Or.inl (mI 0 rfl)) all0))
 have E8_ := E_qa1.keep K1q
 refine own_lvF X1 Bd (.ref qa1) rfl ⟨rfl, N1, K7, E8_, w2, w3, w4, w6⟩ rfl (fun fs hr => pre0 _ (by
  show Sx p e below s₁ m 0 #[rv qa1, rv qa2] [] _
  refine zb X0 Bd d22_0 rfl rfl ?_
  refine zb X0 Bd d22_1 rfl rfl ?_
  refine st1.trans ?_
  refine XS.pop X1.here hx rfl (hb hby d22_5) rfl rfl ?_
  refine zb X1 Bd d22_6 rfl rfl ?_
  exact retOut X1 hx Bd.returns rfl (Or.inr (Or.inr (Or.inr (Or.inr ⟨rfl, rfl, rfl⟩)))) (hb hby d22_7) hr))
-- java/lang/AbstractStringBuilder.ensureCapacityInternal(I)V
def Q61 (Z : State)  (h0 : Heap) (n0 : Nat) (v : Option Value) (h : Heap) (L : List Loc) : Prop := v = none ∧ Fr n0 L ∧ h = h0
theorem rm61 (l : Launch) (Z : State) (a0 : Array Value) (hw : HW a0 Z) (qa1 : Addr) (qa2 : Addr) (qk3 : ClassId) (qi4 : Int32) (h0 : Heap) (n0 : Nat) (X00 : Old Z n0 h0) (F_qa1_value : Fld Z h0 qa1 "java/lang/AbstractStringBuilder" "value" "[B" (.ref qa2)) (A_qa2 : Arv Z h0 qa2 qk3 .byte (16 : Int32) [.int 123, .int qi4, .int 0, .int 0, .int 0, .int 0, .int 0, .int 0, .int 0, .int 0, .int 0, .int 0, .int 0, .int 0, .int 0, .int 0] (.int 0)) (F_qa1_coder : Fld Z h0 qa1 "java/lang/AbstractStringBuilder" "coder" "B" (.int 0)) :
    MF l Z Y23_ jdk_68_method_9_code 3 none (Rm 0 0 0 0) #[.ref qa1, .int 4] h0 (Q61 Z  h0 n0) := by
 refine own_sF pn7 rfl (fun m => ef12 m qa1 (4 : Int32)) ?_
 intro p e s m below meth c s₁ Bd hZ hh hx hby hml hown hnm X0 e0 pre0
 have N0 := Fr.nil n0
 obtain ⟨T1, X1, e1, st1⟩ := getF X0 hx hZ hown (host := "") (Or.inl (w172_ hw)) Via.refl e0 F_qa1_value (g := (mkF m 1 #[rv qa1, iv 4, .unset] [.ref qa1])) rfl rfl (hb hby d24_1)
 have av2 := A_qa2
 obtain ⟨cl2, Ar2, q2, S2, N2, H2, Gf2⟩ := av2
 obtain ⟨T3, X3, e3, st3⟩ := getF X1 hx hZ hown (host := "") (Or.inl (w174_ hw)) Via.refl e1 F_qa1_coder (g := (mkF m 6 #[rv qa1, iv 4, .unset] [.ref qa1, .int 16])) rfl rfl (hb hby d24_6)
 refine own_lvN X3 Bd e3 ⟨rfl, N0, rfl⟩ rfl (fun fs hr => pre0 _ (by
  show Sx p e below s₁ m 0 #[rv qa1, iv 4, .unset] [] _
  refine zb X0 Bd d24_0 rfl rfl ?_
  refine st1 _ ?_
  refine X1.arraylength hx (by rw [e1]; exact Ar2.1) (State.isArrayOf_alike hZ.alike Ar2.2.1) (g := (mkF m 4 #[rv qa1, iv 4, .unset] [.ref qa2])) rfl rfl (hb hby d24_4) _ ?_
  rw [len_of S2 N2]
  refine zb X1 Bd d24_5 rfl rfl ?_
  refine st3 _ ?_
  refine XS.ishr X3.here hx rfl (hb hby d24_9) rfl ?_
  refine zt X3 Bd d24_10 (l' := #[rv qa1, iv 4, iv 16]) rfl ?_
  refine zj X3 Bd d24_11 rfl ?_
  refine zj X3 Bd d24_12 rfl ?_
  refine XS.isub X3.here hx rfl (hb hby d24_13) rfl ?_
  refine zp (pc' := 38) X3 Bd d24_14 (XT.i0_le_t ((by decide) : ¬ ((0 : Int32) < (-12 : Int32)))) rfl ?_
  exact X3.returnOut hx Bd.returns (hb hby d24_38) hr))
-- java/lang/String.getBytes([BIB)V
def Q62 (Z : State) (qa2 : Addr) (qk5 : ClassId) (qi6 : Int32) (h0 : Heap) (n0 : Nat) (v : Option Value) (h : Heap) (L : List Loc) : Prop := v = none ∧ Fr n0 L ∧ Keep h0 h [qa2] ∧ Arv Z h qa2 qk5 .byte (16 : Int32) [.int 123, .int qi6, .int 42, .int 125, .int 0, .int 0, .int 0, .int 0, .int 0, .int 0, .int 0, .int 0, .int 0, .int 0, .int 0, .int 0] (.int 0)
theorem rm62 (l : Launch) (Z : State) (a0 : Array Value) (hw : HW a0 Z) (G1 : Int32) (qa1 : Addr) (qa2 : Addr) (qa3 : Addr) (qk4 : ClassId) (qk5 : ClassId) (qi6 : Int32) (h0 : Heap) (n0 : Nat) (X00 : Old Z n0 h0) (O2 : Sta Z Z.heap "java/lang/String" "COMPACT_STRINGS" "Z" (.int G1)) (P5 : ¬ (G1 = (0 : Int32))) (E_qa1 : Exa Z h0 qa1 "java/lang/String") (F_qa1_coder : Fld Z h0 qa1 "java/lang/String" "coder" "B" (.int 0)) (F_qa1_value : Fld Z h0 qa1 "java/lang/String" "value" "[B" (.ref qa3)) (A_qa3 : Arv Z h0 qa3 qk4 .byte (2 : Int32) [.int 42, .int 125] (.int 0)) (A_qa2 : Arv Z h0 qa2 qk5 .byte (16 : Int32) [.int 123, .int qi6, .int 0, .int 0, .int 0, .int 0, .int 0, .int 0, .int 0, .int 0, .int 0, .int 0, .int 0, .int 0, .int 0, .int 0] (.int 0)) (g_qa2 : n0 ≤ qa2) :
    MF l Z Y26_ jdk_42_method_147_code 4 none (Rm 1 0 0 18) #[.ref qa1, .ref qa2, .int 2, .int 0] h0 (Q62 Z qa2 qk5 qi6 h0 n0) := by
 refine own_sF pn1 rfl (fun m => ef14 m qa1 qa2 (2 : Int32) (0 : Int32)) ?_
 intro p e s m below meth c s₁ Bd hZ hh hx hby hml hown hnm X0 e0 pre0
 have N0 := Fr.nil n0
 obtain ⟨_, T1, L1, X1, hQ1, st1⟩ := own_cV 0 0 [] 1 #[rv qa1, rv qa2, iv 2, iv 0] X0 hx hZ hown E_qa1 (w63_ hw) (w64_ hw) (notFace_of_selects (args := #[]) (mvT hZ (w66_ hw))) (w66_ hw) (w65_ hw) (w6_ hw) (w67_ hw) (rm24 l Z a0 hw G1 qa1 h0 n0 X00 O2 P5 F_qa1_coder) pd20 hml.symm (hb hby d28_1) e0 rfl rfl rfl rfl (by decide)
 obtain ⟨rfl, N1q, e1q⟩ := hQ1
 have N1 := Fr.app N0 N1q
 obtain ⟨T2, X2, e2, st2⟩ := getF X1 hx hZ hown (host := "") (Or.inl (w24_ hw)) Via.refl e1q F_qa1_value (g := (mkF m 9 #[rv qa1, rv qa2, iv 2, iv 0] [.ref qa1])) rfl rfl (hb hby d28_9)
 obtain ⟨T3, X3, e3, st3⟩ := getF X2 hx hZ hown (host := "") (Or.inl (w24_ hw)) Via.refl e2 F_qa1_value (g := (mkF m 18 #[rv qa1, rv qa2, iv 2, iv 0] [.ref qa1, .int 2, .ref qa2, .int 0, .ref qa3])) rfl rfl (hb hby d28_18)
 have av4 := A_qa3
 obtain ⟨cl4, Ar4, q4, S4, N4, H4, Gf4⟩ := av4
 obtain ⟨T5, h5, L5, X5, e5, N5, K5q, A5, st5⟩ := cpA X3 hx hZ hown (w211_ hw) (w214_ hw) (w212_ hw) (w213_ hw) e3 (vs := [.int 42, .int 125]) (vd := [.int 123, .int qi6, .int 0, .int 0, .int 0, .int 0, .int 0, .int 0, .int 0, .int 0, .int 0, .int 0, .int 0, .int 0, .int 0, .int 0]) (us := [.int 42, .int 125]) A_qa3 A_qa2 (Or.inl ⟨rfl, rfl⟩) (by decide) (by decide) (by decide) (by decide) (by decide) rfl (lE rfl) N1 g_qa2 (g := (mkF m 22 #[rv qa1, rv qa2, iv 2, iv 0] [.int 2, .int 2, .ref qa2, .int 0, .ref qa3])) rfl hml.symm rfl (hb hby d28_22) (by decide) (W := 0) (own_hw rfl) (by decide)
 have K6 := (Keep.refl h0 [qa2]).trans K5q (allS (Or.inl (mI 0 rfl)) all0)
 have A7_ : Arv Z h5 qa2 qk5 .byte (16 : Int32) [.int 123, .int qi6, .int 42, .int 125, .int 0, .int 0, .int 0, .int 0, .int 0, .int 0, .int 0, .int 0, .int 0, .int 0, .int 0, .int 0] (.int 0) := A5
 refine own_lvN X5 Bd e5 ⟨rfl, N5, K6, A7_⟩ rfl (fun fs hr => pre0 _ (by
  show Sx p e below s₁ m 0 #[rv qa1, rv qa2, iv 2, iv 0] [] _
  refine zb X0 Bd d28_0 rfl rfl ?_
  refine st1 _ ?_
  refine zj X1 Bd d28_4 rfl ?_
  refine zn X1 Bd d28_5 (XT.ii_ne_f ((by decide) : (0 : Int32) = (0 : Int32))) ?_
  refine zb X1 Bd d28_8 rfl rfl ?_
  refine st2 _ ?_
  refine zc X2 Bd d28_12 ?_
  refine zb X2 Bd d28_13 rfl rfl ?_
  refine zj X2 Bd d28_14 rfl ?_
  refine zj X2 Bd d28_15 rfl ?_
  refine XS.ishl X2.here hx rfl (hb hby d28_16) rfl ?_
  refine zb X2 Bd d28_17 rfl rfl ?_
  refine st3 _ ?_
  refine X3.arraylength hx (by rw [e3]; exact Ar4.1) (State.isArrayOf_alike hZ.alike Ar4.2.1) (g := (mkF m 21 #[rv qa1, rv qa2, iv 2, iv 0] [.ref qa3, .int 2, .ref qa2, .int 0, .ref qa3])) rfl rfl (hb hby d28_21) _ ?_
  rw [len_of S4 N4]
  refine st5 _ ?_
  refine zg (pc' := 43) X5 Bd d28_25 rfl ?_
  exact X5.returnOut hx Bd.returns (hb hby d28_43) hr))
-- java/lang/AbstractStringBuilder.putStringAt(ILjava/lang/String;)V
def Q63 (Z : State) (qa3 : Addr) (qk6 : ClassId) (qi7 : Int32) (h0 : Heap) (n0 : Nat) (v : Option Value) (h : Heap) (L : List Loc) : Prop := v = none ∧ Fr n0 L ∧ Keep h0 h [qa3] ∧ Arv Z h qa3 qk6 .byte (16 : Int32) [.int 123, .int qi7, .int 42, .int 125, .int 0, .int 0, .int 0, .int 0, .int 0, .int 0, .int 0, .int 0, .int 0, .int 0, .int 0, .int 0] (.int 0)
theorem rm63 (l : Launch) (Z : State) (a0 : Array Value) (hw : HW a0 Z) (G1 : Int32) (qa1 : Addr) (qa2 : Addr) (qa3 : Addr) (qa4 : Addr) (qk5 : ClassId) (qk6 : ClassId) (qi7 : Int32) (h0 : Heap) (n0 : Nat) (X00 : Old Z n0 h0) (O2 : Sta Z Z.heap "java/lang/String" "COMPACT_STRINGS" "Z" (.int G1)) (P5 : ¬ (G1 = (0 : Int32))) (F_qa1_coder : Fld Z h0 qa1 "java/lang/AbstractStringBuilder" "coder" "B" (.int 0)) (E_qa2 : Exa Z h0 qa2 "java/lang/String") (F_qa2_coder : Fld Z h0 qa2 "java/lang/String" "coder" "B" (.int 0)) (E_qa1 : Exa Z h0 qa1 "java/lang/StringBuilder") (F_qa1_value : Fld Z h0 qa1 "java/lang/AbstractStringBuilder" "value" "[B" (.ref qa3)) (F_qa2_value : Fld Z h0 qa2 "java/lang/String" "value" "[B" (.ref qa4)) (A_qa4 : Arv Z h0 qa4 qk5 .byte (2 : Int32) [.int 42, .int 125] (.int 0)) (A_qa3 : Arv Z h0 qa3 qk6 .byte (16 : Int32) [.int 123, .int qi7, .int 0, .int 0, .int 0, .int 0, .int 0, .int 0, .int 0, .int 0, .int 0, .int 0, .int 0, .int 0, .int 0, .int 0] (.int 0)) (g_qa3 : n0 ≤ qa3) :
    MF l Z Y27_ jdk_68_method_73_code 3 none (Rm 2 0 0 33) #[.ref qa1, .int 2, .ref qa2] h0 (Q63 Z qa3 qk6 qi7 h0 n0) := by
 refine own_sF pn7 rfl (fun m => ef13 m qa1 (2 : Int32) qa2) ?_
 intro p e s m below meth c s₁ Bd hZ hh hx hby hml hown hnm X0 e0 pre0
 have N0 := Fr.nil n0
 obtain ⟨cq1, q1, q1'⟩ := E_qa1.cell
 obtain ⟨_, T1, L1, X1, hQ1, st1⟩ := own_cb 0 0 0 0 0 0 (X0.privateBack hx (y := Y25_) hown (mvT hZ (w200_ hw)) (mvT hZ (w201_ hw)) (own_selP (mvT hZ (w203_ hw)) (Cond.privateMethod_at (mvP hZ (w202_ hw) (args := #[]))) (mvT hZ (w201_ hw)) (by decide)) (Cond.privateMethod_at (mvP hZ (w202_ hw) (args := #[]))) (mvT hZ (w204_ hw)) (by decide) (backOf (W := 0) (rm25 l Z a0 hw G1 qa1 qa2 h0 n0 X00 O2 P5 F_qa1_coder E_qa2 F_qa2_coder) hZ (w204_ hw) (w168_ hw) (lE rfl) (lE rfl)) (g := (mkF m 2 #[rv qa1, iv 2, rv qa2] [.ref qa2, .ref qa1])) rfl hml.symm (Steps.refl _) (a := qa1) (by rw [e0]; exact q1) q1' (argsL := [.ref qa2]) (rest := []) (lenOf pd21 rfl) rfl (own_hw rfl) (hb hby d25_2) (fun _ _ => ⟨rfl, e0, (lE rfl : 0 + 0 ≤ _), (lE rfl : 0 + 0 ≤ _)⟩)) rfl rfl
 obtain ⟨rfl, N1q, e1q⟩ := hQ1
 have N1 := Fr.app N0 N1q
 obtain ⟨T2, X2, e2, st2⟩ := getF X1 hx hZ hown (host := "") (Or.inl (w172_ hw)) Via.refl e1q F_qa1_value (g := (mkF m 7 #[rv qa1, iv 2, rv qa2] [.ref qa1, .ref qa2])) rfl rfl (hb hby d25_7)
 obtain ⟨T3, X3, e3, st3⟩ := getF X2 hx hZ hown (host := "") (Or.inl (w174_ hw)) Via.refl e2 F_qa1_coder (g := (mkF m 12 #[rv qa1, iv 2, rv qa2] [.ref qa1, .int 2, .ref qa3, .ref qa2])) rfl rfl (hb hby d25_12)
 obtain ⟨_, T4, L4, X4, hQ4, st4⟩ := own_cV 0 0 [] 15 #[rv qa1, iv 2, rv qa2] X3 hx hZ hown E_qa2 (w206_ hw) (w207_ hw) (notFace_of_selects (args := #[]) (mvT hZ (w209_ hw))) (w209_ hw) (w208_ hw) (w6_ hw) (w210_ hw) (rm62 l Z a0 hw G1 qa2 qa3 qa4 qk5 qk6 qi7 h0 n0 X00 O2 P5 E_qa2 F_qa2_coder F_qa2_value A_qa4 A_qa3 g_qa3) pd22 hml.symm (hb hby d25_15) e3 rfl rfl rfl rfl (by decide)
 obtain ⟨rfl, N4q, K4q, w5⟩ := hQ4
 have N4 := Fr.app N1 N4q
 have K6 := (Keep.refl h0 [qa3]).trans K4q (allS (Or.inl (mI 0 rfl)) all0)
 refine own_lvN X4 Bd rfl ⟨rfl, N4, K6, w5⟩ rfl (fun fs hr => pre0 _ (by
  show Sx p e below s₁ m 0 #[rv qa1, iv 2, rv qa2] [] _
  refine zb X0 Bd d25_0 rfl rfl ?_
  refine zb X0 Bd d25_1 rfl rfl ?_
  refine st1.trans ?_
  refine zb X1 Bd d25_5 rfl rfl ?_
  refine zb X1 Bd d25_6 rfl rfl ?_
  refine st2 _ ?_
  refine zj X2 Bd d25_10 rfl ?_
  refine zb X2 Bd d25_11 rfl rfl ?_
  refine st3 _ ?_
  refine st4 _ ?_
  exact X4.returnOut hx Bd.returns (hb hby d25_18) hr))
-- java/lang/AbstractStringBuilder.append(Ljava/lang/String;)Ljava/lang/AbstractStringBuilder;
def Q64 (Z : State) (qa1 : Addr) (qa5 : Addr) (qk6 : ClassId) (qi7 : Int32) (h0 : Heap) (n0 : Nat) (v : Option Value) (h : Heap) (L : List Loc) : Prop := v = some (.ref qa1) ∧ Fr n0 L ∧ Keep h0 h [qa5, qa1] ∧ Fld Z h qa1 "java/lang/AbstractStringBuilder" "count" "I" (.int 4) ∧ Fld Z h qa1 "java/lang/AbstractStringBuilder" "value" "[B" (.ref qa5) ∧ Fld Z h qa1 "java/lang/AbstractStringBuilder" "coder" "B" (.int 0) ∧ Exa Z h qa1 "java/lang/StringBuilder" ∧ Arv Z h qa5 qk6 .byte (16 : Int32) [.int 123, .int qi7, .int 42, .int 125, .int 0, .int 0, .int 0, .int 0, .int 0, .int 0, .int 0, .int 0, .int 0, .int 0, .int 0, .int 0] (.int 0)
theorem rm64 (l : Launch) (Z : State) (a0 : Array Value) (hw : HW a0 Z) (G1 : Int32) (qa1 : Addr) (qa2 : Addr) (qa3 : Addr) (qk4 : ClassId) (qa5 : Addr) (qk6 : ClassId) (qi7 : Int32) (h0 : Heap) (n0 : Nat) (X00 : Old Z n0 h0) (O2 : Sta Z Z.heap "java/lang/String" "COMPACT_STRINGS" "Z" (.int G1)) (P5 : ¬ (G1 = (0 : Int32))) (E_qa2 : Exa Z h0 qa2 "java/lang/String") (F_qa2_coder : Fld Z h0 qa2 "java/lang/String" "coder" "B" (.int 0)) (F_qa2_value : Fld Z h0 qa2 "java/lang/String" "value" "[B" (.ref qa3)) (hp_qa2 : ∀ c ∈ ([42, 125] : List Int32), ¬ c < 0 ∧ ¬ (255 : Int32) < c) (A_qa3 : Arv Z h0 qa3 qk4 .byte (2 : Int32) [.int 42, .int 125] (.int 0)) (F_qa1_count : Fld Z h0 qa1 "java/lang/AbstractStringBuilder" "count" "I" (.int 2)) (F_qa1_value : Fld Z h0 qa1 "java/lang/AbstractStringBuilder" "value" "[B" (.ref qa5)) (A_qa5 : Arv Z h0 qa5 qk6 .byte (16 : Int32) [.int 123, .int qi7, .int 0, .int 0, .int 0, .int 0, .int 0, .int 0, .int 0, .int 0, .int 0, .int 0, .int 0, .int 0, .int 0, .int 0] (.int 0)) (F_qa1_coder : Fld Z h0 qa1 "java/lang/AbstractStringBuilder" "coder" "B" (.int 0)) (E_qa1 : Exa Z h0 qa1 "java/lang/StringBuilder") (g_qa5 : n0 ≤ qa5) (ne_qa1_qa5 : qa1 ≠ qa5) (g_qa1 : n0 ≤ qa1) :
    MF l Z Y28_ jdk_68_method_22_code 3 (some (.object "java/lang/AbstractStringBuilder")) (Rm 3 0 0 47) #[.ref qa1, .ref qa2] h0 (Q64 Z qa1 qa5 qk6 qi7 h0 n0) := by
 refine own_sF pn7 rfl (fun m => ef10 m qa1 qa2) ?_
 intro p e s m below meth c s₁ Bd hZ hh hx hby hml hown hnm X0 e0 pre0
 have N0 := Fr.nil n0
 have hcd2 : StrChars.Road.CodA ([42, 125] : List Int32) 0 (2 : Int32) [.int 42, .int 125] := StrChars.Road.codOf (n := 2) rfl (fun x hx => (hp_qa2 x hx).2)
 have hbd2 : ∀ x ∈ ([42, 125] : List Int32), ¬ x < 0 ∧ ¬ (65535 : Int32) < x := own_up _ hp_qa2
 obtain ⟨cq1, kq1, q1a, q1b, q1c⟩ := isOf hZ e0 E_qa2
 obtain ⟨_, T1, L1, X1, hQ1, st1⟩ := own_cb0 0 0 0 0 0 0 (X0.virtualBack hx (y := Y10_) (z := Y10_) hown (mvT hZ (w187_ hw)) (mvT hZ (w59_ hw)) (notFace_of_selects (args := #[]) (mvT hZ (w61_ hw))) (mvT hZ (w61_ hw)) (mvT hZ (w60_ hw)) (by decide) (StrChars.Road.lenW (W := 0) hZ (own_wl hw) (kI := 4) (w5_ hw) E_qa2 F_qa2_value F_qa2_coder A_qa3 hcd2 hbd2 (O2.ext X00.2) P5 (lE rfl) (lE rfl) (lE rfl)) q1a q1c (g := (mkF m 10 #[rv qa1, rv qa2, .unset] [.ref qa2])) rfl hml.symm (Steps.refl _) (argsL := []) (rest := []) (lenOf pd7 rfl) rfl (own_hw rfl) (hb hby d23_10) (fun _ _ => ⟨rfl, e0, (lE rfl : 0 + 0 ≤ _), (lE rfl : 0 + 0 ≤ _)⟩)) rfl rfl
 dsimp only [Pt.U, Pt.locs, Pt.cells, Pt.slots] at hQ1
 obtain ⟨rfl, rfl, e1q⟩ := hQ1
 have N1 := Fr.app N0 (Fr.nil n0)
 obtain ⟨T3, X3, e3, st3⟩ := getF X1 hx hZ hown (host := "") (Or.inl (w188_ hw)) Via.refl e1q F_qa1_count (g := (mkF m 16 #[rv qa1, rv qa2, iv 2] [.ref qa1, .ref qa1])) rfl rfl (hb hby d23_16)
 obtain ⟨cq4, q4, q4'⟩ := E_qa1.cell
 obtain ⟨_, T4, L4, X4, hQ4, st4⟩ := own_cb 0 0 0 0 0 0 (X3.privateBack hx (y := Y23_) hown (mvT hZ (w190_ hw)) (mvT hZ (w191_ hw)) (own_selP (mvT hZ (w193_ hw)) (Cond.privateMethod_at (mvP hZ (w192_ hw) (args := #[]))) (mvT hZ (w191_ hw)) (by decide)) (Cond.privateMethod_at (mvP hZ (w192_ hw) (args := #[]))) (mvT hZ (w194_ hw)) (by decide) (backOf (W := 0) (rm61 l Z a0 hw  qa1 qa5 qk6 qi7 h0 n0 X00 F_qa1_value A_qa5 F_qa1_coder) hZ (w194_ hw) (w168_ hw) (lE rfl) (lE rfl)) (g := (mkF m 21 #[rv qa1, rv qa2, iv 2] [.int 4, .ref qa1])) rfl hml.symm (Steps.refl _) (a := qa1) (by rw [e3]; exact q4) q4' (argsL := [.int 4]) (rest := []) (lenOf pd18 rfl) rfl (own_hw rfl) (hb hby d23_21) (fun _ _ => ⟨rfl, e3, (lE rfl : 0 + 0 ≤ _), (lE rfl : 0 + 0 ≤ _)⟩)) rfl rfl
 obtain ⟨rfl, N4q, e4q⟩ := hQ4
 have N4 := Fr.app N1 N4q
 obtain ⟨T5, X5, e5, st5⟩ := getF X4 hx hZ hown (host := "") (Or.inl (w188_ hw)) Via.refl e4q F_qa1_count (g := (mkF m 26 #[rv qa1, rv qa2, iv 2] [.ref qa1, .ref qa1])) rfl rfl (hb hby d23_26)
 obtain ⟨cq6, q6, q6'⟩ := E_qa1.cell
 obtain ⟨_, T6, L6, X6, hQ6, st6⟩ := own_cb 0 0 0 0 0 0 (X5.privateBack hx (y := Y27_) hown (mvT hZ (w195_ hw)) (mvT hZ (w196_ hw)) (own_selP (mvT hZ (w198_ hw)) (Cond.privateMethod_at (mvP hZ (w197_ hw) (args := #[]))) (mvT hZ (w196_ hw)) (by decide)) (Cond.privateMethod_at (mvP hZ (w197_ hw) (args := #[]))) (mvT hZ (w199_ hw)) (by decide) (backOf (W := 0) (rm63 l Z a0 hw G1 qa1 qa2 qa5 qa3 qk4 qk6 qi7 h0 n0 X00 O2 P5 F_qa1_coder E_qa2 F_qa2_coder E_qa1 F_qa1_value F_qa2_value A_qa3 A_qa5 g_qa5) hZ (w199_ hw) (w168_ hw) (lE rfl) (lE rfl)) (g := (mkF m 30 #[rv qa1, rv qa2, iv 2] [.ref qa2, .int 2, .ref qa1])) rfl hml.symm (Steps.refl _) (a := qa1) (by rw [e5]; exact q6) q6' (argsL := [.int 2, .ref qa2]) (rest := []) (lenOf pd23 rfl) rfl (own_hw rfl) (hb hby d23_30) (fun _ _ => ⟨rfl, e5, (lE rfl : 0 + 0 ≤ _), (lE rfl : 0 + 0 ≤ _)⟩)) rfl rfl
 obtain ⟨rfl, N6q, K6q, w7⟩ := hQ6
 have N6 := Fr.app N4 N6q
 have K8 := (Keep.refl h0 [qa5, qa1]).trans K6q (allS (Or.inl (mI 0 rfl)) all0)
 have F10_ := F_qa1_count.keep K6q (ninS ne_qa1_qa5 nin0)
 obtain ⟨T9, X9, e9, st9⟩ := getF X6 hx hZ hown (host := "") (Or.inl (w188_ hw)) Via.refl rfl F10_ (g := (mkF m 35 #[rv qa1, rv qa2, iv 2] [.ref qa1, .ref qa1])) rfl rfl (hb hby d23_35)
 have E11_ := E_qa1.keep K6q
 obtain ⟨T12, h12, X12, e12, W12, st12⟩ := putF X9 hx hZ hown (host := "") (Or.inl (w188_ hw)) Via.refl e9 F10_ E11_ (Or.inl (w189_ hw)) (w159_ hw) (ty := .int) (by decide) rfl rfl (g := (mkF m 40 #[rv qa1, rv qa2, iv 2] [.int 4, .ref qa1])) rfl rfl (hb hby d23_40)
 have N12 := Fr.snoc X12 N6 g_qa1
 have K13 := K8.wr W12 (Or.inl (mI 1 rfl))
 have F14_ : Fld Z h12 qa1 "java/lang/AbstractStringBuilder" "count" "I" (.int 4) := F10_.same W12
 have F15_ := F_qa1_value.keep K6q (ninS ne_qa1_qa5 nin0)
 have F16_ := F15_.other W12 (Or.inr (slot_ne (Or.inl (w173_ hw)) (Or.inl (w189_ hw)) (by decide) (t := (.array .byte)) (t' := .int) (by decide) (by decide)))
 have F17_ := F_qa1_coder.keep K6q (ninS ne_qa1_qa5 nin0)
 have F18_ := F17_.other W12 (Or.inr (slot_ne (Or.inl (w175_ hw)) (Or.inl (w189_ hw)) (by decide) (t := .byte) (t' := .int) (by decide) (by decide)))
 have E19_ := E11_.wr W12
 have A20_ := w7.other W12 (Ne.symm ne_qa1_qa5)
 refine own_lvF X12 Bd (.ref qa1) e12 ⟨rfl, N12, K13, F14_, F16_, F18_, E19_, A20_⟩ rfl (fun fs hr => pre0 _ (by
  show Sx p e below s₁ m 0 #[rv qa1, rv qa2, .unset] [] _
  refine zb X0 Bd d23_0 rfl rfl ?_
  refine XS.ifnonnullYes X0.here hx rfl (pc0 := 1) (pc' := 9) rfl (hb hby d23_1) rfl (by decide) (by decide) ?_
  refine zb X0 Bd d23_9 rfl rfl ?_
  refine st1.trans ?_
  refine zt X1 Bd d23_13 (l' := #[rv qa1, rv qa2, iv 2]) rfl ?_
  refine zb X1 Bd d23_14 rfl rfl ?_
  refine zb X1 Bd d23_15 rfl rfl ?_
  refine st3 _ ?_
  refine zj X3 Bd d23_19 rfl ?_
  refine XS.iadd X3.here hx rfl (hb hby d23_20) rfl ?_
  refine st4.trans ?_
  refine zb X4 Bd d23_24 rfl rfl ?_
  refine zb X4 Bd d23_25 rfl rfl ?_
  refine st5 _ ?_
  refine zb X5 Bd d23_29 rfl rfl ?_
  refine st6.trans ?_
  refine zb X6 Bd d23_33 rfl rfl ?_
  refine XS.dup X6.here hx rfl (hb hby d23_34) rfl rfl ?_
  refine st9 _ ?_
  refine zj X9 Bd d23_38 rfl ?_
  refine XS.iadd X9.here hx rfl (hb hby d23_39) rfl ?_
  refine st12 _ ?_
  refine zb X12 Bd d23_43 rfl rfl ?_
  exact retOut X12 hx Bd.returns rfl (Or.inr (Or.inr (Or.inr (Or.inr ⟨rfl, rfl, rfl⟩)))) (hb hby d23_44) hr))
-- java/lang/StringBuilder.append(Ljava/lang/String;)Ljava/lang/StringBuilder;
def Q65 (Z : State) (qa1 : Addr) (qa5 : Addr) (qk6 : ClassId) (qi7 : Int32) (h0 : Heap) (n0 : Nat) (v : Option Value) (h : Heap) (L : List Loc) : Prop := v = some (.ref qa1) ∧ Fr n0 L ∧ Keep h0 h [qa1, qa5] ∧ Exa Z h qa1 "java/lang/StringBuilder" ∧ Fld Z h qa1 "java/lang/AbstractStringBuilder" "count" "I" (.int 4) ∧ Fld Z h qa1 "java/lang/AbstractStringBuilder" "value" "[B" (.ref qa5) ∧ Fld Z h qa1 "java/lang/AbstractStringBuilder" "coder" "B" (.int 0) ∧ Arv Z h qa5 qk6 .byte (16 : Int32) [.int 123, .int qi7, .int 42, .int 125, .int 0, .int 0, .int 0, .int 0, .int 0, .int 0, .int 0, .int 0, .int 0, .int 0, .int 0, .int 0] (.int 0)
theorem rm65 (l : Launch) (Z : State) (a0 : Array Value) (hw : HW a0 Z) (G1 : Int32) (qa1 : Addr) (qa2 : Addr) (qa3 : Addr) (qk4 : ClassId) (qa5 : Addr) (qk6 : ClassId) (qi7 : Int32) (h0 : Heap) (n0 : Nat) (X00 : Old Z n0 h0) (O2 : Sta Z Z.heap "java/lang/String" "COMPACT_STRINGS" "Z" (.int G1)) (P5 : ¬ (G1 = (0 : Int32))) (E_qa2 : Exa Z h0 qa2 "java/lang/String") (F_qa2_coder : Fld Z h0 qa2 "java/lang/String" "coder" "B" (.int 0)) (F_qa2_value : Fld Z h0 qa2 "java/lang/String" "value" "[B" (.ref qa3)) (hp_qa2 : ∀ c ∈ ([42, 125] : List Int32), ¬ c < 0 ∧ ¬ (255 : Int32) < c) (A_qa3 : Arv Z h0 qa3 qk4 .byte (2 : Int32) [.int 42, .int 125] (.int 0)) (F_qa1_count : Fld Z h0 qa1 "java/lang/AbstractStringBuilder" "count" "I" (.int 2)) (F_qa1_value : Fld Z h0 qa1 "java/lang/AbstractStringBuilder" "value" "[B" (.ref qa5)) (A_qa5 : Arv Z h0 qa5 qk6 .byte (16 : Int32) [.int 123, .int qi7, .int 0, .int 0, .int 0, .int 0, .int 0, .int 0, .int 0, .int 0, .int 0, .int 0, .int 0, .int 0, .int 0, .int 0] (.int 0)) (F_qa1_coder : Fld Z h0 qa1 "java/lang/AbstractStringBuilder" "coder" "B" (.int 0)) (E_qa1 : Exa Z h0 qa1 "java/lang/StringBuilder") (g_qa5 : n0 ≤ qa5) (ne_qa1_qa5 : qa1 ≠ qa5) (g_qa1 : n0 ≤ qa1) :
    MF l Z Y29_ jdk_67_method_7_code 2 (some (.object "java/lang/StringBuilder")) (Rm 4 0 0 61) #[.ref qa1, .ref qa2] h0 (Q65 Z qa1 qa5 qk6 qi7 h0 n0) := by
 refine own_sF pn6 rfl (fun m => ef2 m qa1 qa2) ?_
 intro p e s m below meth c s₁ Bd hZ hh hx hby hml hown hnm X0 e0 pre0
 have N0 := Fr.nil n0
 obtain ⟨_, T1, L1, X1, hQ1, st1⟩ := own_cb 0 0 0 0 0 0 (superBack X0 hx hZ (y := Y28_) hown (w182_ hw) (own_same (w183_ hw) (w193_ hw) rfl (by decide)) (w183_ hw) (w184_ hw) (by decide) (backOf (W := 0) (rm64 l Z a0 hw G1 qa1 qa2 qa3 qk4 qa5 qk6 qi7 h0 n0 X00 O2 P5 E_qa2 F_qa2_coder F_qa2_value hp_qa2 A_qa3 F_qa1_count F_qa1_value A_qa5 F_qa1_coder E_qa1 g_qa5 ne_qa1_qa5 g_qa1) hZ (w186_ hw) (w168_ hw) (lE rfl) (lE rfl)) e0 (Ins.self E_qa1) (g := (mkF m 2 #[rv qa1, rv qa2] [.ref qa2, .ref qa1])) rfl hml.symm (w186_ hw) (argsL := [.ref qa2]) (rest := []) (lenOf pd24 rfl) rfl (own_hw rfl) (hb hby d22_2) (fun _ _ => ⟨rfl, e0, (lE rfl : 0 + 0 ≤ _), (lE rfl : 0 + 0 ≤ _)⟩)) rfl rfl
 obtain ⟨rfl, N1q, K1q, w2, w3, w4, w5, w6⟩ := hQ1
 have N1 := Fr.app N0 N1q
 have K7 := (Keep.refl h0 [qa1, qa5]).trans K1q (allS (Or.inl (mI 1 rfl)) (allS (Or.inl (mI 0 rfl)) all0))
 have E8_ := E_qa1.keep K1q
 refine own_lvF X1 Bd (.ref qa1) rfl ⟨rfl, N1, K7, E8_, w2, w3, w4, w6⟩ rfl (fun fs hr => pre0 _ (by
  show Sx p e below s₁ m 0 #[rv qa1, rv qa2] [] _
  refine zb X0 Bd d22_0 rfl rfl ?_
  refine zb X0 Bd d22_1 rfl rfl ?_
  refine st1.trans ?_
  refine XS.pop X1.here hx rfl (hb hby d22_5) rfl rfl ?_
  refine zb X1 Bd d22_6 rfl rfl ?_
  exact retOut X1 hx Bd.returns rfl (Or.inr (Or.inr (Or.inr (Or.inr ⟨rfl, rfl, rfl⟩)))) (hb hby d22_7) hr))
-- java/lang/AbstractStringBuilder.length()I
def Q66 (Z : State)  (h0 : Heap) (n0 : Nat) (v : Option Value) (h : Heap) (L : List Loc) : Prop := v = some (.int 4) ∧ Fr n0 L ∧ h = h0
theorem rm66 (l : Launch) (Z : State) (a0 : Array Value) (hw : HW a0 Z) (qa1 : Addr) (h0 : Heap) (n0 : Nat) (X00 : Old Z n0 h0) (F_qa1_count : Fld Z h0 qa1 "java/lang/AbstractStringBuilder" "count" "I" (.int 4)) :
    MF l Z Y31_ jdk_68_method_6_code 1 (some .int) (Rm 0 0 0 0) #[.ref qa1] h0 (Q66 Z  h0 n0) := by
 refine own_sF pn7 rfl (fun m => ef8 m qa1) ?_
 intro p e s m below meth c s₁ Bd hZ hh hx hby hml hown hnm X0 e0 pre0
 have N0 := Fr.nil n0
 obtain ⟨T1, X1, e1, st1⟩ := getF X0 hx hZ hown (host := "") (Or.inl (w188_ hw)) Via.refl e0 F_qa1_count (g := (mkF m 1 #[rv qa1] [.ref qa1])) rfl rfl (hb hby d34_1)
 refine own_lvF X1 Bd (.int 4) e1 ⟨rfl, N0, rfl⟩ rfl (fun fs hr => pre0 _ (by
  show Sx p e below s₁ m 0 #[rv qa1] [] _
  refine zb X0 Bd d34_0 rfl rfl ?_
  refine st1 _ ?_
  exact retI X1 hx Bd.returns (hb hby d34_4) hr))
-- java/lang/StringBuilder.length()I
def Q67 (Z : State)  (h0 : Heap) (n0 : Nat) (v : Option Value) (h : Heap) (L : List Loc) : Prop := v = some (.int 4) ∧ Fr n0 L ∧ h = h0
theorem rm67 (l : Launch) (Z : State) (a0 : Array Value) (hw : HW a0 Z) (qa1 : Addr) (h0 : Heap) (n0 : Nat) (X00 : Old Z n0 h0) (F_qa1_count : Fld Z h0 qa1 "java/lang/AbstractStringBuilder" "count" "I" (.int 4)) (E_qa1 : Exa Z h0 qa1 "java/lang/StringBuilder") :
    MF l Z Y32_ jdk_67_method_93_code 1 (some .int) (Rm 1 0 0 12) #[.ref qa1] h0 (Q67 Z  h0 n0) := by
 refine own_sF pn6 rfl (fun m => ef8 m qa1) ?_
 intro p e s m below meth c s₁ Bd hZ hh hx hby hml hown hnm X0 e0 pre0
 have N0 := Fr.nil n0
 obtain ⟨_, T1, L1, X1, hQ1, st1⟩ := own_cb 0 0 0 0 0 0 (superBack X0 hx hZ (y := Y31_) hown (w239_ hw) (own_same (w235_ hw) (w193_ hw) rfl (by decide)) (w235_ hw) (w184_ hw) (by decide) (backOf (W := 0) (rm66 l Z a0 hw  qa1 h0 n0 X00 F_qa1_count) hZ (w240_ hw) (w168_ hw) (lE rfl) (lE rfl)) e0 (Ins.self E_qa1) (g := (mkF m 1 #[rv qa1] [.ref qa1])) rfl hml.symm (w240_ hw) (argsL := []) (rest := []) (lenOf pd7 rfl) rfl (own_hw rfl) (hb hby d33_1) (fun _ _ => ⟨rfl, e0, (lE rfl : 0 + 0 ≤ _), (lE rfl : 0 + 0 ≤ _)⟩)) rfl rfl
 obtain ⟨rfl, N1q, e1q⟩ := hQ1
 have N1 := Fr.app N0 N1q
 refine own_lvF X1 Bd (.int 4) e1q ⟨rfl, N1, rfl⟩ rfl (fun fs hr => pre0 _ (by
  show Sx p e below s₁ m 0 #[rv qa1] [] _
  refine zb X0 Bd d33_0 rfl rfl ?_
  refine st1.trans ?_
  exact retI X1 hx Bd.returns (hb hby d33_4) hr))
-- java/util/Arrays.checkLength(II)V
def Q68 (Z : State)  (h0 : Heap) (n0 : Nat) (v : Option Value) (h : Heap) (L : List Loc) : Prop := v = none ∧ Fr n0 L ∧ h = h0
theorem rm68 (l : Launch) (Z : State) (a0 : Array Value) (hw : HW a0 Z)  (h0 : Heap) (n0 : Nat) (X00 : Old Z n0 h0)  :
    MF l Z Y34_ jdk_65_method_131_code 2 none (Rm 0 0 0 0) #[.int 0, .int 4] h0 (Q68 Z  h0 n0) := by
 refine own_sF pn8 rfl (fun m => ef18 m (0 : Int32) (4 : Int32)) ?_
 intro p e s m below meth c s₁ Bd hZ hh hx hby hml hown hnm X0 e0 pre0
 have N0 := Fr.nil n0
 refine own_lvN X0 Bd e0 ⟨rfl, N0, rfl⟩ rfl (fun fs hr => pre0 _ (by
  show Sx p e below s₁ m 0 #[iv 0, iv 4] [] _
  refine zj X0 Bd d38_0 rfl ?_
  refine zj X0 Bd d38_1 rfl ?_
  refine zy (pc' := 37) X0 Bd d38_2 (XT.ii_ge_t ((by decide) : ¬ ((4 : Int32) < (0 : Int32)))) rfl ?_
  exact X0.returnOut hx Bd.returns (hb hby d38_37) hr))
-- java/lang/Math.min(II)I
def Q69 (Z : State)  (h0 : Heap) (n0 : Nat) (v : Option Value) (h : Heap) (L : List Loc) : Prop := v = some (.int 4) ∧ Fr n0 L ∧ h = h0
theorem rm69 (l : Launch) (Z : State) (a0 : Array Value) (hw : HW a0 Z)  (h0 : Heap) (n0 : Nat) (X00 : Old Z n0 h0)  :
    MF l Z Y35_ jdk_29_method_69_code 2 (some .int) (Rm 0 0 0 0) #[.int 16, .int 4] h0 (Q69 Z  h0 n0) := by
 refine own_sFm (K := "java/lang/Math") (by decide +kernel) rfl (fun m => ef18 m (16 : Int32) (4 : Int32)) ?_
 intro p e s m below meth c s₁ Bd hZ hh hx hby hml hown hnm X0 e0 pre0
 have N0 := Fr.nil n0
 refine own_lvF X0 Bd (.int 4) e0 ⟨rfl, N0, rfl⟩ rfl (fun fs hr => pre0 _ (by
  show Sx p e below s₁ m 0 #[iv 16, iv 4] [] _
  refine zj X0 Bd d39_0 rfl ?_
  refine zj X0 Bd d39_1 rfl ?_
  refine zy (pc' := 9) X0 Bd d39_2 (XT.ii_gt_t ((by decide) : (4 : Int32) < (16 : Int32))) rfl ?_
  refine zj X0 Bd d39_9 rfl ?_
  exact retI X0 hx Bd.returns (hb hby d39_10) hr))
-- java/util/Arrays.copyOfRangeByte([BII)[B
def Q70 (Z : State) (qi3 : Int32) (h0 : Heap) (n0 : Nat) (v : Option Value) (h : Heap) (L : List Loc) : Prop := ∃ b2 : Addr, ∃ c2 : ClassId, v = some (.ref b2) ∧ Fr n0 L ∧ Keep h0 h [] ∧ h0.size ≤ b2 ∧ Arv Z h b2 c2 .byte (4 : Int32) [.int 123, .int qi3, .int 42, .int 125] (.int 0)
theorem rm70 (l : Launch) (Z : State) (a0 : Array Value) (hw : HW a0 Z) (qa1 : Addr) (qk2 : ClassId) (qi3 : Int32) (h0 : Heap) (n0 : Nat) (X00 : Old Z n0 h0) (A_qa1 : Arv Z h0 qa1 qk2 .byte (16 : Int32) [.int 123, .int qi3, .int 42, .int 125, .int 0, .int 0, .int 0, .int 0, .int 0, .int 0, .int 0, .int 0, .int 0, .int 0, .int 0, .int 0] (.int 0)) :
    MF l Z Y36_ jdk_65_method_133_code 5 (some (.array .byte)) (Rm 1 1 4 18) #[.ref qa1, .int 0, .int 4] h0 (Q70 Z qi3 h0 n0) := by
 refine own_sF pn8 rfl (fun m => ef17 m qa1 (0 : Int32) (4 : Int32)) ?_
 intro p e s m below meth c s₁ Bd hZ hh hx hby hml hown hnm X0 e0 pre0
 have N0 := Fr.nil n0
 obtain ⟨_, T1, L1, X1, hQ1, st1⟩ := own_cS 0 0 [] 2 #[rv qa1, iv 0, iv 4, .unset, .unset] X0 hx hZ hown (w253_ hw) (w254_ hw) (w248_ hw) (w255_ hw) (rm68 l Z a0 hw   h0 n0 X00 ) pd27 hml.symm (hb hby d37_2) e0 rfl rfl rfl rfl (by decide)
 obtain ⟨rfl, N1q, e1q⟩ := hQ1
 have N1 := Fr.app N0 N1q
 obtain ⟨T2, h2, c2, X2, e2, E2, A2, st2⟩ := newP (aty := .byte) X1 hx hZ (w19_ hw) e1q (g := (mkF m 10 #[rv qa1, iv 0, iv 4, iv 4, .unset] [.int 4])) rfl (hb hby d37_10) rfl (by decide) (cap := 4) (by decide) (lE rfl) (lE rfl) (lE rfl)
 obtain ⟨b2, g2⟩ : ∃ z, z = h0.size := ⟨_, rfl⟩
 rw [← g2] at A2 st2
 replace X2 : Stand p l e (Rm 1 1 4 18) s m #[.ref qa1, .int 0, .int 4] below meth c T2 _ 1 4 := X2
 have K3 := (Keep.refl h0 []).ext E2
 have A4_ : Arv Z h2 b2 c2 .byte (4 : Int32) [.int 0, .int 0, .int 0, .int 0] (.int 0) := (Arv.new A2 (by decide)).pad (pad_rep [] (.int 0) 4)
 have A6_ := A_qa1.ext E2
 have av5 := A6_
 obtain ⟨cl5, Ar5, q5, S5, N5, H5, Gf5⟩ := av5
 have O8 := X00.ext E2
 obtain ⟨_, T7, L7, X7, hQ7, st7⟩ := own_cS 1 4 [.int 0, .ref b2, .int 0, .ref qa1] 24 #[rv qa1, iv 0, iv 4, iv 4, rv b2] X2 hx hZ hown (w256_ hw) (w257_ hw) (w258_ hw) (w259_ hw) (rm69 l Z a0 hw   h2 n0 O8 ) pd28 hml.symm (hb hby d37_24) e2 rfl rfl rfl rfl (by decide)
 obtain ⟨rfl, N7q, e7q⟩ := hQ7
 have N7 := Fr.app N1 N7q
 have g_b2 : n0 ≤ b2 := Nat.le_trans (Nat.le_trans (Nat.le_of_eq X00.1.symm) X00.2.1) (Nat.le_of_eq g2.symm)
 obtain ⟨T9, h9, L9, X9, e9, N9, K9q, A9, st9⟩ := cpA X7 hx hZ hown (w260_ hw) (w214_ hw) (w212_ hw) (w213_ hw) e7q (vs := [.int 123, .int qi3, .int 42, .int 125, .int 0, .int 0, .int 0, .int 0, .int 0, .int 0, .int 0, .int 0, .int 0, .int 0, .int 0, .int 0]) (vd := [.int 0, .int 0, .int 0, .int 0]) (us := [.int 123, .int qi3, .int 42, .int 125]) A6_ A4_ (Or.inl ⟨rfl, rfl⟩) (by decide) (by decide) (by decide) (by decide) (by decide) rfl (lE rfl) N7 g_b2 (g := (mkF m 27 #[rv qa1, iv 0, iv 4, iv 4, rv b2] [.int 4, .int 0, .ref b2, .int 0, .ref qa1])) rfl hml.symm rfl (hb hby d37_27) (by decide) (W := 0) (own_hw rfl) (by decide)
 have sz_b2 : h0.size ≤ b2 := (Nat.le_of_eq g2.symm)
 have K10 := K3.trans K9q (allS (Or.inr sz_b2) all0)
 have A11_ : Arv Z h9 b2 c2 .byte (4 : Int32) [.int 123, .int qi3, .int 42, .int 125] (.int 0) := A9
 refine own_lvF X9 Bd (.ref b2) e9 ⟨b2, c2, rfl, N9, K10, sz_b2, A11_⟩ rfl (fun fs hr => pre0 _ (by
  show Sx p e below s₁ m 0 #[rv qa1, iv 0, iv 4, .unset, .unset] [] _
  refine zj X0 Bd d37_0 rfl ?_
  refine zj X0 Bd d37_1 rfl ?_
  refine st1 _ ?_
  refine zj X1 Bd d37_5 rfl ?_
  refine zj X1 Bd d37_6 rfl ?_
  refine XS.isub X1.here hx rfl (hb hby d37_7) rfl ?_
  refine zt X1 Bd d37_8 (l' := #[rv qa1, iv 0, iv 4, iv 4, .unset]) rfl ?_
  refine zj X1 Bd d37_9 rfl ?_
  refine st2 _ ?_
  refine XS.astore X2.here hx rfl (hb hby d37_12) rfl rfl (l' := #[rv qa1, iv 0, iv 4, iv 4, rv b2]) rfl ?_
  refine zb X2 Bd d37_14 rfl rfl ?_
  refine zj X2 Bd d37_15 rfl ?_
  refine za X2 Bd d37_16 rfl rfl ?_
  refine zc X2 Bd d37_18 ?_
  refine zb X2 Bd d37_19 rfl rfl ?_
  refine X2.arraylength hx (by rw [e2]; exact Ar5.1) (State.isArrayOf_alike hZ.alike Ar5.2.1) (g := (mkF m 20 #[rv qa1, iv 0, iv 4, iv 4, rv b2] [.ref qa1, .int 0, .ref b2, .int 0, .ref qa1])) rfl rfl (hb hby d37_20) _ ?_
  rw [len_of S5 N5]
  refine zj X2 Bd d37_21 rfl ?_
  refine XS.isub X2.here hx rfl (hb hby d37_22) rfl ?_
  refine zj X2 Bd d37_23 rfl ?_
  refine st7 _ ?_
  refine st9 _ ?_
  refine za X9 Bd d37_30 rfl rfl ?_
  exact retOut X9 hx Bd.returns rfl (Or.inr (Or.inr (Or.inr (Or.inr ⟨rfl, rfl, rfl⟩)))) (hb hby d37_32) hr))
-- java/util/Arrays.copyOfRange([BII)[B
def Q71 (Z : State) (qi3 : Int32) (h0 : Heap) (n0 : Nat) (v : Option Value) (h : Heap) (L : List Loc) : Prop := ∃ b3 : Addr, ∃ c4_ : ClassId, v = some (.ref b3) ∧ Fr n0 L ∧ Keep h0 h [] ∧ h0.size ≤ b3 ∧ Arv Z h b3 c4_ .byte (4 : Int32) [.int 123, .int qi3, .int 42, .int 125] (.int 0)
theorem rm71 (l : Launch) (Z : State) (a0 : Array Value) (hw : HW a0 Z) (qa1 : Addr) (qk2 : ClassId) (qi3 : Int32) (h0 : Heap) (n0 : Nat) (X00 : Old Z n0 h0) (A_qa1 : Arv Z h0 qa1 qk2 .byte (16 : Int32) [.int 123, .int qi3, .int 42, .int 125, .int 0, .int 0, .int 0, .int 0, .int 0, .int 0, .int 0, .int 0, .int 0, .int 0, .int 0, .int 0] (.int 0)) :
    MF l Z Y37_ jdk_65_method_132_code 3 (some (.array .byte)) (Rm 2 1 4 34) #[.ref qa1, .int 0, .int 4] h0 (Q71 Z qi3 h0 n0) := by
 refine own_sF pn8 rfl (fun m => ef16 m qa1 (0 : Int32) (4 : Int32)) ?_
 intro p e s m below meth c s₁ Bd hZ hh hx hby hml hown hnm X0 e0 pre0
 have N0 := Fr.nil n0
 have av1 := A_qa1
 obtain ⟨cl1, Ar1, q1, S1, N1, H1, Gf1⟩ := av1
 obtain ⟨_, T2, L2, X2, hQ2, st2⟩ := own_cS 1 4 [] 13 #[rv qa1, iv 0, iv 4] X0 hx hZ hown (w250_ hw) (w251_ hw) (w248_ hw) (w252_ hw) (rm70 l Z a0 hw  qa1 qk2 qi3 h0 n0 X00 A_qa1) pd29 hml.symm (hb hby d36_13) e0 rfl rfl rfl rfl (by decide)
 obtain ⟨b3, c4_, rfl, N2q, K2q, w5, w6⟩ := hQ2
 have N2 := Fr.app N0 N2q
 have K7 := (Keep.refl h0 []).trans K2q (fun x q => nomatch q)
 have sz_b3 : h0.size ≤ b3 := w5
 refine own_lvF X2 Bd (.ref b3) rfl ⟨b3, c4_, rfl, N2, K7, sz_b3, w6⟩ rfl (fun fs hr => pre0 _ (by
  show Sx p e below s₁ m 0 #[rv qa1, iv 0, iv 4] [] _
  refine zj X0 Bd d36_0 rfl ?_
  refine zo X0 Bd d36_1 (XT.i0_ne_f ((by decide) : (0 : Int32) = (0 : Int32))) ?_
  refine zj X0 Bd d36_4 rfl ?_
  refine zb X0 Bd d36_5 rfl rfl ?_
  refine X0.arraylength hx (by rw [e0]; exact Ar1.1) (State.isArrayOf_alike hZ.alike Ar1.2.1) (g := (mkF m 6 #[rv qa1, iv 0, iv 4] [.ref qa1, .int 4])) rfl rfl (hb hby d36_6) _ ?_
  rw [len_of S1 N1]
  refine zn X0 Bd d36_7 (XT.ii_eq_f ((by decide) : ¬ ((4 : Int32) = (16 : Int32)))) ?_
  refine zb X0 Bd d36_10 rfl rfl ?_
  refine zj X0 Bd d36_11 rfl ?_
  refine zj X0 Bd d36_12 rfl ?_
  refine st2 _ ?_
  exact retOut X2 hx Bd.returns rfl (Or.inr (Or.inr (Or.inr (Or.inr ⟨rfl, rfl, rfl⟩)))) (hb hby d36_16) hr))
-- java/lang/String.<init>(Ljava/lang/AbstractStringBuilder;Ljava/lang/Void;)V
def Q72 (Z : State) (qa1 : Addr) (qi5 : Int32) (h0 : Heap) (n0 : Nat) (v : Option Value) (h : Heap) (L : List Loc) : Prop := ∃ b11 : Addr, ∃ c12_ : ClassId, v = none ∧ Fr n0 L ∧ Keep h0 h [qa1] ∧ h0.size ≤ b11 ∧ Exa Z h qa1 "java/lang/String" ∧ Fld Z h qa1 "java/lang/String" "coder" "B" (.int 0) ∧ Fld Z h qa1 "java/lang/String" "value" "[B" (.ref b11) ∧ Arv Z h b11 c12_ .byte (4 : Int32) [.int 123, .int qi5, .int 42, .int 125] (.int 0)
theorem rm72 (l : Launch) (Z : State) (a0 : Array Value) (hw : HW a0 Z) (G1 : Int32) (qa1 : Addr) (qa2 : Addr) (qa3 : Addr) (qk4 : ClassId) (qi5 : Int32) (h0 : Heap) (n0 : Nat) (X00 : Old Z n0 h0) (O2 : Sta Z Z.heap "java/lang/String" "COMPACT_STRINGS" "Z" (.int G1)) (P5 : ¬ (G1 = (0 : Int32))) (E_qa2 : Exa Z h0 qa2 "java/lang/StringBuilder") (F_qa2_value : Fld Z h0 qa2 "java/lang/AbstractStringBuilder" "value" "[B" (.ref qa3)) (F_qa2_count : Fld Z h0 qa2 "java/lang/AbstractStringBuilder" "count" "I" (.int 4)) (F_qa2_coder : Fld Z h0 qa2 "java/lang/AbstractStringBuilder" "coder" "B" (.int 0)) (E_qa1 : Exa Z h0 qa1 "java/lang/String") (F_qa1_coder : Fld Z h0 qa1 "java/lang/String" "coder" "B" (.int 0)) (g_qa1 : n0 ≤ qa1) (A_qa3 : Arv Z h0 qa3 qk4 .byte (16 : Int32) [.int 123, .int qi5, .int 42, .int 125, .int 0, .int 0, .int 0, .int 0, .int 0, .int 0, .int 0, .int 0, .int 0, .int 0, .int 0, .int 0] (.int 0)) (ne_qa3_qa1 : qa3 ≠ qa1) (F_qa1_value : Fld Z h0 qa1 "java/lang/String" "value" "[B" .null) :
    MF l Z Y38_ jdk_42_method_150_code 5 none (Rm 3 1 4 49) #[.ref qa1, .ref qa2, .null] h0 (Q72 Z qa1 qi5 h0 n0) := by
 refine own_sF pn1 rfl (fun m => ef15 m qa1 qa2) ?_
 intro p e s m below meth c s₁ Bd hZ hh hx hby hml hown hnm X0 e0 pre0
 have N0 := Fr.nil n0
 obtain ⟨T1, X1, e1, st1⟩ := initO X0 hx hZ hown (w15_ hw) (w16_ hw) (w17_ hw) e0 (g := (mkF m 1 #[rv qa1, rv qa2, .val .null, .unset, .unset] [.ref qa1])) rfl hml.symm rfl (hb hby d31_1) (by decide) (W := 0) (own_hw rfl) (lE rfl)
 obtain ⟨_, T2, L2, X2, hQ2, st2⟩ := own_cV 0 0 [] 5 #[rv qa1, rv qa2, .val .null, .unset, .unset] X1 hx hZ hown E_qa2 (w228_ hw) (w229_ hw) (notFace_of_selects (args := #[]) (mvT hZ (w231_ hw))) (w231_ hw) (w230_ hw) (w168_ hw) (w232_ hw) (rm40 l Z a0 hw  qa2 qa3 h0 n0 X00 F_qa2_value) pd26 hml.symm (hb hby d31_5) e1 rfl rfl rfl rfl (by decide)
 obtain ⟨rfl, N2q, e2q⟩ := hQ2
 have N2 := Fr.app N0 N2q
 obtain ⟨_, T3, L3, X3, hQ3, st3⟩ := own_cV 0 0 [] 10 #[rv qa1, rv qa2, .val .null, rv qa3, .unset] X2 hx hZ hown E_qa2 (w233_ hw) (w234_ hw) (own_nf (mvT (args := #[]) hZ (w193_ hw)) rfl) (w236_ hw) (w237_ hw) (w160_ hw) (w238_ hw) (rm67 l Z a0 hw  qa2 h0 n0 X00 F_qa2_count E_qa2) pd7 hml.symm (hb hby d31_10) e2q rfl rfl rfl rfl (by decide)
 obtain ⟨rfl, N3q, e3q⟩ := hQ3
 have N3 := Fr.app N2 N3q
 obtain ⟨_, T4, L4, X4, hQ4, st4⟩ := own_cV 0 0 [] 16 #[rv qa1, rv qa2, .val .null, rv qa3, iv 4] X3 hx hZ hown E_qa2 (w241_ hw) (w242_ hw) (notFace_of_selects (args := #[]) (mvT hZ (w244_ hw))) (w244_ hw) (w243_ hw) (w168_ hw) (w245_ hw) (rm43 l Z a0 hw G1 qa2 h0 n0 X00 O2 P5 F_qa2_coder) pd14 hml.symm (hb hby d31_16) e3q rfl rfl rfl rfl (by decide)
 obtain ⟨rfl, N4q, e4q⟩ := hQ4
 have N4 := Fr.app N3 N4q
 obtain ⟨T5, h5, X5, e5, W5, st5⟩ := putF X4 hx hZ hown (host := "") (Or.inl (w25_ hw)) Via.refl e4q F_qa1_coder E_qa1 (Or.inr ⟨(w21_ hw), rfl, hnm⟩) (w5_ hw) (ty := .byte) (by decide) rfl rfl (g := (mkF m 24 #[rv qa1, rv qa2, .val .null, rv qa3, iv 4] [.int 0, .ref qa1])) rfl rfl (hb hby d31_24)
 have N5 := Fr.snoc X5 N4 g_qa1
 have K6 := (Keep.refl h0 [qa1]).wr W5 (Or.inl (mI 0 rfl))
 have F7_ : Fld Z h5 qa1 "java/lang/String" "coder" "B" (.int 0) := F_qa1_coder.same W5
 have A9_ := A_qa3.other W5 ne_qa3_qa1
 have O10 := X00.wr W5 g_qa1
 obtain ⟨_, T8, L8, X8, hQ8, st8⟩ := own_cS 1 4 [.ref qa1] 32 #[rv qa1, rv qa2, .val .null, rv qa3, iv 4] X5 hx hZ hown (w246_ hw) (w247_ hw) (w248_ hw) (w249_ hw) (rm71 l Z a0 hw  qa3 qk4 qi5 h5 n0 O10 A9_) pd29 hml.symm (hb hby d31_32) e5 rfl rfl rfl rfl (by decide)
 obtain ⟨b11, c12_, rfl, N8q, K8q, w13, w14⟩ := hQ8
 have N8 := Fr.app N5 N8q
 have K15 := K6.trans K8q (fun x q => nomatch q)
 have F16_ := F_qa1_value.other W5 (Or.inr (slot_ne (Or.inr (w20_ hw)) (Or.inr (w21_ hw)) (by decide) (t := (.array .byte)) (t' := .byte) (by decide) (by decide)))
 have F17_ := F16_.keep K8q nin0
 have E18_ := E_qa1.wr W5
 have E19_ := E18_.keep K8q
 obtain ⟨T20, h20, X20, e20, W20, st20⟩ := putF X8 hx hZ hown (host := "") (Or.inl (w24_ hw)) Via.refl rfl F17_ E19_ (Or.inr ⟨(w20_ hw), rfl, hnm⟩) (w5_ hw) (ty := (.array .byte)) (by decide) rfl rfl (g := (mkF m 35 #[rv qa1, rv qa2, .val .null, rv qa3, iv 4] [.ref b11, .ref qa1])) rfl rfl (hb hby d31_35)
 have N20 := Fr.snoc X20 N8 g_qa1
 have K21 := K15.wr W20 (Or.inl (mI 0 rfl))
 have F22_ : Fld Z h20 qa1 "java/lang/String" "value" "[B" (.ref b11) := F17_.same W20
 have sz_b11 : h0.size ≤ b11 := Nat.le_trans K6.1 w13
 have E23_ := E19_.wr W20
 have F24_ := F7_.keep K8q nin0
 have F25_ := F24_.other W20 (Or.inr (slot_ne (Or.inr (w21_ hw)) (Or.inr (w20_ hw)) (by decide) (t := .byte) (t' := (.array .byte)) (by decide) (by decide)))
 have A26_ := w14.other W20 (Ne.symm (Nat.ne_of_lt (Nat.lt_of_lt_of_le (Nat.lt_of_lt_of_le E_qa1.lt (Nat.le_of_eq W5.size.symm)) w13)))
 refine own_lvN X20 Bd e20 ⟨b11, c12_, rfl, N20, K21, sz_b11, E23_, F25_, F22_, A26_⟩ rfl (fun fs hr => pre0 _ (by
  show Sx p e below s₁ m 0 #[rv qa1, rv qa2, .val .null, .unset, .unset] [] _
  refine zb X0 Bd d31_0 rfl rfl ?_
  refine st1 _ ?_
  refine zb X1 Bd d31_4 rfl rfl ?_
  refine st2 _ ?_
  refine XS.astoreN X2.here hx rfl (hb hby d31_8) rfl rfl (l' := #[rv qa1, rv qa2, .val .null, rv qa3, .unset]) rfl ?_
  refine zb X2 Bd d31_9 rfl rfl ?_
  refine st3 _ ?_
  refine zs X3 Bd d31_13 (l' := #[rv qa1, rv qa2, .val .null, rv qa3, iv 4]) rfl ?_
  refine zb X3 Bd d31_15 rfl rfl ?_
  refine st4 _ ?_
  refine zo X4 Bd d31_19 (XT.i0_eq_f ((by decide) : ¬ ((1 : Int32) = (0 : Int32)))) ?_
  refine zb X4 Bd d31_22 rfl rfl ?_
  refine zc X4 Bd d31_23 ?_
  refine st5 _ ?_
  refine zb X5 Bd d31_27 rfl rfl ?_
  refine zb X5 Bd d31_28 rfl rfl ?_
  refine zc X5 Bd d31_29 ?_
  refine zi X5 Bd d31_30 rfl ?_
  refine st8 _ ?_
  refine st20 _ ?_
  refine zg (pc' := 97) X20 Bd d31_38 rfl ?_
  exact X20.returnOut hx Bd.returns (hb hby d31_97) hr))
-- java/lang/String.<init>(Ljava/lang/StringBuilder;)V
def Q73 (Z : State) (qa1 : Addr) (qi5 : Int32) (h0 : Heap) (n0 : Nat) (v : Option Value) (h : Heap) (L : List Loc) : Prop := ∃ b2 : Addr, ∃ c3_ : ClassId, v = none ∧ Fr n0 L ∧ Keep h0 h [qa1] ∧ h0.size ≤ b2 ∧ Exa Z h qa1 "java/lang/String" ∧ Fld Z h qa1 "java/lang/String" "coder" "B" (.int 0) ∧ Fld Z h qa1 "java/lang/String" "value" "[B" (.ref b2) ∧ Arv Z h b2 c3_ .byte (4 : Int32) [.int 123, .int qi5, .int 42, .int 125] (.int 0)
theorem rm73 (l : Launch) (Z : State) (a0 : Array Value) (hw : HW a0 Z) (G1 : Int32) (qa1 : Addr) (qa2 : Addr) (qa3 : Addr) (qk4 : ClassId) (qi5 : Int32) (h0 : Heap) (n0 : Nat) (X00 : Old Z n0 h0) (O2 : Sta Z Z.heap "java/lang/String" "COMPACT_STRINGS" "Z" (.int G1)) (P5 : ¬ (G1 = (0 : Int32))) (E_qa2 : Exa Z h0 qa2 "java/lang/StringBuilder") (F_qa2_value : Fld Z h0 qa2 "java/lang/AbstractStringBuilder" "value" "[B" (.ref qa3)) (F_qa2_count : Fld Z h0 qa2 "java/lang/AbstractStringBuilder" "count" "I" (.int 4)) (F_qa2_coder : Fld Z h0 qa2 "java/lang/AbstractStringBuilder" "coder" "B" (.int 0)) (E_qa1 : Exa Z h0 qa1 "java/lang/String") (F_qa1_coder : Fld Z h0 qa1 "java/lang/String" "coder" "B" (.int 0)) (g_qa1 : n0 ≤ qa1) (A_qa3 : Arv Z h0 qa3 qk4 .byte (16 : Int32) [.int 123, .int qi5, .int 42, .int 125, .int 0, .int 0, .int 0, .int 0, .int 0, .int 0, .int 0, .int 0, .int 0, .int 0, .int 0, .int 0] (.int 0)) (ne_qa3_qa1 : qa3 ≠ qa1) (F_qa1_value : Fld Z h0 qa1 "java/lang/String" "value" "[B" .null) :
    MF l Z Y39_ jdk_42_method_53_code 2 none (Rm 4 1 4 65) #[.ref qa1, .ref qa2] h0 (Q73 Z qa1 qi5 h0 n0) := by
 refine own_sF pn1 rfl (fun m => ef2 m qa1 qa2) ?_
 intro p e s m below meth c s₁ Bd hZ hh hx hby hml hown hnm X0 e0 pre0
 have N0 := Fr.nil n0
 obtain ⟨_, T1, L1, X1, hQ1, st1⟩ := own_cI 1 4 [] 3 #[rv qa1, rv qa2] X0 hx hZ hown (w225_ hw) (w226_ hw) (w6_ hw) (w227_ hw) (rm72 l Z a0 hw G1 qa1 qa2 qa3 qk4 qi5 h0 n0 X00 O2 P5 E_qa2 F_qa2_value F_qa2_count F_qa2_coder E_qa1 F_qa1_coder g_qa1 A_qa3 ne_qa3_qa1 F_qa1_value) pd30 hml.symm (hb hby d30_3) e0 rfl rfl rfl rfl rfl (by decide)
 obtain ⟨b2, c3_, rfl, N1q, K1q, w4, w5, w6, w7, w8⟩ := hQ1
 have N1 := Fr.app N0 N1q
 have K9 := (Keep.refl h0 [qa1]).trans K1q (allS (Or.inl (mI 0 rfl)) all0)
 have sz_b2 : h0.size ≤ b2 := w4
 have E10_ := E_qa1.keep K1q
 refine own_lvN X1 Bd rfl ⟨b2, c3_, rfl, N1, K9, sz_b2, E10_, w6, w7, w8⟩ rfl (fun fs hr => pre0 _ (by
  show Sx p e below s₁ m 0 #[rv qa1, rv qa2] [] _
  refine zb X0 Bd d30_0 rfl rfl ?_
  refine zb X0 Bd d30_1 rfl rfl ?_
  refine XS.aconstNull X0.here hx rfl (hb hby d30_2) ?_
  refine st1 _ ?_
  exact X1.returnOut hx Bd.returns (hb hby d30_6) hr))
-- java/lang/StringBuilder.toString()Ljava/lang/String;
def Q74 (Z : State) (qi4 : Int32) (h0 : Heap) (n0 : Nat) (v : Option Value) (h : Heap) (L : List Loc) : Prop := ∃ b1 : Addr, ∃ b12 : Addr, ∃ c13_ : ClassId, v = some (.ref b1) ∧ Fr n0 L ∧ Keep h0 h [] ∧ h0.size ≤ b1 ∧ h0.size ≤ b12 ∧ b1 ≠ b12 ∧ Exa Z h b1 "java/lang/String" ∧ Fld Z h b1 "java/lang/String" "coder" "B" (.int 0) ∧ Fld Z h b1 "java/lang/String" "value" "[B" (.ref b12) ∧ Arv Z h b12 c13_ .byte (4 : Int32) [.int 123, .int qi4, .int 42, .int 125] (.int 0)
theorem rm74 (l : Launch) (Z : State) (a0 : Array Value) (hw : HW a0 Z) (G1 : Int32) (qa1 : Addr) (qa2 : Addr) (qk3 : ClassId) (qi4 : Int32) (h0 : Heap) (n0 : Nat) (X00 : Old Z n0 h0) (O2 : Sta Z Z.heap "java/lang/String" "COMPACT_STRINGS" "Z" (.int G1)) (P5 : ¬ (G1 = (0 : Int32))) (E_qa1 : Exa Z h0 qa1 "java/lang/StringBuilder") (F_qa1_value : Fld Z h0 qa1 "java/lang/AbstractStringBuilder" "value" "[B" (.ref qa2)) (F_qa1_count : Fld Z h0 qa1 "java/lang/AbstractStringBuilder" "count" "I" (.int 4)) (F_qa1_coder : Fld Z h0 qa1 "java/lang/AbstractStringBuilder" "coder" "B" (.int 0)) (A_qa2 : Arv Z h0 qa2 qk3 .byte (16 : Int32) [.int 123, .int qi4, .int 42, .int 125, .int 0, .int 0, .int 0, .int 0, .int 0, .int 0, .int 0, .int 0, .int 0, .int 0, .int 0, .int 0] (.int 0)) :
    MF l Z Y40_ jdk_67_method_42_code 1 (some (.object "java/lang/String")) (Rm 5 2 8 79) #[.ref qa1] h0 (Q74 Z qi4 h0 n0) := by
 refine own_sF pn6 rfl (fun m => ef8 m qa1) ?_
 intro p e s m below meth c s₁ Bd hZ hh hx hby hml hown hnm X0 e0 pre0
 have N0 := Fr.nil n0
 obtain ⟨T1, h1, X1, e1, E1, A1, D1, -, st1⟩ := newO X0 hx hZ hown (w221_ hw) (w5_ hw) (w6_ hw) e0 (g := (mkF m 0 #[rv qa1] [])) rfl (hb hby d29_0) (lE rfl) (lE rfl)
 obtain ⟨b1, g1⟩ : ∃ z, z = h0.size := ⟨_, rfl⟩
 rw [← g1] at A1 D1 st1
 replace X1 : Stand p l e (Rm 5 2 8 79) s m #[.ref qa1] below meth c T1 _ 1 4 := X1
 have K2 := (Keep.refl h0 []).ext E1
 have F3_ : Fld Z h1 b1 "java/lang/String" "value" "[B" .null := D1 (Or.inr (w20_ hw)) (ty := (.array .byte)) (by decide)
 have F4_ : Fld Z h1 b1 "java/lang/String" "coder" "B" (.int 0) := D1 (Or.inr (w21_ hw)) (ty := .byte) (by decide)
 have E6_ := E_qa1.ext E1
 have F7_ := F_qa1_value.ext E1
 have F8_ := F_qa1_count.ext E1
 have F9_ := F_qa1_coder.ext E1
 have g_b1 : n0 ≤ b1 := Nat.le_trans (Nat.le_trans (Nat.le_of_eq X00.1.symm) X00.2.1) (Nat.le_of_eq g1.symm)
 have A10_ := A_qa2.ext E1
 have O11 := X00.ext E1
 obtain ⟨_, T5, L5, X5, hQ5, st5⟩ := own_cI 2 8 [.ref b1] 5 #[rv qa1] X1 hx hZ hown (w222_ hw) (w223_ hw) (w6_ hw) (w224_ hw) (rm73 l Z a0 hw G1 b1 qa1 qa2 qk3 qi4 h1 n0 O11 O2 P5 E6_ F7_ F8_ F9_ A1 F4_ g_b1 A10_ (Nat.ne_of_lt (Nat.lt_of_lt_of_le A_qa2.lt (Nat.le_of_eq g1.symm))) F3_) pd31 hml.symm (hb hby d29_5) e1 rfl rfl rfl rfl rfl (by decide)
 obtain ⟨b12, c13_, rfl, N5q, K5q, w14, w15, w16, w17, w18⟩ := hQ5
 have N5 := Fr.app N0 N5q
 have sz_b1 : h0.size ≤ b1 := (Nat.le_of_eq g1.symm)
 have K19 := K2.trans K5q (allS (Or.inr sz_b1) all0)
 have sz_b12 : h0.size ≤ b12 := Nat.le_trans K2.1 w14
 have E20_ := A1.keep K5q
 refine own_lvF X5 Bd (.ref b1) rfl ⟨b1, b12, c13_, rfl, N5, K19, sz_b1, sz_b12, (Nat.ne_of_lt (Nat.lt_of_lt_of_le A1.lt w14)), E20_, w16, w17, w18⟩ rfl (fun fs hr => pre0 _ (by
  show Sx p e below s₁ m 0 #[rv qa1] [] _
  refine st1 _ ?_
  refine XS.dup X1.here hx rfl (hb hby d29_3) rfl rfl ?_
  refine zb X1 Bd d29_4 rfl rfl ?_
  refine st5 _ ?_
  exact retOut X5 hx Bd.returns rfl (Or.inr (Or.inr (Or.inr (Or.inr ⟨rfl, rfl, rfl⟩)))) (hb hby d29_8) hr))
-- com/example/echoes_to_canon/echoestocanon/UrlKeys$Value.toString()Ljava/lang/String;
def Q75 (Z : State) (qi4 : Int32) (h0 : Heap) (n0 : Nat) (v : Option Value) (h : Heap) (L : List Loc) : Prop := ∃ b109 : Addr, ∃ b110 : Addr, ∃ c111_ : ClassId, v = some (.ref b109) ∧ Fr n0 L ∧ Keep h0 h [] ∧ h0.size ≤ b109 ∧ h0.size ≤ b110 ∧ b109 ≠ b110 ∧ Exa Z h b109 "java/lang/String" ∧ Fld Z h b109 "java/lang/String" "coder" "B" (.int 0) ∧ Fld Z h b109 "java/lang/String" "value" "[B" (.ref b110) ∧ Arv Z h b110 c111_ .byte (4 : Int32) [.int 123, (.int ((qi4).toInt8.toInt32)), .int 42, .int 125] (.int 0)
theorem rm75 (l : Launch) (Z : State) (a0 : Array Value) (hw : HW a0 Z) (G1 : Int32) (qa1 : Addr) (qa2 : Addr) (qa3 : Addr) (qi4 : Int32) (qk5 : ClassId) (h0 : Heap) (n0 : Nat) (X00 : Old Z n0 h0) (O2 : Sta Z Z.heap "java/lang/String" "COMPACT_STRINGS" "Z" (.int G1)) (P5 : ¬ (G1 = (0 : Int32))) (F_qa1_variable : Fld Z h0 qa1 "com/example/echoes_to_canon/echoestocanon/UrlKeys$Value" "variable" "Ljava/lang/String;" (.ref qa2)) (F_qa1_run : Fld Z h0 qa1 "com/example/echoes_to_canon/echoestocanon/UrlKeys$Value" "run" "Z" (.int 1)) (E_qa2 : Exa Z h0 qa2 "java/lang/String") (F_qa2_coder : Fld Z h0 qa2 "java/lang/String" "coder" "B" (.int 0)) (F_qa2_value : Fld Z h0 qa2 "java/lang/String" "value" "[B" (.ref qa3)) (hp_qa2 : ∀ c ∈ ([qi4] : List Int32), ¬ c < 0 ∧ ¬ (255 : Int32) < c) (A_qa3 : Arv Z h0 qa3 qk5 .byte (1 : Int32) ((([qi4] : List Int32).map (fun c => c.toInt8.toInt32)).map Value.int) (.int 0)) :
    MW l Z consts_1 Y41_ prog_15_method_18_code 1 (some (.object "java/lang/String")) (Rm 6 8 48 91) #[.ref qa1] h0 (Q75 Z qi4 h0 n0) := by
 refine own_sW pn4 rfl (fun m => ef8 m qa1) ?_
 intro p e s m below meth c s₁ Bd hZ hh hx hby hml hown hnm X0 e0 pre0 hC0 hS0 hk0 hR0
 have N0 := Fr.nil n0
 have hEL := own_EW hw
 have hwS := own_wS hw
 obtain ⟨T1, X1, e1, st1⟩ := getF X0 hx hZ hown (host := "") (Or.inl (w117_ hw)) Via.refl e0 F_qa1_variable (g := (mkF m 1 #[rv qa1] [.ref qa1])) rfl rfl (hb hby d19_1)
 obtain ⟨T2, X2, e2, st2⟩ := getF X1 hx hZ hown (host := "") (Or.inl (w119_ hw)) Via.refl e1 F_qa1_run (g := (mkF m 13 #[rv qa1] [.ref qa1])) rfl rfl (hb hby d19_13)
 obtain ⟨T3, h3, X3, e3, E3, A3, D3, -, st3⟩ := newO X2 hx hZ hown (w158_ hw) (w159_ hw) (w160_ hw) e2 (g := (mkF m 19 #[rv qa1] [])) rfl (hb hby d19_19) (lE rfl) (lE rfl)
 obtain ⟨b3, g3⟩ : ∃ z, z = h0.size := ⟨_, rfl⟩
 rw [← g3] at A3 D3 st3
 replace X3 : Stand p l e (Rm 6 8 48 91) (s.setVm s.vm) m #[.ref qa1] below meth c T3 _ 1 4 := X3
 have K4 := (Keep.refl h0 []).ext E3
 have C5 : CHv Z consts_1 s.vm h3 := CHv.ext E3 hC0
 have R6 : CHr Z consts_1 s.vm h0 s.vm h3 := hR0.trans (CHr.ext E3 hC0)
 have F7_ : Fld Z h3 b3 "java/lang/AbstractStringBuilder" "value" "[B" .null := D3 (Or.inl (w173_ hw)) (ty := (.array .byte)) (by decide)
 have F8_ : Fld Z h3 b3 "java/lang/AbstractStringBuilder" "coder" "B" (.int 0) := D3 (Or.inl (w175_ hw)) (ty := .byte) (by decide)
 have F9_ : Fld Z h3 b3 "java/lang/AbstractStringBuilder" "count" "I" (.int 0) := D3 (Or.inl (w189_ hw)) (ty := .int) (by decide)
 have g_b3 : n0 ≤ b3 := Nat.le_trans (Nat.le_trans (Nat.le_of_eq X00.1.symm) X00.2.1) (Nat.le_of_eq g3.symm)
 have O11 := X00.ext E3
 obtain ⟨_, T10, L10, X10, hQ10, st10⟩ := own_cI 2 20 [.ref b3] 23 #[rv qa1] X3 hx hZ hown (w161_ hw) (w162_ hw) (w160_ hw) (w163_ hw) (rm22 l Z a0 hw G1 b3 h3 n0 O11 O2 P5 A3 F7_ g_b3 F8_ F9_) pd19 hml.symm (hb hby d19_23) e3 rfl rfl rfl rfl rfl (by decide)
 obtain ⟨b12, c13_, rfl, N10q, K10q, w14, w15, w16, w17, w18, w19⟩ := hQ10
 have N10 := Fr.app N0 N10q
 have sz_b3 : h0.size ≤ b3 := (Nat.le_of_eq g3.symm)
 have K20 := K4.trans K10q (allS (Or.inr sz_b3) all0)
 have C21 : CHv Z consts_1 s.vm T10.heap := CHv.keep K10q (sfS (Safe.exa hZ.alike A3 (by decide) (by decide)) sf0) C5
 have R22 : CHr Z consts_1 s.vm h0 s.vm T10.heap := R6.trans (CHr.keep K10q (sfS (Safe.exa hZ.alike A3 (by decide) (by decide)) sf0) C5)
 have hk24' : _ ≤ T10.heap.size := (Nat.le_trans (Nat.le_trans hk0 E3.1) K10q.1)
 obtain ⟨b23, T23, h23, k23, t23, c23, X23, e23, E23, hS23, hk23, hZ23, ho23, Ex23, Fc23, Fv23, Av23, lb23, lt23, CR23, -, sf23, st23⟩ := ldcCH (text := "{") (EL := consts_1) X10 hx hZ hown (w176_ hw) hwS rfl hS0 hk24' hEL (by decide) C21 (vs := [.int 123]) (z := (1 : Int32)) ⟨by decide, by decide⟩ (by decide) (by decide) (g := (mkF m 26 #[rv qa1] [.ref b3])) rfl (hb hby d19_26) (n := 4) (by decide) (lE rfl) (lE rfl) (lE rfl)
 have K25 := K20.ext E23
 have R27 := R22.trans CR23
 replace X23 : Stand p l e (Rm 6 8 48 91) (s.setVm T23.vm) m #[.ref qa1] below meth c T23 _ 4 28 := X23
 have hp29 : ∀ c ∈ ([123] : List Int32), ¬ c < 0 ∧ ¬ (255 : Int32) < c := (List.forall_mem_cons.mpr ⟨(by decide), (fun _ q => nomatch q)⟩)
 have F30_ := w18.ext E23
 have F31_ := w16.ext E23
 have A32_ := w19.ext E23
 have F33_ := w17.ext E23
 have E34_ := A3.keep K10q
 have E35_ := E34_.ext E23
 have g_b12 : n0 ≤ b12 := Nat.le_trans (Nat.le_trans (Nat.le_of_eq O11.1.symm) O11.2.1) w14
 have O36 := O11.keep K10q (allS g_b3 all0)
 have O37 := O36.ext E23
 obtain ⟨_, T28, L28, X28, hQ28, st28⟩ := own_cV 4 28 [] 28 #[rv qa1] X23 hx hZ23 ho23 E35_ (w177_ hw) (w178_ hw) (notFace_of_selects (args := #[]) (mvT hZ23 (w180_ hw))) (w180_ hw) (w179_ hw) (w160_ hw) (w181_ hw) (rm29 l Z a0 hw G1 b3 b23 t23 c23 b12 c13_ h23 n0 O37 O2 P5 Ex23 Fc23 Fv23 hp29 Av23 F30_ F31_ A32_ F33_ E35_ g_b12 (Nat.ne_of_lt (Nat.lt_of_lt_of_le A3.lt w14)) g_b3) pd25 hml.symm (hb hby d19_28) e23 rfl rfl rfl rfl (by decide)
 obtain ⟨rfl, N28q, K28q, w38, w39, w40, w41, w42⟩ := hQ28
 have N28 := Fr.app N10 N28q
 have sz_b12 : h0.size ≤ b12 := Nat.le_trans K4.1 w14
 have K43 := K25.trans K28q (allS (Or.inr sz_b3) (allS (Or.inr sz_b12) all0))
 have f45 : Safe Z consts_1 s.vm T10.heap b12 := Safe.keep K10q (sfS (Safe.exa hZ.alike A3 (by decide) (by decide)) sf0) C5 (Safe.new w14)
 have f46 : Safe Z consts_1 T23.vm h23 b12 := CR23.safe w19.lt f45
 have C44 : CHv Z consts_1 T23.vm T28.heap := CHv.keep K28q (sfS (Safe.exa hZ23.alike E35_ (by decide) (by decide)) (sfS f46 sf0)) CR23.1
 have R47 : CHr Z consts_1 s.vm h0 T23.vm T28.heap := R27.trans (CHr.keep K28q (sfS (Safe.exa hZ23.alike E35_ (by decide) (by decide)) (sfS f46 sf0)) CR23.1)
 have F49_ := F_qa1_variable.ext E3
 have F50_ := F49_.keep K10q (ninS (Nat.ne_of_lt (Nat.lt_of_lt_of_le F_qa1_variable.lt (Nat.le_of_eq g3.symm))) nin0)
 have F51_ := F50_.ext E23
 have F52_ := F51_.keep K28q (ninS (Nat.ne_of_lt (Nat.lt_of_lt_of_le F_qa1_variable.lt (Nat.le_of_eq g3.symm))) (ninS (Nat.ne_of_lt (Nat.lt_of_lt_of_le (Nat.lt_of_lt_of_le F_qa1_variable.lt E3.1) w14)) nin0))
 obtain ⟨T48, X48, e48, st48⟩ := getF X28 hx hZ23 ho23 (host := "") (Or.inl (w117_ hw)) Via.refl rfl F52_ (g := (mkF m 32 #[rv qa1] [.ref qa1, .ref b3])) rfl rfl (hb hby d19_32)
 have E54_ := E_qa2.ext E3
 have E55_ := E54_.keep K10q
 have E56_ := E55_.ext E23
 have E57_ := E56_.keep K28q
 have F58_ := F_qa2_coder.ext E3
 have F59_ := F58_.keep K10q (ninS (Nat.ne_of_lt (Nat.lt_of_lt_of_le E_qa2.lt (Nat.le_of_eq g3.symm))) nin0)
 have F60_ := F59_.ext E23
 have F61_ := F60_.keep K28q (ninS (Nat.ne_of_lt (Nat.lt_of_lt_of_le E_qa2.lt (Nat.le_of_eq g3.symm))) (ninS (Nat.ne_of_lt (Nat.lt_of_lt_of_le (Nat.lt_of_lt_of_le E_qa2.lt E3.1) w14)) nin0))
 have F62_ := F_qa2_value.ext E3
 have F63_ := F62_.keep K10q (ninS (Nat.ne_of_lt (Nat.lt_of_lt_of_le E_qa2.lt (Nat.le_of_eq g3.symm))) nin0)
 have F64_ := F63_.ext E23
 have F65_ := F64_.keep K28q (ninS (Nat.ne_of_lt (Nat.lt_of_lt_of_le E_qa2.lt (Nat.le_of_eq g3.symm))) (ninS (Nat.ne_of_lt (Nat.lt_of_lt_of_le (Nat.lt_of_lt_of_le E_qa2.lt E3.1) w14)) nin0))
 have A66_ := A_qa3.ext E3
 have A67_ := A66_.keep K10q (ninS (Nat.ne_of_lt (Nat.lt_of_lt_of_le A_qa3.lt (Nat.le_of_eq g3.symm))) nin0)
 have A68_ := A67_.ext E23
 have A69_ := A68_.keep K28q (ninS (Nat.ne_of_lt (Nat.lt_of_lt_of_le A_qa3.lt (Nat.le_of_eq g3.symm))) (ninS (Nat.ne_of_lt (Nat.lt_of_lt_of_le (Nat.lt_of_lt_of_le A_qa3.lt E3.1) w14)) nin0))
 have E70_ := E35_.keep K28q
 have O71 := O37.keep K28q (allS g_b3 (allS g_b12 all0))
 obtain ⟨_, T53, L53, X53, hQ53, st53⟩ := own_cV 4 28 [] 35 #[rv qa1] X48 hx hZ23 ho23 E70_ (w177_ hw) (w178_ hw) (notFace_of_selects (args := #[]) (mvT hZ23 (w180_ hw))) (w180_ hw) (w179_ hw) (w160_ hw) (w181_ hw) (rm60 l Z a0 hw G1 b3 qa2 qa3 qi4 qk5 b12 c13_ T28.heap n0 O71 O2 P5 E57_ F61_ F65_ hp_qa2 A69_ w39 w40 w42 w41 E70_ g_b12 (Nat.ne_of_lt (Nat.lt_of_lt_of_le A3.lt w14)) g_b3) pd25 hml.symm (hb hby d19_35) e48 rfl rfl rfl rfl (by decide)
 obtain ⟨rfl, N53q, K53q, w72, w73, w74, w75, w76⟩ := hQ53
 have N53 := Fr.app N28 N53q
 have K77 := K43.trans K53q (allS (Or.inr sz_b3) (allS (Or.inr sz_b12) all0))
 have f79 : Safe Z consts_1 T23.vm T28.heap b12 := Safe.keep K28q (sfS (Safe.exa hZ23.alike E35_ (by decide) (by decide)) (sfS f46 sf0)) CR23.1 f46
 have C78 : CHv Z consts_1 T23.vm T53.heap := CHv.keep K53q (sfS (Safe.exa hZ23.alike E70_ (by decide) (by decide)) (sfS f79 sf0)) C44
 have R80 : CHr Z consts_1 s.vm h0 T23.vm T53.heap := R47.trans (CHr.keep K53q (sfS (Safe.exa hZ23.alike E70_ (by decide) (by decide)) (sfS f79 sf0)) C44)
 have hk82' : _ ≤ T53.heap.size := (Nat.le_trans (Nat.le_trans hk23 K28q.1) K53q.1)
 obtain ⟨b81, T81, h81, k81, t81, c81, X81, e81, E81, hS81, hk81, hZ81, ho81, Ex81, Fc81, Fv81, Av81, lb81, lt81, CR81, -, sf81, st81⟩ := ldcCH (text := "*}") (EL := consts_1) X53 hx hZ23 ho23 (w215_ hw) hwS rfl hS23 hk82' hEL (by decide) C78 (vs := [.int 42, .int 125]) (z := (2 : Int32)) ⟨by decide, by decide⟩ (by decide) (by decide) (g := (mkF m 38 #[rv qa1] [.ref b3])) rfl (hb hby d19_38) (n := 8) (by decide) (lE rfl) (lE rfl) (lE rfl)
 have K83 := K77.ext E81
 have R85 := R80.trans CR81
 replace X81 : Stand p l e (Rm 6 8 48 91) (s.setVm T81.vm) m #[.ref qa1] below meth c T81 _ 6 40 := X81
 have hp87 : ∀ c ∈ ([42, 125] : List Int32), ¬ c < 0 ∧ ¬ (255 : Int32) < c := (List.forall_mem_cons.mpr ⟨(by decide), (List.forall_mem_cons.mpr ⟨(by decide), (fun _ q => nomatch q)⟩)⟩)
 have F88_ := w73.ext E81
 have F89_ := w74.ext E81
 have A90_ := w76.ext E81
 have F91_ := w75.ext E81
 have E92_ := E70_.keep K53q
 have E93_ := E92_.ext E81
 have O94 := O71.keep K53q (allS g_b3 (allS g_b12 all0))
 have O95 := O94.ext E81
 obtain ⟨_, T86, L86, X86, hQ86, st86⟩ := own_cV 6 40 [] 40 #[rv qa1] X81 hx hZ81 ho81 E93_ (w177_ hw) (w178_ hw) (notFace_of_selects (args := #[]) (mvT hZ81 (w180_ hw))) (w180_ hw) (w179_ hw) (w160_ hw) (w181_ hw) (rm65 l Z a0 hw G1 b3 b81 t81 c81 b12 c13_ ((qi4).toInt8.toInt32) h81 n0 O95 O2 P5 Ex81 Fc81 Fv81 hp87 Av81 F88_ F89_ A90_ F91_ E93_ g_b12 (Nat.ne_of_lt (Nat.lt_of_lt_of_le A3.lt w14)) g_b3) pd25 hml.symm (hb hby d19_40) e81 rfl rfl rfl rfl (by decide)
 obtain ⟨rfl, N86q, K86q, w96, w97, w98, w99, w100⟩ := hQ86
 have N86 := Fr.app N53 N86q
 have K101 := K83.trans K86q (allS (Or.inr sz_b3) (allS (Or.inr sz_b12) all0))
 have f103 : Safe Z consts_1 T23.vm T53.heap b12 := Safe.keep K53q (sfS (Safe.exa hZ23.alike E70_ (by decide) (by decide)) (sfS f79 sf0)) C44 f79
 have f104 : Safe Z consts_1 T81.vm h81 b12 := CR81.safe (Nat.lt_of_lt_of_le w19.lt (Nat.le_trans (Nat.le_trans E23.1 K28q.1) K53q.1)) f103
 have C102 : CHv Z consts_1 T81.vm T86.heap := CHv.keep K86q (sfS (Safe.exa hZ81.alike E93_ (by decide) (by decide)) (sfS f104 sf0)) CR81.1
 have R105 : CHr Z consts_1 s.vm h0 T81.vm T86.heap := R85.trans (CHr.keep K86q (sfS (Safe.exa hZ81.alike E93_ (by decide) (by decide)) (sfS f104 sf0)) CR81.1)
 have E107_ := E93_.keep K86q
 have O108 := O95.keep K86q (allS g_b3 (allS g_b12 all0))
 obtain ⟨_, T106, L106, X106, hQ106, st106⟩ := own_cV 8 48 [] 43 #[rv qa1] X86 hx hZ81 ho81 E107_ (w216_ hw) (w217_ hw) (notFace_of_selects (args := #[]) (mvT hZ81 (w219_ hw))) (w219_ hw) (w218_ hw) (w160_ hw) (w220_ hw) (rm74 l Z a0 hw G1 b3 b12 c13_ ((qi4).toInt8.toInt32) T86.heap n0 O108 O2 P5 E107_ w98 w97 w99 w100) pd15 hml.symm (hb hby d19_43) rfl rfl rfl rfl rfl (by decide)
 obtain ⟨b109, b110, c111_, rfl, N106q, K106q, w112, w113, w114, w115, w116, w117, w118⟩ := hQ106
 have N106 := Fr.app N86 N106q
 have K119 := K101.trans K106q (fun x q => nomatch q)
 have C120 : CHv Z consts_1 T81.vm T106.heap := CHv.keep K106q sf0 C102
 have R121 : CHr Z consts_1 s.vm h0 T81.vm T106.heap := R105.trans (CHr.keep K106q sf0 C102)
 have sz_b109 : h0.size ≤ b109 := Nat.le_trans K101.1 w112
 have sz_b110 : h0.size ≤ b110 := Nat.le_trans K101.1 w113
 have hk122' : _ ≤ T106.heap.size := (Nat.le_trans (Nat.le_trans hk81 K86q.1) K106q.1)
 refine own_lvW X106 Bd.notSynchronized hS81 hk122' (v := (some (.ref b109))) (fun h => by rw [Bd.returns] at h; cases h) rfl hh ⟨b109, b110, c111_, rfl, N106, K119, sz_b109, sz_b110, w114, w115, w116, w117, w118⟩ (R121.trans (CHv.at X106 hZ81 hEL C120)) (lE rfl) (lE rfl) (fun fs hr => pre0 _ (by
  show Sx p e below s₁ m 0 #[rv qa1] [] _
  refine zb X0 Bd d19_0 rfl rfl ?_
  refine st1 _ ?_
  refine XS.ifnonnullYes X1.here hx rfl (pc0 := 4) (pc' := 12) rfl (hb hby d19_4) rfl (by decide) (by decide) ?_
  refine zb X1 Bd d19_12 rfl rfl ?_
  refine st2 _ ?_
  refine zo X2 Bd d19_16 (XT.i0_eq_f ((by decide) : ¬ ((1 : Int32) = (0 : Int32)))) ?_
  refine st3 _ ?_
  refine XS.dup X3.here hx rfl (hb hby d19_22) rfl rfl ?_
  refine st10 _ ?_
  refine st23 _ ?_
  refine st28 _ ?_
  refine zb X28 Bd d19_31 rfl rfl ?_
  refine st48 _ ?_
  refine st53 _ ?_
  refine st81 _ ?_
  refine st86 _ ?_
  refine st106 _ ?_
  exact retOut X106 hx Bd.returns rfl (Or.inr (Or.inr (Or.inr (Or.inr ⟨rfl, rfl, rfl⟩)))) (hb hby d19_46) hr))
theorem d0_35 : decode method_2_code 35 = .ok (.iload_n 0, 1) := by decide +kernel
theorem d0_36 : decode method_2_code 36 = .ok (.iconst 2, 1) := by decide +kernel
theorem d0_37 : decode method_2_code 37 = .ok (.if_icmp .ne 22, 3) := by decide +kernel
theorem d0_40 : decode method_2_code 40 = .ok (.new 7, 3) := by decide +kernel
theorem d0_43 : decode method_2_code 43 = .ok (.dup, 1) := by decide +kernel
theorem d0_44 : decode method_2_code 44 = .ok (.iconst 2, 1) := by decide +kernel
theorem d0_45 : decode method_2_code 45 = .ok (.newarray .char, 2) := by decide +kernel
theorem d0_47 : decode method_2_code 47 = .ok (.dup, 1) := by decide +kernel
theorem d0_48 : decode method_2_code 48 = .ok (.iconst 0, 1) := by decide +kernel
theorem d0_49 : decode method_2_code 49 = .ok (.iload_n 1, 1) := by decide +kernel
theorem d0_50 : decode method_2_code 50 = .ok (.castore, 1) := by decide +kernel
theorem d0_51 : decode method_2_code 51 = .ok (.dup, 1) := by decide +kernel
theorem d0_52 : decode method_2_code 52 = .ok (.iconst 1, 1) := by decide +kernel
theorem d0_53 : decode method_2_code 53 = .ok (.iload_n 2, 1) := by decide +kernel
theorem d0_54 : decode method_2_code 54 = .ok (.castore, 1) := by decide +kernel
theorem d0_55 : decode method_2_code 55 = .ok (.invokespecial 9, 3) := by decide +kernel
theorem d0_58 : decode method_2_code 58 = .ok (.areturn, 1) := by decide +kernel
-- com/example/echoes_to_canon/echoestocanon/UrlKeysRestPinLaw.nameOf(ICCC)Ljava/lang/String;
def Q76 (Z : State) (qi2 : Int32) (qi3 : Int32) (h0 : Heap) (n0 : Nat) (v : Option Value) (h : Heap) (L : List Loc) : Prop := ∃ b4 : Addr, ∃ b38 : Addr, ∃ c38_ : ClassId, v = some (.ref b4) ∧ Fr n0 L ∧ Keep h0 h [] ∧ h0.size ≤ b4 ∧ h0.size ≤ b38 ∧ b4 ≠ b38 ∧ Exa Z h b4 "java/lang/String" ∧ Fld Z h b4 "java/lang/String" "coder" "B" (.int 0) ∧ Fld Z h b4 "java/lang/String" "value" "[B" (.ref b38) ∧ Arv Z h b38 c38_ .byte (2 : Int32) ((([qi2, qi3] : List Int32).map (fun c => c.toInt8.toInt32)).map Value.int) (.int 0)
theorem rm76 (l : Launch) (Z : State) (a0 : Array Value) (hw : HW a0 Z) (G1 : Int32) (qi1 : Int32) (qi2 : Int32) (qi3 : Int32) (qi4 : Int32) (h0 : Heap) (n0 : Nat) (X00 : Old Z n0 h0) (O2 : Sta Z Z.heap "java/lang/String" "COMPACT_STRINGS" "Z" (.int G1)) (P5 : ¬ (G1 = (0 : Int32))) (hc1 : ¬ (qi1 = (0 : Int32))) (hc2 : ¬ (qi1 = (1 : Int32))) (hc3 : qi1 = (2 : Int32)) (hl15 : ¬ qi2 < 0 ∧ ¬ (255 : Int32) < qi2) (hl20 : ¬ qi3 < 0 ∧ ¬ (255 : Int32) < qi3) :
    MF l Z Y2_ method_2_code 4 (some (.object "java/lang/String")) (Rm 4 3 8 66) #[.int qi1, .int qi2, .int qi3, .int qi4] h0 (Q76 Z qi2 qi3 h0 n0) := by
 refine own_sF pn0 rfl (fun m => ef1 m qi1 qi2 qi3 qi4) ?_
 intro p e s m below meth c s₁ Bd hZ hh hx hby hml hown hnm X0 e0 pre0
 have N0 := Fr.nil n0
 obtain ⟨T4, h4, X4, e4, E4, A4, D4, -, st4⟩ := newO X0 hx hZ hown (w4_ hw) (w5_ hw) (w6_ hw) e0 (g := (mkF m 40 #[iv qi1, iv qi2, iv qi3, iv qi4] [])) rfl (hb hby d0_40) (lE rfl) (lE rfl)
 obtain ⟨b4, g4⟩ : ∃ z, z = h0.size := ⟨_, rfl⟩
 rw [← g4] at A4 D4 st4
 replace X4 : Stand p l e (Rm 4 3 8 66) s m #[.int qi1, .int qi2, .int qi3, .int qi4] below meth c T4 _ 1 4 := X4
 have K5 := (Keep.refl h0 []).ext E4
 have F6_ : Fld Z h4 b4 "java/lang/String" "value" "[B" .null := D4 (Or.inr (w20_ hw)) (ty := (.array .byte)) (by decide)
 have F7_ : Fld Z h4 b4 "java/lang/String" "coder" "B" (.int 0) := D4 (Or.inr (w21_ hw)) (ty := .byte) (by decide)
 obtain ⟨T8, h8, c8, X8, e8, E8, A8, st8⟩ := newP (aty := .char) X4 hx hZ (w7_ hw) e4 (g := (mkF m 45 #[iv qi1, iv qi2, iv qi3, iv qi4] [.int 2, .ref b4, .ref b4])) rfl (hb hby d0_45) rfl (by decide) (cap := 2) (by decide) (lE rfl) (lE rfl) (lE rfl)
 obtain ⟨b8, g8⟩ : ∃ z, z = h4.size := ⟨_, rfl⟩
 rw [← g8] at A8 st8
 replace X8 : Stand p l e (Rm 4 3 8 66) s m #[.int qi1, .int qi2, .int qi3, .int qi4] below meth c T8 _ 2 6 := X8
 have K9 := K5.ext E8
 have A10_ : Arv Z h8 b8 c8 .char (2 : Int32) [.int 0, .int 0] (.int 0) := (Arv.new A8 (by decide)).pad (pad_rep [] (.int 0) 2)
 have av11 := A10_
 obtain ⟨cl11, Ar11, q11, S11, N11, H11, Gf11⟩ := av11
 have hin12 : ¬ ((0 : Int32) < 0 ∨ cl11.slots.size ≤ ((0 : Int32) : Int32).toNatClampNeg) := inb_of S11 (by decide)
 obtain ⟨T12, h12, X12, e12, W12, st12⟩ := stC X8 hx hZ e8 Ar11 (j := (0 : Int32)) hin12 (g := (mkF m 50 #[iv qi1, iv qi2, iv qi3, iv qi4] [.int qi2, .int 0, .ref b8, .ref b8, .ref b4, .ref b4])) rfl rfl (hb hby d0_50)
 have O13 := X00.ext E4
 have g_b8 : n0 ≤ b8 := Nat.le_trans (Nat.le_trans (Nat.le_of_eq O13.1.symm) O13.2.1) (Nat.le_of_eq g8.symm)
 have N12_ := Fr.snoc X12 N0 g_b8
 have sz_b8 : h0.size ≤ b8 := Nat.le_trans K5.1 (Nat.le_of_eq g8.symm)
 have K14 := K9.wr W12 (Or.inr sz_b8)
 have A16_ : Arv Z h12 b8 c8 .char (2 : Int32) [.int qi2, .int 0] (.int 0) := by have q := Arv.set (v := .int (nar .char qi2)) Ar11 q11 S11 N11 H11 Gf11 (fits_nar_char _) W12 0 (by decide) (lE rfl); rw [((own_nar_lat hl15) : nar .char qi2 = qi2)] at q; exact q
 have av17 := A16_
 obtain ⟨cl17, Ar17, q17, S17, N17, H17, Gf17⟩ := av17
 have hin18 : ¬ ((1 : Int32) < 0 ∨ cl17.slots.size ≤ ((1 : Int32) : Int32).toNatClampNeg) := inb_of S17 (by decide)
 obtain ⟨T18, h18, X18, e18, W18, st18⟩ := stC X12 hx hZ e12 Ar17 (j := (1 : Int32)) hin18 (g := (mkF m 54 #[iv qi1, iv qi2, iv qi3, iv qi4] [.int qi3, .int 1, .ref b8, .ref b8, .ref b4, .ref b4])) rfl rfl (hb hby d0_54)
 have N18_ := Fr.snoc X18 N12_ g_b8
 have K19 := K14.wr W18 (Or.inr sz_b8)
 have A21_ : Arv Z h18 b8 c8 .char (2 : Int32) [.int qi2, .int qi3] (.int 0) := by have q := Arv.set (v := .int (nar .char qi3)) Ar17 q17 S17 N17 H17 Gf17 (fits_nar_char _) W18 1 (by decide) (lE rfl); rw [((own_nar_lat hl20) : nar .char qi3 = qi3)] at q; exact q
 have hp23 : ∀ c ∈ ([qi2, qi3] : List Int32), ¬ c < 0 ∧ ¬ (255 : Int32) < c := (List.forall_mem_cons.mpr ⟨hl15, (List.forall_mem_cons.mpr ⟨hl20, (fun _ q => nomatch q)⟩)⟩)
 have g_b4 : n0 ≤ b4 := Nat.le_trans (Nat.le_trans (Nat.le_of_eq X00.1.symm) X00.2.1) (Nat.le_of_eq g4.symm)
 have O26 := O13.ext E8
 have O27 := O26.wr W12 g_b8
 have O28 := O27.wr W18 g_b8
 have E29_ := A4.ext E8
 have E30_ := E29_.wr W12
 have E31_ := E30_.wr W18
 have F32_ := F6_.ext E8
 have F33_ := F32_.other W12 (Or.inl (Nat.ne_of_lt (Nat.lt_of_lt_of_le A4.lt (Nat.le_of_eq g8.symm))))
 have F34_ := F33_.other W18 (Or.inl (Nat.ne_of_lt (Nat.lt_of_lt_of_le A4.lt (Nat.le_of_eq g8.symm))))
 have F35_ := F7_.ext E8
 have F36_ := F35_.other W12 (Or.inl (Nat.ne_of_lt (Nat.lt_of_lt_of_le A4.lt (Nat.le_of_eq g8.symm))))
 have F37_ := F36_.other W18 (Or.inl (Nat.ne_of_lt (Nat.lt_of_lt_of_le A4.lt (Nat.le_of_eq g8.symm))))
 obtain ⟨_, T22, L22, X22, hQ22, st22⟩ := own_cb 2 6 1 2 3 8 (X18.specialBack hx (y := Y1_) rfl hown (mvT hZ (w8_ hw)) (mvT hZ (w9_ hw)) (mvT hZ (w10_ hw)) (by decide) (StrChars.Road.backV (W := 1) hZ (own_ws hw) (kI := 4) (w5_ hw) (cs := ([qi2, qi3] : List Int32)) (bs := ([qi2, qi3] : List Int32).map (fun c => c.toInt8.toInt32)) (n := 2) g_b4 (Nat.le_trans (Nat.le_of_eq O28.1.symm) O28.2.1) E31_ F34_ F37_ A21_ (O2.ext O28.2) P5 rfl rfl (lE rfl) (lE rfl) hp23 rfl (lE rfl) (lE rfl)) (g := (mkF m 55 #[iv qi1, iv qi2, iv qi3, iv qi4] [.ref b8, .ref b4, .ref b4])) rfl hml.symm (Steps.refl _) (a := b4) (argsL := [.ref b8]) (rest := [.ref b4]) (lenOf pd1 rfl) rfl (own_hw rfl) (hb hby d0_55) (fun _ _ => ⟨rfl, e18, (lE rfl : 2 + 1 ≤ _), (lE rfl : 6 + 2 ≤ _)⟩)) rfl rfl
 obtain ⟨rfl, N22q, K22q, E22q, C22q, b38, c38_, u38, g38, ne38, V38_, A38_⟩ := hQ22
 have N22 := Fr.app N18_ N22q
 have sz_b4 : h0.size ≤ b4 := (Nat.le_of_eq g4.symm)
 have K39 := K19.trans K22q (allS (Or.inr sz_b4) all0)
 have sz_b38 : h0.size ≤ b38 := Nat.le_trans K19.1 g38
 have E40_ := E31_.keep K22q
 refine own_lvF X22 Bd (.ref b4) rfl ⟨b4, b38, c38_, rfl, N22, K39, sz_b4, sz_b38, (Ne.symm ne38), E40_, C22q, V38_, A38_⟩ rfl (fun fs hr => pre0 _ (by
  show Sx p e below s₁ m 0 #[iv qi1, iv qi2, iv qi3, iv qi4] [] _
  refine zj X0 Bd d0_0 rfl ?_
  refine zp (pc' := 15) X0 Bd d0_1 (XT.i0_ne_t (hc1 : ¬ (qi1 = (0 : Int32)))) rfl ?_
  refine zj X0 Bd d0_15 rfl ?_
  refine zc X0 Bd d0_16 ?_
  refine zy (pc' := 35) X0 Bd d0_17 (XT.ii_ne_t (hc2 : ¬ (qi1 = (1 : Int32)))) rfl ?_
  refine zj X0 Bd d0_35 rfl ?_
  refine zc X0 Bd d0_36 ?_
  refine zn X0 Bd d0_37 (XT.ii_ne_f (hc3 : qi1 = (2 : Int32))) ?_
  refine st4 _ ?_
  refine XS.dup X4.here hx rfl (hb hby d0_43) rfl rfl ?_
  refine zc X4 Bd d0_44 ?_
  refine st8 _ ?_
  refine XS.dup X8.here hx rfl (hb hby d0_47) rfl rfl ?_
  refine zc X8 Bd d0_48 ?_
  refine zj X8 Bd d0_49 rfl ?_
  refine st12 _ ?_
  refine XS.dup X12.here hx rfl (hb hby d0_51) rfl rfl ?_
  refine zc X12 Bd d0_52 ?_
  refine zj X12 Bd d0_53 rfl ?_
  refine st18 _ ?_
  refine st22.trans ?_
  exact retOut X22 hx Bd.returns rfl (Or.inr (Or.inr (Or.inr (Or.inr ⟨rfl, rfl, rfl⟩)))) (hb hby d0_58) hr))
theorem d3_65 : decode method_3_code 65 = .ok (.iload_n 0, 1) := by decide +kernel
theorem d3_66 : decode method_3_code 66 = .ok (.iconst 2, 1) := by decide +kernel
theorem d3_67 : decode method_3_code 67 = .ok (.if_icmp .ne 37, 3) := by decide +kernel
theorem d3_70 : decode method_3_code 70 = .ok (.new 7, 3) := by decide +kernel
theorem d3_73 : decode method_3_code 73 = .ok (.dup, 1) := by decide +kernel
theorem d3_74 : decode method_3_code 74 = .ok (.iconst 5, 1) := by decide +kernel
theorem d3_75 : decode method_3_code 75 = .ok (.newarray .char, 2) := by decide +kernel
theorem d3_77 : decode method_3_code 77 = .ok (.dup, 1) := by decide +kernel
theorem d3_78 : decode method_3_code 78 = .ok (.iconst 0, 1) := by decide +kernel
theorem d3_79 : decode method_3_code 79 = .ok (.bipush 123, 2) := by decide +kernel
theorem d3_81 : decode method_3_code 81 = .ok (.castore, 1) := by decide +kernel
theorem d3_82 : decode method_3_code 82 = .ok (.dup, 1) := by decide +kernel
theorem d3_83 : decode method_3_code 83 = .ok (.iconst 1, 1) := by decide +kernel
theorem d3_84 : decode method_3_code 84 = .ok (.iload_n 1, 1) := by decide +kernel
theorem d3_85 : decode method_3_code 85 = .ok (.castore, 1) := by decide +kernel
theorem d3_86 : decode method_3_code 86 = .ok (.dup, 1) := by decide +kernel
theorem d3_87 : decode method_3_code 87 = .ok (.iconst 2, 1) := by decide +kernel
theorem d3_88 : decode method_3_code 88 = .ok (.iload_n 2, 1) := by decide +kernel
theorem d3_89 : decode method_3_code 89 = .ok (.castore, 1) := by decide +kernel
theorem d3_90 : decode method_3_code 90 = .ok (.dup, 1) := by decide +kernel
theorem d3_91 : decode method_3_code 91 = .ok (.iconst 3, 1) := by decide +kernel
theorem d3_92 : decode method_3_code 92 = .ok (.bipush 42, 2) := by decide +kernel
theorem d3_94 : decode method_3_code 94 = .ok (.castore, 1) := by decide +kernel
theorem d3_95 : decode method_3_code 95 = .ok (.dup, 1) := by decide +kernel
theorem d3_96 : decode method_3_code 96 = .ok (.iconst 4, 1) := by decide +kernel
theorem d3_97 : decode method_3_code 97 = .ok (.bipush 125, 2) := by decide +kernel
theorem d3_99 : decode method_3_code 99 = .ok (.castore, 1) := by decide +kernel
theorem d3_100 : decode method_3_code 100 = .ok (.invokespecial 9, 3) := by decide +kernel
theorem d3_103 : decode method_3_code 103 = .ok (.areturn, 1) := by decide +kernel
-- com/example/echoes_to_canon/echoestocanon/UrlKeysRestPinLaw.shownOf(ICCC)Ljava/lang/String;
def Q77 (Z : State) (qi2 : Int32) (qi3 : Int32) (h0 : Heap) (n0 : Nat) (v : Option Value) (h : Heap) (L : List Loc) : Prop := ∃ b4 : Addr, ∃ b62 : Addr, ∃ c62_ : ClassId, v = some (.ref b4) ∧ Fr n0 L ∧ Keep h0 h [] ∧ h0.size ≤ b4 ∧ h0.size ≤ b62 ∧ b4 ≠ b62 ∧ Exa Z h b4 "java/lang/String" ∧ Fld Z h b4 "java/lang/String" "coder" "B" (.int 0) ∧ Fld Z h b4 "java/lang/String" "value" "[B" (.ref b62) ∧ Arv Z h b62 c62_ .byte (5 : Int32) ((([123, qi2, qi3, 42, 125] : List Int32).map (fun c => c.toInt8.toInt32)).map Value.int) (.int 0)
theorem rm77 (l : Launch) (Z : State) (a0 : Array Value) (hw : HW a0 Z) (G1 : Int32) (qi1 : Int32) (qi2 : Int32) (qi3 : Int32) (qi4 : Int32) (h0 : Heap) (n0 : Nat) (X00 : Old Z n0 h0) (O2 : Sta Z Z.heap "java/lang/String" "COMPACT_STRINGS" "Z" (.int G1)) (P5 : ¬ (G1 = (0 : Int32))) (hc1 : ¬ (qi1 = (0 : Int32))) (hc2 : ¬ (qi1 = (1 : Int32))) (hc3 : qi1 = (2 : Int32)) (hl19 : ¬ qi2 < 0 ∧ ¬ (255 : Int32) < qi2) (hl24 : ¬ qi3 < 0 ∧ ¬ (255 : Int32) < qi3) :
    MF l Z Y3_ method_3_code 4 (some (.object "java/lang/String")) (Rm 4 3 14 66) #[.int qi1, .int qi2, .int qi3, .int qi4] h0 (Q77 Z qi2 qi3 h0 n0) := by
 refine own_sF pn0 rfl (fun m => ef1 m qi1 qi2 qi3 qi4) ?_
 intro p e s m below meth c s₁ Bd hZ hh hx hby hml hown hnm X0 e0 pre0
 have N0 := Fr.nil n0
 obtain ⟨T4, h4, X4, e4, E4, A4, D4, -, st4⟩ := newO X0 hx hZ hown (w4_ hw) (w5_ hw) (w6_ hw) e0 (g := (mkF m 70 #[iv qi1, iv qi2, iv qi3, iv qi4] [])) rfl (hb hby d3_70) (lE rfl) (lE rfl)
 obtain ⟨b4, g4⟩ : ∃ z, z = h0.size := ⟨_, rfl⟩
 rw [← g4] at A4 D4 st4
 replace X4 : Stand p l e (Rm 4 3 14 66) s m #[.int qi1, .int qi2, .int qi3, .int qi4] below meth c T4 _ 1 4 := X4
 have K5 := (Keep.refl h0 []).ext E4
 have F6_ : Fld Z h4 b4 "java/lang/String" "value" "[B" .null := D4 (Or.inr (w20_ hw)) (ty := (.array .byte)) (by decide)
 have F7_ : Fld Z h4 b4 "java/lang/String" "coder" "B" (.int 0) := D4 (Or.inr (w21_ hw)) (ty := .byte) (by decide)
 obtain ⟨T8, h8, c8, X8, e8, E8, A8, st8⟩ := newP (aty := .char) X4 hx hZ (w7_ hw) e4 (g := (mkF m 75 #[iv qi1, iv qi2, iv qi3, iv qi4] [.int 5, .ref b4, .ref b4])) rfl (hb hby d3_75) rfl (by decide) (cap := 5) (by decide) (lE rfl) (lE rfl) (lE rfl)
 obtain ⟨b8, g8⟩ : ∃ z, z = h4.size := ⟨_, rfl⟩
 rw [← g8] at A8 st8
 replace X8 : Stand p l e (Rm 4 3 14 66) s m #[.int qi1, .int qi2, .int qi3, .int qi4] below meth c T8 _ 2 9 := X8
 have K9 := K5.ext E8
 have A10_ : Arv Z h8 b8 c8 .char (5 : Int32) [.int 0, .int 0, .int 0, .int 0, .int 0] (.int 0) := (Arv.new A8 (by decide)).pad (pad_rep [] (.int 0) 5)
 have av11 := A10_
 obtain ⟨cl11, Ar11, q11, S11, N11, H11, Gf11⟩ := av11
 have hin12 : ¬ ((0 : Int32) < 0 ∨ cl11.slots.size ≤ ((0 : Int32) : Int32).toNatClampNeg) := inb_of S11 (by decide)
 obtain ⟨T12, h12, X12, e12, W12, st12⟩ := stC X8 hx hZ e8 Ar11 (j := (0 : Int32)) hin12 (g := (mkF m 81 #[iv qi1, iv qi2, iv qi3, iv qi4] [.int 123, .int 0, .ref b8, .ref b8, .ref b4, .ref b4])) rfl rfl (hb hby d3_81)
 have O13 := X00.ext E4
 have g_b8 : n0 ≤ b8 := Nat.le_trans (Nat.le_trans (Nat.le_of_eq O13.1.symm) O13.2.1) (Nat.le_of_eq g8.symm)
 have N12_ := Fr.snoc X12 N0 g_b8
 have sz_b8 : h0.size ≤ b8 := Nat.le_trans K5.1 (Nat.le_of_eq g8.symm)
 have K14 := K9.wr W12 (Or.inr sz_b8)
 have A15_ : Arv Z h12 b8 c8 .char (5 : Int32) [.int 123, .int 0, .int 0, .int 0, .int 0] (.int 0) := Arv.set Ar11 q11 S11 N11 H11 Gf11 (fits_nar_char _) W12 0 (by decide) (lE rfl)
 have av16 := A15_
 obtain ⟨cl16, Ar16, q16, S16, N16, H16, Gf16⟩ := av16
 have hin17 : ¬ ((1 : Int32) < 0 ∨ cl16.slots.size ≤ ((1 : Int32) : Int32).toNatClampNeg) := inb_of S16 (by decide)
 obtain ⟨T17, h17, X17, e17, W17, st17⟩ := stC X12 hx hZ e12 Ar16 (j := (1 : Int32)) hin17 (g := (mkF m 85 #[iv qi1, iv qi2, iv qi3, iv qi4] [.int qi2, .int 1, .ref b8, .ref b8, .ref b4, .ref b4])) rfl rfl (hb hby d3_85)
 have N17_ := Fr.snoc X17 N12_ g_b8
 have K18 := K14.wr W17 (Or.inr sz_b8)
 have A20_ : Arv Z h17 b8 c8 .char (5 : Int32) [.int 123, .int qi2, .int 0, .int 0, .int 0] (.int 0) := by have q := Arv.set (v := .int (nar .char qi2)) Ar16 q16 S16 N16 H16 Gf16 (fits_nar_char _) W17 1 (by decide) (lE rfl); rw [((own_nar_lat hl19) : nar .char qi2 = qi2)] at q; exact q
 have av21 := A20_
 obtain ⟨cl21, Ar21, q21, S21, N21, H21, Gf21⟩ := av21
 have hin22 : ¬ ((2 : Int32) < 0 ∨ cl21.slots.size ≤ ((2 : Int32) : Int32).toNatClampNeg) := inb_of S21 (by decide)
 obtain ⟨T22, h22, X22, e22, W22, st22⟩ := stC X17 hx hZ e17 Ar21 (j := (2 : Int32)) hin22 (g := (mkF m 89 #[iv qi1, iv qi2, iv qi3, iv qi4] [.int qi3, .int 2, .ref b8, .ref b8, .ref b4, .ref b4])) rfl rfl (hb hby d3_89)
 have N22_ := Fr.snoc X22 N17_ g_b8
 have K23 := K18.wr W22 (Or.inr sz_b8)
 have A25_ : Arv Z h22 b8 c8 .char (5 : Int32) [.int 123, .int qi2, .int qi3, .int 0, .int 0] (.int 0) := by have q := Arv.set (v := .int (nar .char qi3)) Ar21 q21 S21 N21 H21 Gf21 (fits_nar_char _) W22 2 (by decide) (lE rfl); rw [((own_nar_lat hl24) : nar .char qi3 = qi3)] at q; exact q
 have av26 := A25_
 obtain ⟨cl26, Ar26, q26, S26, N26, H26, Gf26⟩ := av26
 have hin27 : ¬ ((3 : Int32) < 0 ∨ cl26.slots.size ≤ ((3 : Int32) : Int32).toNatClampNeg) := inb_of S26 (by decide)
 obtain ⟨T27, h27, X27, e27, W27, st27⟩ := stC X22 hx hZ e22 Ar26 (j := (3 : Int32)) hin27 (g := (mkF m 94 #[iv qi1, iv qi2, iv qi3, iv qi4] [.int 42, .int 3, .ref b8, .ref b8, .ref b4, .ref b4])) rfl rfl (hb hby d3_94)
 have N27_ := Fr.snoc X27 N22_ g_b8
 have K28 := K23.wr W27 (Or.inr sz_b8)
 have A29_ : Arv Z h27 b8 c8 .char (5 : Int32) [.int 123, .int qi2, .int qi3, .int 42, .int 0] (.int 0) := Arv.set Ar26 q26 S26 N26 H26 Gf26 (fits_nar_char _) W27 3 (by decide) (lE rfl)
 have av30 := A29_
 obtain ⟨cl30, Ar30, q30, S30, N30, H30, Gf30⟩ := av30
 have hin31 : ¬ ((4 : Int32) < 0 ∨ cl30.slots.size ≤ ((4 : Int32) : Int32).toNatClampNeg) := inb_of S30 (by decide)
 obtain ⟨T31, h31, X31, e31, W31, st31⟩ := stC X27 hx hZ e27 Ar30 (j := (4 : Int32)) hin31 (g := (mkF m 99 #[iv qi1, iv qi2, iv qi3, iv qi4] [.int 125, .int 4, .ref b8, .ref b8, .ref b4, .ref b4])) rfl rfl (hb hby d3_99)
 have N31_ := Fr.snoc X31 N27_ g_b8
 have K32 := K28.wr W31 (Or.inr sz_b8)
 have A33_ : Arv Z h31 b8 c8 .char (5 : Int32) [.int 123, .int qi2, .int qi3, .int 42, .int 125] (.int 0) := Arv.set Ar30 q30 S30 N30 H30 Gf30 (fits_nar_char _) W31 4 (by decide) (lE rfl)
 have hp35 : ∀ c ∈ ([123, qi2, qi3, 42, 125] : List Int32), ¬ c < 0 ∧ ¬ (255 : Int32) < c := (List.forall_mem_cons.mpr ⟨(by decide), (List.forall_mem_cons.mpr ⟨hl19, (List.forall_mem_cons.mpr ⟨hl24, (List.forall_mem_cons.mpr ⟨(by decide), (List.forall_mem_cons.mpr ⟨(by decide), (fun _ q => nomatch q)⟩)⟩)⟩)⟩)⟩)
 have g_b4 : n0 ≤ b4 := Nat.le_trans (Nat.le_trans (Nat.le_of_eq X00.1.symm) X00.2.1) (Nat.le_of_eq g4.symm)
 have O38 := O13.ext E8
 have O39 := O38.wr W12 g_b8
 have O40 := O39.wr W17 g_b8
 have O41 := O40.wr W22 g_b8
 have O42 := O41.wr W27 g_b8
 have O43 := O42.wr W31 g_b8
 have E44_ := A4.ext E8
 have E45_ := E44_.wr W12
 have E46_ := E45_.wr W17
 have E47_ := E46_.wr W22
 have E48_ := E47_.wr W27
 have E49_ := E48_.wr W31
 have F50_ := F6_.ext E8
 have F51_ := F50_.other W12 (Or.inl (Nat.ne_of_lt (Nat.lt_of_lt_of_le A4.lt (Nat.le_of_eq g8.symm))))
 have F52_ := F51_.other W17 (Or.inl (Nat.ne_of_lt (Nat.lt_of_lt_of_le A4.lt (Nat.le_of_eq g8.symm))))
 have F53_ := F52_.other W22 (Or.inl (Nat.ne_of_lt (Nat.lt_of_lt_of_le A4.lt (Nat.le_of_eq g8.symm))))
 have F54_ := F53_.other W27 (Or.inl (Nat.ne_of_lt (Nat.lt_of_lt_of_le A4.lt (Nat.le_of_eq g8.symm))))
 have F55_ := F54_.other W31 (Or.inl (Nat.ne_of_lt (Nat.lt_of_lt_of_le A4.lt (Nat.le_of_eq g8.symm))))
 have F56_ := F7_.ext E8
 have F57_ := F56_.other W12 (Or.inl (Nat.ne_of_lt (Nat.lt_of_lt_of_le A4.lt (Nat.le_of_eq g8.symm))))
 have F58_ := F57_.other W17 (Or.inl (Nat.ne_of_lt (Nat.lt_of_lt_of_le A4.lt (Nat.le_of_eq g8.symm))))
 have F59_ := F58_.other W22 (Or.inl (Nat.ne_of_lt (Nat.lt_of_lt_of_le A4.lt (Nat.le_of_eq g8.symm))))
 have F60_ := F59_.other W27 (Or.inl (Nat.ne_of_lt (Nat.lt_of_lt_of_le A4.lt (Nat.le_of_eq g8.symm))))
 have F61_ := F60_.other W31 (Or.inl (Nat.ne_of_lt (Nat.lt_of_lt_of_le A4.lt (Nat.le_of_eq g8.symm))))
 obtain ⟨_, T34, L34, X34, hQ34, st34⟩ := own_cb 2 9 1 5 3 14 (X31.specialBack hx (y := Y1_) rfl hown (mvT hZ (w8_ hw)) (mvT hZ (w9_ hw)) (mvT hZ (w10_ hw)) (by decide) (StrChars.Road.backV (W := 1) hZ (own_ws hw) (kI := 4) (w5_ hw) (cs := ([123, qi2, qi3, 42, 125] : List Int32)) (bs := ([123, qi2, qi3, 42, 125] : List Int32).map (fun c => c.toInt8.toInt32)) (n := 5) g_b4 (Nat.le_trans (Nat.le_of_eq O43.1.symm) O43.2.1) E49_ F55_ F61_ A33_ (O2.ext O43.2) P5 rfl rfl (lE rfl) (lE rfl) hp35 rfl (lE rfl) (lE rfl)) (g := (mkF m 100 #[iv qi1, iv qi2, iv qi3, iv qi4] [.ref b8, .ref b4, .ref b4])) rfl hml.symm (Steps.refl _) (a := b4) (argsL := [.ref b8]) (rest := [.ref b4]) (lenOf pd1 rfl) rfl (own_hw rfl) (hb hby d3_100) (fun _ _ => ⟨rfl, e31, (lE rfl : 2 + 1 ≤ _), (lE rfl : 9 + 5 ≤ _)⟩)) rfl rfl
 obtain ⟨rfl, N34q, K34q, E34q, C34q, b62, c62_, u62, g62, ne62, V62_, A62_⟩ := hQ34
 have N34 := Fr.app N31_ N34q
 have sz_b4 : h0.size ≤ b4 := (Nat.le_of_eq g4.symm)
 have K63 := K32.trans K34q (allS (Or.inr sz_b4) all0)
 have sz_b62 : h0.size ≤ b62 := Nat.le_trans K32.1 g62
 have E64_ := E49_.keep K34q
 refine own_lvF X34 Bd (.ref b4) rfl ⟨b4, b62, c62_, rfl, N34, K63, sz_b4, sz_b62, (Ne.symm ne62), E64_, C34q, V62_, A62_⟩ rfl (fun fs hr => pre0 _ (by
  show Sx p e below s₁ m 0 #[iv qi1, iv qi2, iv qi3, iv qi4] [] _
  refine zj X0 Bd d3_0 rfl ?_
  refine zp (pc' := 30) X0 Bd d3_1 (XT.i0_ne_t (hc1 : ¬ (qi1 = (0 : Int32)))) rfl ?_
  refine zj X0 Bd d3_30 rfl ?_
  refine zc X0 Bd d3_31 ?_
  refine zy (pc' := 65) X0 Bd d3_32 (XT.ii_ne_t (hc2 : ¬ (qi1 = (1 : Int32)))) rfl ?_
  refine zj X0 Bd d3_65 rfl ?_
  refine zc X0 Bd d3_66 ?_
  refine zn X0 Bd d3_67 (XT.ii_ne_f (hc3 : qi1 = (2 : Int32))) ?_
  refine st4 _ ?_
  refine XS.dup X4.here hx rfl (hb hby d3_73) rfl rfl ?_
  refine zc X4 Bd d3_74 ?_
  refine st8 _ ?_
  refine XS.dup X8.here hx rfl (hb hby d3_77) rfl rfl ?_
  refine zc X8 Bd d3_78 ?_
  refine zd X8 Bd d3_79 ?_
  refine st12 _ ?_
  refine XS.dup X12.here hx rfl (hb hby d3_82) rfl rfl ?_
  refine zc X12 Bd d3_83 ?_
  refine zj X12 Bd d3_84 rfl ?_
  refine st17 _ ?_
  refine XS.dup X17.here hx rfl (hb hby d3_86) rfl rfl ?_
  refine zc X17 Bd d3_87 ?_
  refine zj X17 Bd d3_88 rfl ?_
  refine st22 _ ?_
  refine XS.dup X22.here hx rfl (hb hby d3_90) rfl rfl ?_
  show Sx p e below T22 m 91 #[iv qi1, iv qi2, iv qi3, iv qi4] [.ref b8, .ref b8, .ref b4, .ref b4] _
  refine zc X22 Bd d3_91 ?_
  refine zd X22 Bd d3_92 ?_
  refine st27 _ ?_
  refine XS.dup X27.here hx rfl (hb hby d3_95) rfl rfl ?_
  refine zc X27 Bd d3_96 ?_
  refine zd X27 Bd d3_97 ?_
  refine st31 _ ?_
  refine st34.trans ?_
  exact retOut X34 hx Bd.returns rfl (Or.inr (Or.inr (Or.inr (Or.inr ⟨rfl, rfl, rfl⟩)))) (hb hby d3_103) hr))
-- java/lang/String.getBytes([BIB)V
def Q78 (Z : State) (qa2 : Addr) (qi5 : Int32) (qi6 : Int32) (qk7 : ClassId) (h0 : Heap) (n0 : Nat) (v : Option Value) (h : Heap) (L : List Loc) : Prop := v = none ∧ Fr n0 L ∧ Keep h0 h [qa2] ∧ Arv Z h qa2 qk7 .byte (16 : Int32) [.int 123, (.int ((qi5).toInt8.toInt32)), (.int ((qi6).toInt8.toInt32)), .int 0, .int 0, .int 0, .int 0, .int 0, .int 0, .int 0, .int 0, .int 0, .int 0, .int 0, .int 0, .int 0] (.int 0)
theorem rm78 (l : Launch) (Z : State) (a0 : Array Value) (hw : HW a0 Z) (G1 : Int32) (qa1 : Addr) (qa2 : Addr) (qa3 : Addr) (qk4 : ClassId) (qi5 : Int32) (qi6 : Int32) (qk7 : ClassId) (h0 : Heap) (n0 : Nat) (X00 : Old Z n0 h0) (O2 : Sta Z Z.heap "java/lang/String" "COMPACT_STRINGS" "Z" (.int G1)) (P5 : ¬ (G1 = (0 : Int32))) (E_qa1 : Exa Z h0 qa1 "java/lang/String") (F_qa1_coder : Fld Z h0 qa1 "java/lang/String" "coder" "B" (.int 0)) (F_qa1_value : Fld Z h0 qa1 "java/lang/String" "value" "[B" (.ref qa3)) (A_qa3 : Arv Z h0 qa3 qk4 .byte (2 : Int32) ((([qi5, qi6] : List Int32).map (fun c => c.toInt8.toInt32)).map Value.int) (.int 0)) (A_qa2 : Arv Z h0 qa2 qk7 .byte (16 : Int32) [.int 123, .int 0, .int 0, .int 0, .int 0, .int 0, .int 0, .int 0, .int 0, .int 0, .int 0, .int 0, .int 0, .int 0, .int 0, .int 0] (.int 0)) (g_qa2 : n0 ≤ qa2) :
    MF l Z Y26_ jdk_42_method_147_code 4 none (Rm 1 0 0 18) #[.ref qa1, .ref qa2, .int 1, .int 0] h0 (Q78 Z qa2 qi5 qi6 qk7 h0 n0) := by
 refine own_sF pn1 rfl (fun m => ef14 m qa1 qa2 (1 : Int32) (0 : Int32)) ?_
 intro p e s m below meth c s₁ Bd hZ hh hx hby hml hown hnm X0 e0 pre0
 have N0 := Fr.nil n0
 obtain ⟨_, T1, L1, X1, hQ1, st1⟩ := own_cV 0 0 [] 1 #[rv qa1, rv qa2, iv 1, iv 0] X0 hx hZ hown E_qa1 (w63_ hw) (w64_ hw) (notFace_of_selects (args := #[]) (mvT hZ (w66_ hw))) (w66_ hw) (w65_ hw) (w6_ hw) (w67_ hw) (rm24 l Z a0 hw G1 qa1 h0 n0 X00 O2 P5 F_qa1_coder) pd20 hml.symm (hb hby d28_1) e0 rfl rfl rfl rfl (by decide)
 obtain ⟨rfl, N1q, e1q⟩ := hQ1
 have N1 := Fr.app N0 N1q
 obtain ⟨T2, X2, e2, st2⟩ := getF X1 hx hZ hown (host := "") (Or.inl (w24_ hw)) Via.refl e1q F_qa1_value (g := (mkF m 9 #[rv qa1, rv qa2, iv 1, iv 0] [.ref qa1])) rfl rfl (hb hby d28_9)
 obtain ⟨T3, X3, e3, st3⟩ := getF X2 hx hZ hown (host := "") (Or.inl (w24_ hw)) Via.refl e2 F_qa1_value (g := (mkF m 18 #[rv qa1, rv qa2, iv 1, iv 0] [.ref qa1, .int 1, .ref qa2, .int 0, .ref qa3])) rfl rfl (hb hby d28_18)
 have av4 := A_qa3
 obtain ⟨cl4, Ar4, q4, S4, N4, H4, Gf4⟩ := av4
 obtain ⟨T5, h5, L5, X5, e5, N5, K5q, A5, st5⟩ := cpA X3 hx hZ hown (w211_ hw) (w214_ hw) (w212_ hw) (w213_ hw) e3 (vs := [(.int ((qi5).toInt8.toInt32)), (.int ((qi6).toInt8.toInt32))]) (vd := [.int 123, .int 0, .int 0, .int 0, .int 0, .int 0, .int 0, .int 0, .int 0, .int 0, .int 0, .int 0, .int 0, .int 0, .int 0, .int 0]) (us := [(.int ((qi5).toInt8.toInt32)), (.int ((qi6).toInt8.toInt32))]) A_qa3 A_qa2 (Or.inl ⟨rfl, rfl⟩) (by decide) (by decide) (by decide) (by decide) (by decide) rfl (lE rfl) N1 g_qa2 (g := (mkF m 22 #[rv qa1, rv qa2, iv 1, iv 0] [.int 2, .int 1, .ref qa2, .int 0, .ref qa3])) rfl hml.symm rfl (hb hby d28_22) (by decide) (W := 0) (own_hw rfl) (by decide)
 have K6 := (Keep.refl h0 [qa2]).trans K5q (allS (Or.inl (mI 0 rfl)) all0)
 have A7_ : Arv Z h5 qa2 qk7 .byte (16 : Int32) [.int 123, (.int ((qi5).toInt8.toInt32)), (.int ((qi6).toInt8.toInt32)), .int 0, .int 0, .int 0, .int 0, .int 0, .int 0, .int 0, .int 0, .int 0, .int 0, .int 0, .int 0, .int 0] (.int 0) := A5
 refine own_lvN X5 Bd e5 ⟨rfl, N5, K6, A7_⟩ rfl (fun fs hr => pre0 _ (by
  show Sx p e below s₁ m 0 #[rv qa1, rv qa2, iv 1, iv 0] [] _
  refine zb X0 Bd d28_0 rfl rfl ?_
  refine st1 _ ?_
  refine zj X1 Bd d28_4 rfl ?_
  refine zn X1 Bd d28_5 (XT.ii_ne_f ((by decide) : (0 : Int32) = (0 : Int32))) ?_
  refine zb X1 Bd d28_8 rfl rfl ?_
  refine st2 _ ?_
  refine zc X2 Bd d28_12 ?_
  refine zb X2 Bd d28_13 rfl rfl ?_
  refine zj X2 Bd d28_14 rfl ?_
  refine zj X2 Bd d28_15 rfl ?_
  refine XS.ishl X2.here hx rfl (hb hby d28_16) rfl ?_
  refine zb X2 Bd d28_17 rfl rfl ?_
  refine st3 _ ?_
  refine X3.arraylength hx (by rw [e3]; exact Ar4.1) (State.isArrayOf_alike hZ.alike Ar4.2.1) (g := (mkF m 21 #[rv qa1, rv qa2, iv 1, iv 0] [.ref qa3, .int 1, .ref qa2, .int 0, .ref qa3])) rfl rfl (hb hby d28_21) _ ?_
  rw [len_of S4 N4]
  refine st5 _ ?_
  refine zg (pc' := 43) X5 Bd d28_25 rfl ?_
  exact X5.returnOut hx Bd.returns (hb hby d28_43) hr))
-- java/lang/AbstractStringBuilder.putStringAt(ILjava/lang/String;)V
def Q79 (Z : State) (qa3 : Addr) (qi6 : Int32) (qi7 : Int32) (qk8 : ClassId) (h0 : Heap) (n0 : Nat) (v : Option Value) (h : Heap) (L : List Loc) : Prop := v = none ∧ Fr n0 L ∧ Keep h0 h [qa3] ∧ Arv Z h qa3 qk8 .byte (16 : Int32) [.int 123, (.int ((qi6).toInt8.toInt32)), (.int ((qi7).toInt8.toInt32)), .int 0, .int 0, .int 0, .int 0, .int 0, .int 0, .int 0, .int 0, .int 0, .int 0, .int 0, .int 0, .int 0] (.int 0)
theorem rm79 (l : Launch) (Z : State) (a0 : Array Value) (hw : HW a0 Z) (G1 : Int32) (qa1 : Addr) (qa2 : Addr) (qa3 : Addr) (qa4 : Addr) (qk5 : ClassId) (qi6 : Int32) (qi7 : Int32) (qk8 : ClassId) (h0 : Heap) (n0 : Nat) (X00 : Old Z n0 h0) (O2 : Sta Z Z.heap "java/lang/String" "COMPACT_STRINGS" "Z" (.int G1)) (P5 : ¬ (G1 = (0 : Int32))) (F_qa1_coder : Fld Z h0 qa1 "java/lang/AbstractStringBuilder" "coder" "B" (.int 0)) (E_qa2 : Exa Z h0 qa2 "java/lang/String") (F_qa2_coder : Fld Z h0 qa2 "java/lang/String" "coder" "B" (.int 0)) (E_qa1 : Exa Z h0 qa1 "java/lang/StringBuilder") (F_qa1_value : Fld Z h0 qa1 "java/lang/AbstractStringBuilder" "value" "[B" (.ref qa3)) (F_qa2_value : Fld Z h0 qa2 "java/lang/String" "value" "[B" (.ref qa4)) (A_qa4 : Arv Z h0 qa4 qk5 .byte (2 : Int32) ((([qi6, qi7] : List Int32).map (fun c => c.toInt8.toInt32)).map Value.int) (.int 0)) (A_qa3 : Arv Z h0 qa3 qk8 .byte (16 : Int32) [.int 123, .int 0, .int 0, .int 0, .int 0, .int 0, .int 0, .int 0, .int 0, .int 0, .int 0, .int 0, .int 0, .int 0, .int 0, .int 0] (.int 0)) (g_qa3 : n0 ≤ qa3) :
    MF l Z Y27_ jdk_68_method_73_code 3 none (Rm 2 0 0 33) #[.ref qa1, .int 1, .ref qa2] h0 (Q79 Z qa3 qi6 qi7 qk8 h0 n0) := by
 refine own_sF pn7 rfl (fun m => ef13 m qa1 (1 : Int32) qa2) ?_
 intro p e s m below meth c s₁ Bd hZ hh hx hby hml hown hnm X0 e0 pre0
 have N0 := Fr.nil n0
 obtain ⟨cq1, q1, q1'⟩ := E_qa1.cell
 obtain ⟨_, T1, L1, X1, hQ1, st1⟩ := own_cb 0 0 0 0 0 0 (X0.privateBack hx (y := Y25_) hown (mvT hZ (w200_ hw)) (mvT hZ (w201_ hw)) (own_selP (mvT hZ (w203_ hw)) (Cond.privateMethod_at (mvP hZ (w202_ hw) (args := #[]))) (mvT hZ (w201_ hw)) (by decide)) (Cond.privateMethod_at (mvP hZ (w202_ hw) (args := #[]))) (mvT hZ (w204_ hw)) (by decide) (backOf (W := 0) (rm25 l Z a0 hw G1 qa1 qa2 h0 n0 X00 O2 P5 F_qa1_coder E_qa2 F_qa2_coder) hZ (w204_ hw) (w168_ hw) (lE rfl) (lE rfl)) (g := (mkF m 2 #[rv qa1, iv 1, rv qa2] [.ref qa2, .ref qa1])) rfl hml.symm (Steps.refl _) (a := qa1) (by rw [e0]; exact q1) q1' (argsL := [.ref qa2]) (rest := []) (lenOf pd21 rfl) rfl (own_hw rfl) (hb hby d25_2) (fun _ _ => ⟨rfl, e0, (lE rfl : 0 + 0 ≤ _), (lE rfl : 0 + 0 ≤ _)⟩)) rfl rfl
 obtain ⟨rfl, N1q, e1q⟩ := hQ1
 have N1 := Fr.app N0 N1q
 obtain ⟨T2, X2, e2, st2⟩ := getF X1 hx hZ hown (host := "") (Or.inl (w172_ hw)) Via.refl e1q F_qa1_value (g := (mkF m 7 #[rv qa1, iv 1, rv qa2] [.ref qa1, .ref qa2])) rfl rfl (hb hby d25_7)
 obtain ⟨T3, X3, e3, st3⟩ := getF X2 hx hZ hown (host := "") (Or.inl (w174_ hw)) Via.refl e2 F_qa1_coder (g := (mkF m 12 #[rv qa1, iv 1, rv qa2] [.ref qa1, .int 1, .ref qa3, .ref qa2])) rfl rfl (hb hby d25_12)
 obtain ⟨_, T4, L4, X4, hQ4, st4⟩ := own_cV 0 0 [] 15 #[rv qa1, iv 1, rv qa2] X3 hx hZ hown E_qa2 (w206_ hw) (w207_ hw) (notFace_of_selects (args := #[]) (mvT hZ (w209_ hw))) (w209_ hw) (w208_ hw) (w6_ hw) (w210_ hw) (rm78 l Z a0 hw G1 qa2 qa3 qa4 qk5 qi6 qi7 qk8 h0 n0 X00 O2 P5 E_qa2 F_qa2_coder F_qa2_value A_qa4 A_qa3 g_qa3) pd22 hml.symm (hb hby d25_15) e3 rfl rfl rfl rfl (by decide)
 obtain ⟨rfl, N4q, K4q, w5⟩ := hQ4
 have N4 := Fr.app N1 N4q
 have K6 := (Keep.refl h0 [qa3]).trans K4q (allS (Or.inl (mI 0 rfl)) all0)
 refine own_lvN X4 Bd rfl ⟨rfl, N4, K6, w5⟩ rfl (fun fs hr => pre0 _ (by
  show Sx p e below s₁ m 0 #[rv qa1, iv 1, rv qa2] [] _
  refine zb X0 Bd d25_0 rfl rfl ?_
  refine zb X0 Bd d25_1 rfl rfl ?_
  refine st1.trans ?_
  refine zb X1 Bd d25_5 rfl rfl ?_
  refine zb X1 Bd d25_6 rfl rfl ?_
  refine st2 _ ?_
  refine zj X2 Bd d25_10 rfl ?_
  refine zb X2 Bd d25_11 rfl rfl ?_
  refine st3 _ ?_
  refine st4 _ ?_
  exact X4.returnOut hx Bd.returns (hb hby d25_18) hr))
-- java/lang/AbstractStringBuilder.append(Ljava/lang/String;)Ljava/lang/AbstractStringBuilder;
def Q80 (Z : State) (qa1 : Addr) (qi4 : Int32) (qi5 : Int32) (qa7 : Addr) (qk8 : ClassId) (h0 : Heap) (n0 : Nat) (v : Option Value) (h : Heap) (L : List Loc) : Prop := v = some (.ref qa1) ∧ Fr n0 L ∧ Keep h0 h [qa7, qa1] ∧ Fld Z h qa1 "java/lang/AbstractStringBuilder" "count" "I" (.int 3) ∧ Fld Z h qa1 "java/lang/AbstractStringBuilder" "value" "[B" (.ref qa7) ∧ Fld Z h qa1 "java/lang/AbstractStringBuilder" "coder" "B" (.int 0) ∧ Exa Z h qa1 "java/lang/StringBuilder" ∧ Arv Z h qa7 qk8 .byte (16 : Int32) [.int 123, (.int ((qi4).toInt8.toInt32)), (.int ((qi5).toInt8.toInt32)), .int 0, .int 0, .int 0, .int 0, .int 0, .int 0, .int 0, .int 0, .int 0, .int 0, .int 0, .int 0, .int 0] (.int 0)
theorem rm80 (l : Launch) (Z : State) (a0 : Array Value) (hw : HW a0 Z) (G1 : Int32) (qa1 : Addr) (qa2 : Addr) (qa3 : Addr) (qi4 : Int32) (qi5 : Int32) (qk6 : ClassId) (qa7 : Addr) (qk8 : ClassId) (h0 : Heap) (n0 : Nat) (X00 : Old Z n0 h0) (O2 : Sta Z Z.heap "java/lang/String" "COMPACT_STRINGS" "Z" (.int G1)) (P5 : ¬ (G1 = (0 : Int32))) (E_qa2 : Exa Z h0 qa2 "java/lang/String") (F_qa2_coder : Fld Z h0 qa2 "java/lang/String" "coder" "B" (.int 0)) (F_qa2_value : Fld Z h0 qa2 "java/lang/String" "value" "[B" (.ref qa3)) (hp_qa2 : ∀ c ∈ ([qi4, qi5] : List Int32), ¬ c < 0 ∧ ¬ (255 : Int32) < c) (A_qa3 : Arv Z h0 qa3 qk6 .byte (2 : Int32) ((([qi4, qi5] : List Int32).map (fun c => c.toInt8.toInt32)).map Value.int) (.int 0)) (F_qa1_count : Fld Z h0 qa1 "java/lang/AbstractStringBuilder" "count" "I" (.int 1)) (F_qa1_value : Fld Z h0 qa1 "java/lang/AbstractStringBuilder" "value" "[B" (.ref qa7)) (A_qa7 : Arv Z h0 qa7 qk8 .byte (16 : Int32) [.int 123, .int 0, .int 0, .int 0, .int 0, .int 0, .int 0, .int 0, .int 0, .int 0, .int 0, .int 0, .int 0, .int 0, .int 0, .int 0] (.int 0)) (F_qa1_coder : Fld Z h0 qa1 "java/lang/AbstractStringBuilder" "coder" "B" (.int 0)) (E_qa1 : Exa Z h0 qa1 "java/lang/StringBuilder") (g_qa7 : n0 ≤ qa7) (ne_qa1_qa7 : qa1 ≠ qa7) (g_qa1 : n0 ≤ qa1) :
    MF l Z Y28_ jdk_68_method_22_code 3 (some (.object "java/lang/AbstractStringBuilder")) (Rm 3 0 0 47) #[.ref qa1, .ref qa2] h0 (Q80 Z qa1 qi4 qi5 qa7 qk8 h0 n0) := by
 refine own_sF pn7 rfl (fun m => ef10 m qa1 qa2) ?_
 intro p e s m below meth c s₁ Bd hZ hh hx hby hml hown hnm X0 e0 pre0
 have N0 := Fr.nil n0
 have hcd2 : StrChars.Road.CodA ([qi4, qi5] : List Int32) 0 (2 : Int32) ((([qi4, qi5] : List Int32).map (fun c => c.toInt8.toInt32)).map Value.int) := StrChars.Road.codOf (n := 2) rfl (fun x hx => (hp_qa2 x hx).2)
 have hbd2 : ∀ x ∈ ([qi4, qi5] : List Int32), ¬ x < 0 ∧ ¬ (65535 : Int32) < x := own_up _ hp_qa2
 obtain ⟨cq1, kq1, q1a, q1b, q1c⟩ := isOf hZ e0 E_qa2
 obtain ⟨_, T1, L1, X1, hQ1, st1⟩ := own_cb0 0 0 0 0 0 0 (X0.virtualBack hx (y := Y10_) (z := Y10_) hown (mvT hZ (w187_ hw)) (mvT hZ (w59_ hw)) (notFace_of_selects (args := #[]) (mvT hZ (w61_ hw))) (mvT hZ (w61_ hw)) (mvT hZ (w60_ hw)) (by decide) (StrChars.Road.lenW (W := 0) hZ (own_wl hw) (kI := 4) (w5_ hw) E_qa2 F_qa2_value F_qa2_coder A_qa3 hcd2 hbd2 (O2.ext X00.2) P5 (lE rfl) (lE rfl) (lE rfl)) q1a q1c (g := (mkF m 10 #[rv qa1, rv qa2, .unset] [.ref qa2])) rfl hml.symm (Steps.refl _) (argsL := []) (rest := []) (lenOf pd7 rfl) rfl (own_hw rfl) (hb hby d23_10) (fun _ _ => ⟨rfl, e0, (lE rfl : 0 + 0 ≤ _), (lE rfl : 0 + 0 ≤ _)⟩)) rfl rfl
 dsimp only [Pt.U, Pt.locs, Pt.cells, Pt.slots] at hQ1
 obtain ⟨rfl, rfl, e1q⟩ := hQ1
 have N1 := Fr.app N0 (Fr.nil n0)
 obtain ⟨T3, X3, e3, st3⟩ := getF X1 hx hZ hown (host := "") (Or.inl (w188_ hw)) Via.refl e1q F_qa1_count (g := (mkF m 16 #[rv qa1, rv qa2, iv 2] [.ref qa1, .ref qa1])) rfl rfl (hb hby d23_16)
 obtain ⟨cq4, q4, q4'⟩ := E_qa1.cell
 obtain ⟨_, T4, L4, X4, hQ4, st4⟩ := own_cb 0 0 0 0 0 0 (X3.privateBack hx (y := Y23_) hown (mvT hZ (w190_ hw)) (mvT hZ (w191_ hw)) (own_selP (mvT hZ (w193_ hw)) (Cond.privateMethod_at (mvP hZ (w192_ hw) (args := #[]))) (mvT hZ (w191_ hw)) (by decide)) (Cond.privateMethod_at (mvP hZ (w192_ hw) (args := #[]))) (mvT hZ (w194_ hw)) (by decide) (backOf (W := 0) (rm35 l Z a0 hw  qa1 qa7 qk8 h0 n0 X00 F_qa1_value A_qa7 F_qa1_coder) hZ (w194_ hw) (w168_ hw) (lE rfl) (lE rfl)) (g := (mkF m 21 #[rv qa1, rv qa2, iv 2] [.int 3, .ref qa1])) rfl hml.symm (Steps.refl _) (a := qa1) (by rw [e3]; exact q4) q4' (argsL := [.int 3]) (rest := []) (lenOf pd18 rfl) rfl (own_hw rfl) (hb hby d23_21) (fun _ _ => ⟨rfl, e3, (lE rfl : 0 + 0 ≤ _), (lE rfl : 0 + 0 ≤ _)⟩)) rfl rfl
 obtain ⟨rfl, N4q, e4q⟩ := hQ4
 have N4 := Fr.app N1 N4q
 obtain ⟨T5, X5, e5, st5⟩ := getF X4 hx hZ hown (host := "") (Or.inl (w188_ hw)) Via.refl e4q F_qa1_count (g := (mkF m 26 #[rv qa1, rv qa2, iv 2] [.ref qa1, .ref qa1])) rfl rfl (hb hby d23_26)
 obtain ⟨cq6, q6, q6'⟩ := E_qa1.cell
 obtain ⟨_, T6, L6, X6, hQ6, st6⟩ := own_cb 0 0 0 0 0 0 (X5.privateBack hx (y := Y27_) hown (mvT hZ (w195_ hw)) (mvT hZ (w196_ hw)) (own_selP (mvT hZ (w198_ hw)) (Cond.privateMethod_at (mvP hZ (w197_ hw) (args := #[]))) (mvT hZ (w196_ hw)) (by decide)) (Cond.privateMethod_at (mvP hZ (w197_ hw) (args := #[]))) (mvT hZ (w199_ hw)) (by decide) (backOf (W := 0) (rm79 l Z a0 hw G1 qa1 qa2 qa7 qa3 qk6 qi4 qi5 qk8 h0 n0 X00 O2 P5 F_qa1_coder E_qa2 F_qa2_coder E_qa1 F_qa1_value F_qa2_value A_qa3 A_qa7 g_qa7) hZ (w199_ hw) (w168_ hw) (lE rfl) (lE rfl)) (g := (mkF m 30 #[rv qa1, rv qa2, iv 2] [.ref qa2, .int 1, .ref qa1])) rfl hml.symm (Steps.refl _) (a := qa1) (by rw [e5]; exact q6) q6' (argsL := [.int 1, .ref qa2]) (rest := []) (lenOf pd23 rfl) rfl (own_hw rfl) (hb hby d23_30) (fun _ _ => ⟨rfl, e5, (lE rfl : 0 + 0 ≤ _), (lE rfl : 0 + 0 ≤ _)⟩)) rfl rfl
 obtain ⟨rfl, N6q, K6q, w7⟩ := hQ6
 have N6 := Fr.app N4 N6q
 have K8 := (Keep.refl h0 [qa7, qa1]).trans K6q (allS (Or.inl (mI 0 rfl)) all0)
 have F10_ := F_qa1_count.keep K6q (ninS ne_qa1_qa7 nin0)
 obtain ⟨T9, X9, e9, st9⟩ := getF X6 hx hZ hown (host := "") (Or.inl (w188_ hw)) Via.refl rfl F10_ (g := (mkF m 35 #[rv qa1, rv qa2, iv 2] [.ref qa1, .ref qa1])) rfl rfl (hb hby d23_35)
 have E11_ := E_qa1.keep K6q
 obtain ⟨T12, h12, X12, e12, W12, st12⟩ := putF X9 hx hZ hown (host := "") (Or.inl (w188_ hw)) Via.refl e9 F10_ E11_ (Or.inl (w189_ hw)) (w159_ hw) (ty := .int) (by decide) rfl rfl (g := (mkF m 40 #[rv qa1, rv qa2, iv 2] [.int 3, .ref qa1])) rfl rfl (hb hby d23_40)
 have N12 := Fr.snoc X12 N6 g_qa1
 have K13 := K8.wr W12 (Or.inl (mI 1 rfl))
 have F14_ : Fld Z h12 qa1 "java/lang/AbstractStringBuilder" "count" "I" (.int 3) := F10_.same W12
 have F15_ := F_qa1_value.keep K6q (ninS ne_qa1_qa7 nin0)
 have F16_ := F15_.other W12 (Or.inr (slot_ne (Or.inl (w173_ hw)) (Or.inl (w189_ hw)) (by decide) (t := (.array .byte)) (t' := .int) (by decide) (by decide)))
 have F17_ := F_qa1_coder.keep K6q (ninS ne_qa1_qa7 nin0)
 have F18_ := F17_.other W12 (Or.inr (slot_ne (Or.inl (w175_ hw)) (Or.inl (w189_ hw)) (by decide) (t := .byte) (t' := .int) (by decide) (by decide)))
 have E19_ := E11_.wr W12
 have A20_ := w7.other W12 (Ne.symm ne_qa1_qa7)
 refine own_lvF X12 Bd (.ref qa1) e12 ⟨rfl, N12, K13, F14_, F16_, F18_, E19_, A20_⟩ rfl (fun fs hr => pre0 _ (by
  show Sx p e below s₁ m 0 #[rv qa1, rv qa2, .unset] [] _
  refine zb X0 Bd d23_0 rfl rfl ?_
  refine XS.ifnonnullYes X0.here hx rfl (pc0 := 1) (pc' := 9) rfl (hb hby d23_1) rfl (by decide) (by decide) ?_
  refine zb X0 Bd d23_9 rfl rfl ?_
  refine st1.trans ?_
  refine zt X1 Bd d23_13 (l' := #[rv qa1, rv qa2, iv 2]) rfl ?_
  refine zb X1 Bd d23_14 rfl rfl ?_
  refine zb X1 Bd d23_15 rfl rfl ?_
  refine st3 _ ?_
  refine zj X3 Bd d23_19 rfl ?_
  refine XS.iadd X3.here hx rfl (hb hby d23_20) rfl ?_
  refine st4.trans ?_
  refine zb X4 Bd d23_24 rfl rfl ?_
  refine zb X4 Bd d23_25 rfl rfl ?_
  refine st5 _ ?_
  refine zb X5 Bd d23_29 rfl rfl ?_
  refine st6.trans ?_
  refine zb X6 Bd d23_33 rfl rfl ?_
  refine XS.dup X6.here hx rfl (hb hby d23_34) rfl rfl ?_
  refine st9 _ ?_
  refine zj X9 Bd d23_38 rfl ?_
  refine XS.iadd X9.here hx rfl (hb hby d23_39) rfl ?_
  refine st12 _ ?_
  refine zb X12 Bd d23_43 rfl rfl ?_
  exact retOut X12 hx Bd.returns rfl (Or.inr (Or.inr (Or.inr (Or.inr ⟨rfl, rfl, rfl⟩)))) (hb hby d23_44) hr))
-- java/lang/StringBuilder.append(Ljava/lang/String;)Ljava/lang/StringBuilder;
def Q81 (Z : State) (qa1 : Addr) (qi4 : Int32) (qi5 : Int32) (qa7 : Addr) (qk8 : ClassId) (h0 : Heap) (n0 : Nat) (v : Option Value) (h : Heap) (L : List Loc) : Prop := v = some (.ref qa1) ∧ Fr n0 L ∧ Keep h0 h [qa1, qa7] ∧ Exa Z h qa1 "java/lang/StringBuilder" ∧ Fld Z h qa1 "java/lang/AbstractStringBuilder" "count" "I" (.int 3) ∧ Fld Z h qa1 "java/lang/AbstractStringBuilder" "value" "[B" (.ref qa7) ∧ Fld Z h qa1 "java/lang/AbstractStringBuilder" "coder" "B" (.int 0) ∧ Arv Z h qa7 qk8 .byte (16 : Int32) [.int 123, (.int ((qi4).toInt8.toInt32)), (.int ((qi5).toInt8.toInt32)), .int 0, .int 0, .int 0, .int 0, .int 0, .int 0, .int 0, .int 0, .int 0, .int 0, .int 0, .int 0, .int 0] (.int 0)
theorem rm81 (l : Launch) (Z : State) (a0 : Array Value) (hw : HW a0 Z) (G1 : Int32) (qa1 : Addr) (qa2 : Addr) (qa3 : Addr) (qi4 : Int32) (qi5 : Int32) (qk6 : ClassId) (qa7 : Addr) (qk8 : ClassId) (h0 : Heap) (n0 : Nat) (X00 : Old Z n0 h0) (O2 : Sta Z Z.heap "java/lang/String" "COMPACT_STRINGS" "Z" (.int G1)) (P5 : ¬ (G1 = (0 : Int32))) (E_qa2 : Exa Z h0 qa2 "java/lang/String") (F_qa2_coder : Fld Z h0 qa2 "java/lang/String" "coder" "B" (.int 0)) (F_qa2_value : Fld Z h0 qa2 "java/lang/String" "value" "[B" (.ref qa3)) (hp_qa2 : ∀ c ∈ ([qi4, qi5] : List Int32), ¬ c < 0 ∧ ¬ (255 : Int32) < c) (A_qa3 : Arv Z h0 qa3 qk6 .byte (2 : Int32) ((([qi4, qi5] : List Int32).map (fun c => c.toInt8.toInt32)).map Value.int) (.int 0)) (F_qa1_count : Fld Z h0 qa1 "java/lang/AbstractStringBuilder" "count" "I" (.int 1)) (F_qa1_value : Fld Z h0 qa1 "java/lang/AbstractStringBuilder" "value" "[B" (.ref qa7)) (A_qa7 : Arv Z h0 qa7 qk8 .byte (16 : Int32) [.int 123, .int 0, .int 0, .int 0, .int 0, .int 0, .int 0, .int 0, .int 0, .int 0, .int 0, .int 0, .int 0, .int 0, .int 0, .int 0] (.int 0)) (F_qa1_coder : Fld Z h0 qa1 "java/lang/AbstractStringBuilder" "coder" "B" (.int 0)) (E_qa1 : Exa Z h0 qa1 "java/lang/StringBuilder") (g_qa7 : n0 ≤ qa7) (ne_qa1_qa7 : qa1 ≠ qa7) (g_qa1 : n0 ≤ qa1) :
    MF l Z Y29_ jdk_67_method_7_code 2 (some (.object "java/lang/StringBuilder")) (Rm 4 0 0 61) #[.ref qa1, .ref qa2] h0 (Q81 Z qa1 qi4 qi5 qa7 qk8 h0 n0) := by
 refine own_sF pn6 rfl (fun m => ef2 m qa1 qa2) ?_
 intro p e s m below meth c s₁ Bd hZ hh hx hby hml hown hnm X0 e0 pre0
 have N0 := Fr.nil n0
 obtain ⟨_, T1, L1, X1, hQ1, st1⟩ := own_cb 0 0 0 0 0 0 (superBack X0 hx hZ (y := Y28_) hown (w182_ hw) (own_same (w183_ hw) (w193_ hw) rfl (by decide)) (w183_ hw) (w184_ hw) (by decide) (backOf (W := 0) (rm80 l Z a0 hw G1 qa1 qa2 qa3 qi4 qi5 qk6 qa7 qk8 h0 n0 X00 O2 P5 E_qa2 F_qa2_coder F_qa2_value hp_qa2 A_qa3 F_qa1_count F_qa1_value A_qa7 F_qa1_coder E_qa1 g_qa7 ne_qa1_qa7 g_qa1) hZ (w186_ hw) (w168_ hw) (lE rfl) (lE rfl)) e0 (Ins.self E_qa1) (g := (mkF m 2 #[rv qa1, rv qa2] [.ref qa2, .ref qa1])) rfl hml.symm (w186_ hw) (argsL := [.ref qa2]) (rest := []) (lenOf pd24 rfl) rfl (own_hw rfl) (hb hby d22_2) (fun _ _ => ⟨rfl, e0, (lE rfl : 0 + 0 ≤ _), (lE rfl : 0 + 0 ≤ _)⟩)) rfl rfl
 obtain ⟨rfl, N1q, K1q, w2, w3, w4, w5, w6⟩ := hQ1
 have N1 := Fr.app N0 N1q
 have K7 := (Keep.refl h0 [qa1, qa7]).trans K1q (allS (Or.inl (mI 1 rfl)) (allS (Or.inl (mI 0 rfl)) all0))
 have E8_ := E_qa1.keep K1q
 refine own_lvF X1 Bd (.ref qa1) rfl ⟨rfl, N1, K7, E8_, w2, w3, w4, w6⟩ rfl (fun fs hr => pre0 _ (by
  show Sx p e below s₁ m 0 #[rv qa1, rv qa2] [] _
  refine zb X0 Bd d22_0 rfl rfl ?_
  refine zb X0 Bd d22_1 rfl rfl ?_
  refine st1.trans ?_
  refine XS.pop X1.here hx rfl (hb hby d22_5) rfl rfl ?_
  refine zb X1 Bd d22_6 rfl rfl ?_
  exact retOut X1 hx Bd.returns rfl (Or.inr (Or.inr (Or.inr (Or.inr ⟨rfl, rfl, rfl⟩)))) (hb hby d22_7) hr))
-- java/lang/AbstractStringBuilder.ensureCapacityInternal(I)V
def Q82 (Z : State)  (h0 : Heap) (n0 : Nat) (v : Option Value) (h : Heap) (L : List Loc) : Prop := v = none ∧ Fr n0 L ∧ h = h0
theorem rm82 (l : Launch) (Z : State) (a0 : Array Value) (hw : HW a0 Z) (qa1 : Addr) (qa2 : Addr) (qk3 : ClassId) (qi4 : Int32) (qi5 : Int32) (h0 : Heap) (n0 : Nat) (X00 : Old Z n0 h0) (F_qa1_value : Fld Z h0 qa1 "java/lang/AbstractStringBuilder" "value" "[B" (.ref qa2)) (A_qa2 : Arv Z h0 qa2 qk3 .byte (16 : Int32) [.int 123, .int qi4, .int qi5, .int 0, .int 0, .int 0, .int 0, .int 0, .int 0, .int 0, .int 0, .int 0, .int 0, .int 0, .int 0, .int 0] (.int 0)) (F_qa1_coder : Fld Z h0 qa1 "java/lang/AbstractStringBuilder" "coder" "B" (.int 0)) :
    MF l Z Y23_ jdk_68_method_9_code 3 none (Rm 0 0 0 0) #[.ref qa1, .int 5] h0 (Q82 Z  h0 n0) := by
 refine own_sF pn7 rfl (fun m => ef12 m qa1 (5 : Int32)) ?_
 intro p e s m below meth c s₁ Bd hZ hh hx hby hml hown hnm X0 e0 pre0
 have N0 := Fr.nil n0
 obtain ⟨T1, X1, e1, st1⟩ := getF X0 hx hZ hown (host := "") (Or.inl (w172_ hw)) Via.refl e0 F_qa1_value (g := (mkF m 1 #[rv qa1, iv 5, .unset] [.ref qa1])) rfl rfl (hb hby d24_1)
 have av2 := A_qa2
 obtain ⟨cl2, Ar2, q2, S2, N2, H2, Gf2⟩ := av2
 obtain ⟨T3, X3, e3, st3⟩ := getF X1 hx hZ hown (host := "") (Or.inl (w174_ hw)) Via.refl e1 F_qa1_coder (g := (mkF m 6 #[rv qa1, iv 5, .unset] [.ref qa1, .int 16])) rfl rfl (hb hby d24_6)
 refine own_lvN X3 Bd e3 ⟨rfl, N0, rfl⟩ rfl (fun fs hr => pre0 _ (by
  show Sx p e below s₁ m 0 #[rv qa1, iv 5, .unset] [] _
  refine zb X0 Bd d24_0 rfl rfl ?_
  refine st1 _ ?_
  refine X1.arraylength hx (by rw [e1]; exact Ar2.1) (State.isArrayOf_alike hZ.alike Ar2.2.1) (g := (mkF m 4 #[rv qa1, iv 5, .unset] [.ref qa2])) rfl rfl (hb hby d24_4) _ ?_
  rw [len_of S2 N2]
  refine zb X1 Bd d24_5 rfl rfl ?_
  refine st3 _ ?_
  refine XS.ishr X3.here hx rfl (hb hby d24_9) rfl ?_
  refine zt X3 Bd d24_10 (l' := #[rv qa1, iv 5, iv 16]) rfl ?_
  refine zj X3 Bd d24_11 rfl ?_
  refine zj X3 Bd d24_12 rfl ?_
  refine XS.isub X3.here hx rfl (hb hby d24_13) rfl ?_
  refine zp (pc' := 38) X3 Bd d24_14 (XT.i0_le_t ((by decide) : ¬ ((0 : Int32) < (-11 : Int32)))) rfl ?_
  exact X3.returnOut hx Bd.returns (hb hby d24_38) hr))
-- java/lang/String.getBytes([BIB)V
def Q83 (Z : State) (qa2 : Addr) (qk5 : ClassId) (qi6 : Int32) (qi7 : Int32) (h0 : Heap) (n0 : Nat) (v : Option Value) (h : Heap) (L : List Loc) : Prop := v = none ∧ Fr n0 L ∧ Keep h0 h [qa2] ∧ Arv Z h qa2 qk5 .byte (16 : Int32) [.int 123, .int qi6, .int qi7, .int 42, .int 125, .int 0, .int 0, .int 0, .int 0, .int 0, .int 0, .int 0, .int 0, .int 0, .int 0, .int 0] (.int 0)
theorem rm83 (l : Launch) (Z : State) (a0 : Array Value) (hw : HW a0 Z) (G1 : Int32) (qa1 : Addr) (qa2 : Addr) (qa3 : Addr) (qk4 : ClassId) (qk5 : ClassId) (qi6 : Int32) (qi7 : Int32) (h0 : Heap) (n0 : Nat) (X00 : Old Z n0 h0) (O2 : Sta Z Z.heap "java/lang/String" "COMPACT_STRINGS" "Z" (.int G1)) (P5 : ¬ (G1 = (0 : Int32))) (E_qa1 : Exa Z h0 qa1 "java/lang/String") (F_qa1_coder : Fld Z h0 qa1 "java/lang/String" "coder" "B" (.int 0)) (F_qa1_value : Fld Z h0 qa1 "java/lang/String" "value" "[B" (.ref qa3)) (A_qa3 : Arv Z h0 qa3 qk4 .byte (2 : Int32) [.int 42, .int 125] (.int 0)) (A_qa2 : Arv Z h0 qa2 qk5 .byte (16 : Int32) [.int 123, .int qi6, .int qi7, .int 0, .int 0, .int 0, .int 0, .int 0, .int 0, .int 0, .int 0, .int 0, .int 0, .int 0, .int 0, .int 0] (.int 0)) (g_qa2 : n0 ≤ qa2) :
    MF l Z Y26_ jdk_42_method_147_code 4 none (Rm 1 0 0 18) #[.ref qa1, .ref qa2, .int 3, .int 0] h0 (Q83 Z qa2 qk5 qi6 qi7 h0 n0) := by
 refine own_sF pn1 rfl (fun m => ef14 m qa1 qa2 (3 : Int32) (0 : Int32)) ?_
 intro p e s m below meth c s₁ Bd hZ hh hx hby hml hown hnm X0 e0 pre0
 have N0 := Fr.nil n0
 obtain ⟨_, T1, L1, X1, hQ1, st1⟩ := own_cV 0 0 [] 1 #[rv qa1, rv qa2, iv 3, iv 0] X0 hx hZ hown E_qa1 (w63_ hw) (w64_ hw) (notFace_of_selects (args := #[]) (mvT hZ (w66_ hw))) (w66_ hw) (w65_ hw) (w6_ hw) (w67_ hw) (rm24 l Z a0 hw G1 qa1 h0 n0 X00 O2 P5 F_qa1_coder) pd20 hml.symm (hb hby d28_1) e0 rfl rfl rfl rfl (by decide)
 obtain ⟨rfl, N1q, e1q⟩ := hQ1
 have N1 := Fr.app N0 N1q
 obtain ⟨T2, X2, e2, st2⟩ := getF X1 hx hZ hown (host := "") (Or.inl (w24_ hw)) Via.refl e1q F_qa1_value (g := (mkF m 9 #[rv qa1, rv qa2, iv 3, iv 0] [.ref qa1])) rfl rfl (hb hby d28_9)
 obtain ⟨T3, X3, e3, st3⟩ := getF X2 hx hZ hown (host := "") (Or.inl (w24_ hw)) Via.refl e2 F_qa1_value (g := (mkF m 18 #[rv qa1, rv qa2, iv 3, iv 0] [.ref qa1, .int 3, .ref qa2, .int 0, .ref qa3])) rfl rfl (hb hby d28_18)
 have av4 := A_qa3
 obtain ⟨cl4, Ar4, q4, S4, N4, H4, Gf4⟩ := av4
 obtain ⟨T5, h5, L5, X5, e5, N5, K5q, A5, st5⟩ := cpA X3 hx hZ hown (w211_ hw) (w214_ hw) (w212_ hw) (w213_ hw) e3 (vs := [.int 42, .int 125]) (vd := [.int 123, .int qi6, .int qi7, .int 0, .int 0, .int 0, .int 0, .int 0, .int 0, .int 0, .int 0, .int 0, .int 0, .int 0, .int 0, .int 0]) (us := [.int 42, .int 125]) A_qa3 A_qa2 (Or.inl ⟨rfl, rfl⟩) (by decide) (by decide) (by decide) (by decide) (by decide) rfl (lE rfl) N1 g_qa2 (g := (mkF m 22 #[rv qa1, rv qa2, iv 3, iv 0] [.int 2, .int 3, .ref qa2, .int 0, .ref qa3])) rfl hml.symm rfl (hb hby d28_22) (by decide) (W := 0) (own_hw rfl) (by decide)
 have K6 := (Keep.refl h0 [qa2]).trans K5q (allS (Or.inl (mI 0 rfl)) all0)
 have A7_ : Arv Z h5 qa2 qk5 .byte (16 : Int32) [.int 123, .int qi6, .int qi7, .int 42, .int 125, .int 0, .int 0, .int 0, .int 0, .int 0, .int 0, .int 0, .int 0, .int 0, .int 0, .int 0] (.int 0) := A5
 refine own_lvN X5 Bd e5 ⟨rfl, N5, K6, A7_⟩ rfl (fun fs hr => pre0 _ (by
  show Sx p e below s₁ m 0 #[rv qa1, rv qa2, iv 3, iv 0] [] _
  refine zb X0 Bd d28_0 rfl rfl ?_
  refine st1 _ ?_
  refine zj X1 Bd d28_4 rfl ?_
  refine zn X1 Bd d28_5 (XT.ii_ne_f ((by decide) : (0 : Int32) = (0 : Int32))) ?_
  refine zb X1 Bd d28_8 rfl rfl ?_
  refine st2 _ ?_
  refine zc X2 Bd d28_12 ?_
  refine zb X2 Bd d28_13 rfl rfl ?_
  refine zj X2 Bd d28_14 rfl ?_
  refine zj X2 Bd d28_15 rfl ?_
  refine XS.ishl X2.here hx rfl (hb hby d28_16) rfl ?_
  refine zb X2 Bd d28_17 rfl rfl ?_
  refine st3 _ ?_
  refine X3.arraylength hx (by rw [e3]; exact Ar4.1) (State.isArrayOf_alike hZ.alike Ar4.2.1) (g := (mkF m 21 #[rv qa1, rv qa2, iv 3, iv 0] [.ref qa3, .int 3, .ref qa2, .int 0, .ref qa3])) rfl rfl (hb hby d28_21) _ ?_
  rw [len_of S4 N4]
  refine st5 _ ?_
  refine zg (pc' := 43) X5 Bd d28_25 rfl ?_
  exact X5.returnOut hx Bd.returns (hb hby d28_43) hr))
-- java/lang/AbstractStringBuilder.putStringAt(ILjava/lang/String;)V
def Q84 (Z : State) (qa3 : Addr) (qk6 : ClassId) (qi7 : Int32) (qi8 : Int32) (h0 : Heap) (n0 : Nat) (v : Option Value) (h : Heap) (L : List Loc) : Prop := v = none ∧ Fr n0 L ∧ Keep h0 h [qa3] ∧ Arv Z h qa3 qk6 .byte (16 : Int32) [.int 123, .int qi7, .int qi8, .int 42, .int 125, .int 0, .int 0, .int 0, .int 0, .int 0, .int 0, .int 0, .int 0, .int 0, .int 0, .int 0] (.int 0)
theorem rm84 (l : Launch) (Z : State) (a0 : Array Value) (hw : HW a0 Z) (G1 : Int32) (qa1 : Addr) (qa2 : Addr) (qa3 : Addr) (qa4 : Addr) (qk5 : ClassId) (qk6 : ClassId) (qi7 : Int32) (qi8 : Int32) (h0 : Heap) (n0 : Nat) (X00 : Old Z n0 h0) (O2 : Sta Z Z.heap "java/lang/String" "COMPACT_STRINGS" "Z" (.int G1)) (P5 : ¬ (G1 = (0 : Int32))) (F_qa1_coder : Fld Z h0 qa1 "java/lang/AbstractStringBuilder" "coder" "B" (.int 0)) (E_qa2 : Exa Z h0 qa2 "java/lang/String") (F_qa2_coder : Fld Z h0 qa2 "java/lang/String" "coder" "B" (.int 0)) (E_qa1 : Exa Z h0 qa1 "java/lang/StringBuilder") (F_qa1_value : Fld Z h0 qa1 "java/lang/AbstractStringBuilder" "value" "[B" (.ref qa3)) (F_qa2_value : Fld Z h0 qa2 "java/lang/String" "value" "[B" (.ref qa4)) (A_qa4 : Arv Z h0 qa4 qk5 .byte (2 : Int32) [.int 42, .int 125] (.int 0)) (A_qa3 : Arv Z h0 qa3 qk6 .byte (16 : Int32) [.int 123, .int qi7, .int qi8, .int 0, .int 0, .int 0, .int 0, .int 0, .int 0, .int 0, .int 0, .int 0, .int 0, .int 0, .int 0, .int 0] (.int 0)) (g_qa3 : n0 ≤ qa3) :
    MF l Z Y27_ jdk_68_method_73_code 3 none (Rm 2 0 0 33) #[.ref qa1, .int 3, .ref qa2] h0 (Q84 Z qa3 qk6 qi7 qi8 h0 n0) := by
 refine own_sF pn7 rfl (fun m => ef13 m qa1 (3 : Int32) qa2) ?_
 intro p e s m below meth c s₁ Bd hZ hh hx hby hml hown hnm X0 e0 pre0
 have N0 := Fr.nil n0
 obtain ⟨cq1, q1, q1'⟩ := E_qa1.cell
 obtain ⟨_, T1, L1, X1, hQ1, st1⟩ := own_cb 0 0 0 0 0 0 (X0.privateBack hx (y := Y25_) hown (mvT hZ (w200_ hw)) (mvT hZ (w201_ hw)) (own_selP (mvT hZ (w203_ hw)) (Cond.privateMethod_at (mvP hZ (w202_ hw) (args := #[]))) (mvT hZ (w201_ hw)) (by decide)) (Cond.privateMethod_at (mvP hZ (w202_ hw) (args := #[]))) (mvT hZ (w204_ hw)) (by decide) (backOf (W := 0) (rm25 l Z a0 hw G1 qa1 qa2 h0 n0 X00 O2 P5 F_qa1_coder E_qa2 F_qa2_coder) hZ (w204_ hw) (w168_ hw) (lE rfl) (lE rfl)) (g := (mkF m 2 #[rv qa1, iv 3, rv qa2] [.ref qa2, .ref qa1])) rfl hml.symm (Steps.refl _) (a := qa1) (by rw [e0]; exact q1) q1' (argsL := [.ref qa2]) (rest := []) (lenOf pd21 rfl) rfl (own_hw rfl) (hb hby d25_2) (fun _ _ => ⟨rfl, e0, (lE rfl : 0 + 0 ≤ _), (lE rfl : 0 + 0 ≤ _)⟩)) rfl rfl
 obtain ⟨rfl, N1q, e1q⟩ := hQ1
 have N1 := Fr.app N0 N1q
 obtain ⟨T2, X2, e2, st2⟩ := getF X1 hx hZ hown (host := "") (Or.inl (w172_ hw)) Via.refl e1q F_qa1_value (g := (mkF m 7 #[rv qa1, iv 3, rv qa2] [.ref qa1, .ref qa2])) rfl rfl (hb hby d25_7)
 obtain ⟨T3, X3, e3, st3⟩ := getF X2 hx hZ hown (host := "") (Or.inl (w174_ hw)) Via.refl e2 F_qa1_coder (g := (mkF m 12 #[rv qa1, iv 3, rv qa2] [.ref qa1, .int 3, .ref qa3, .ref qa2])) rfl rfl (hb hby d25_12)
 obtain ⟨_, T4, L4, X4, hQ4, st4⟩ := own_cV 0 0 [] 15 #[rv qa1, iv 3, rv qa2] X3 hx hZ hown E_qa2 (w206_ hw) (w207_ hw) (notFace_of_selects (args := #[]) (mvT hZ (w209_ hw))) (w209_ hw) (w208_ hw) (w6_ hw) (w210_ hw) (rm83 l Z a0 hw G1 qa2 qa3 qa4 qk5 qk6 qi7 qi8 h0 n0 X00 O2 P5 E_qa2 F_qa2_coder F_qa2_value A_qa4 A_qa3 g_qa3) pd22 hml.symm (hb hby d25_15) e3 rfl rfl rfl rfl (by decide)
 obtain ⟨rfl, N4q, K4q, w5⟩ := hQ4
 have N4 := Fr.app N1 N4q
 have K6 := (Keep.refl h0 [qa3]).trans K4q (allS (Or.inl (mI 0 rfl)) all0)
 refine own_lvN X4 Bd rfl ⟨rfl, N4, K6, w5⟩ rfl (fun fs hr => pre0 _ (by
  show Sx p e below s₁ m 0 #[rv qa1, iv 3, rv qa2] [] _
  refine zb X0 Bd d25_0 rfl rfl ?_
  refine zb X0 Bd d25_1 rfl rfl ?_
  refine st1.trans ?_
  refine zb X1 Bd d25_5 rfl rfl ?_
  refine zb X1 Bd d25_6 rfl rfl ?_
  refine st2 _ ?_
  refine zj X2 Bd d25_10 rfl ?_
  refine zb X2 Bd d25_11 rfl rfl ?_
  refine st3 _ ?_
  refine st4 _ ?_
  exact X4.returnOut hx Bd.returns (hb hby d25_18) hr))
-- java/lang/AbstractStringBuilder.append(Ljava/lang/String;)Ljava/lang/AbstractStringBuilder;
def Q85 (Z : State) (qa1 : Addr) (qa5 : Addr) (qk6 : ClassId) (qi7 : Int32) (qi8 : Int32) (h0 : Heap) (n0 : Nat) (v : Option Value) (h : Heap) (L : List Loc) : Prop := v = some (.ref qa1) ∧ Fr n0 L ∧ Keep h0 h [qa5, qa1] ∧ Fld Z h qa1 "java/lang/AbstractStringBuilder" "count" "I" (.int 5) ∧ Fld Z h qa1 "java/lang/AbstractStringBuilder" "value" "[B" (.ref qa5) ∧ Fld Z h qa1 "java/lang/AbstractStringBuilder" "coder" "B" (.int 0) ∧ Exa Z h qa1 "java/lang/StringBuilder" ∧ Arv Z h qa5 qk6 .byte (16 : Int32) [.int 123, .int qi7, .int qi8, .int 42, .int 125, .int 0, .int 0, .int 0, .int 0, .int 0, .int 0, .int 0, .int 0, .int 0, .int 0, .int 0] (.int 0)
theorem rm85 (l : Launch) (Z : State) (a0 : Array Value) (hw : HW a0 Z) (G1 : Int32) (qa1 : Addr) (qa2 : Addr) (qa3 : Addr) (qk4 : ClassId) (qa5 : Addr) (qk6 : ClassId) (qi7 : Int32) (qi8 : Int32) (h0 : Heap) (n0 : Nat) (X00 : Old Z n0 h0) (O2 : Sta Z Z.heap "java/lang/String" "COMPACT_STRINGS" "Z" (.int G1)) (P5 : ¬ (G1 = (0 : Int32))) (E_qa2 : Exa Z h0 qa2 "java/lang/String") (F_qa2_coder : Fld Z h0 qa2 "java/lang/String" "coder" "B" (.int 0)) (F_qa2_value : Fld Z h0 qa2 "java/lang/String" "value" "[B" (.ref qa3)) (hp_qa2 : ∀ c ∈ ([42, 125] : List Int32), ¬ c < 0 ∧ ¬ (255 : Int32) < c) (A_qa3 : Arv Z h0 qa3 qk4 .byte (2 : Int32) [.int 42, .int 125] (.int 0)) (F_qa1_count : Fld Z h0 qa1 "java/lang/AbstractStringBuilder" "count" "I" (.int 3)) (F_qa1_value : Fld Z h0 qa1 "java/lang/AbstractStringBuilder" "value" "[B" (.ref qa5)) (A_qa5 : Arv Z h0 qa5 qk6 .byte (16 : Int32) [.int 123, .int qi7, .int qi8, .int 0, .int 0, .int 0, .int 0, .int 0, .int 0, .int 0, .int 0, .int 0, .int 0, .int 0, .int 0, .int 0] (.int 0)) (F_qa1_coder : Fld Z h0 qa1 "java/lang/AbstractStringBuilder" "coder" "B" (.int 0)) (E_qa1 : Exa Z h0 qa1 "java/lang/StringBuilder") (g_qa5 : n0 ≤ qa5) (ne_qa1_qa5 : qa1 ≠ qa5) (g_qa1 : n0 ≤ qa1) :
    MF l Z Y28_ jdk_68_method_22_code 3 (some (.object "java/lang/AbstractStringBuilder")) (Rm 3 0 0 47) #[.ref qa1, .ref qa2] h0 (Q85 Z qa1 qa5 qk6 qi7 qi8 h0 n0) := by
 refine own_sF pn7 rfl (fun m => ef10 m qa1 qa2) ?_
 intro p e s m below meth c s₁ Bd hZ hh hx hby hml hown hnm X0 e0 pre0
 have N0 := Fr.nil n0
 have hcd2 : StrChars.Road.CodA ([42, 125] : List Int32) 0 (2 : Int32) [.int 42, .int 125] := StrChars.Road.codOf (n := 2) rfl (fun x hx => (hp_qa2 x hx).2)
 have hbd2 : ∀ x ∈ ([42, 125] : List Int32), ¬ x < 0 ∧ ¬ (65535 : Int32) < x := own_up _ hp_qa2
 obtain ⟨cq1, kq1, q1a, q1b, q1c⟩ := isOf hZ e0 E_qa2
 obtain ⟨_, T1, L1, X1, hQ1, st1⟩ := own_cb0 0 0 0 0 0 0 (X0.virtualBack hx (y := Y10_) (z := Y10_) hown (mvT hZ (w187_ hw)) (mvT hZ (w59_ hw)) (notFace_of_selects (args := #[]) (mvT hZ (w61_ hw))) (mvT hZ (w61_ hw)) (mvT hZ (w60_ hw)) (by decide) (StrChars.Road.lenW (W := 0) hZ (own_wl hw) (kI := 4) (w5_ hw) E_qa2 F_qa2_value F_qa2_coder A_qa3 hcd2 hbd2 (O2.ext X00.2) P5 (lE rfl) (lE rfl) (lE rfl)) q1a q1c (g := (mkF m 10 #[rv qa1, rv qa2, .unset] [.ref qa2])) rfl hml.symm (Steps.refl _) (argsL := []) (rest := []) (lenOf pd7 rfl) rfl (own_hw rfl) (hb hby d23_10) (fun _ _ => ⟨rfl, e0, (lE rfl : 0 + 0 ≤ _), (lE rfl : 0 + 0 ≤ _)⟩)) rfl rfl
 dsimp only [Pt.U, Pt.locs, Pt.cells, Pt.slots] at hQ1
 obtain ⟨rfl, rfl, e1q⟩ := hQ1
 have N1 := Fr.app N0 (Fr.nil n0)
 obtain ⟨T3, X3, e3, st3⟩ := getF X1 hx hZ hown (host := "") (Or.inl (w188_ hw)) Via.refl e1q F_qa1_count (g := (mkF m 16 #[rv qa1, rv qa2, iv 2] [.ref qa1, .ref qa1])) rfl rfl (hb hby d23_16)
 obtain ⟨cq4, q4, q4'⟩ := E_qa1.cell
 obtain ⟨_, T4, L4, X4, hQ4, st4⟩ := own_cb 0 0 0 0 0 0 (X3.privateBack hx (y := Y23_) hown (mvT hZ (w190_ hw)) (mvT hZ (w191_ hw)) (own_selP (mvT hZ (w193_ hw)) (Cond.privateMethod_at (mvP hZ (w192_ hw) (args := #[]))) (mvT hZ (w191_ hw)) (by decide)) (Cond.privateMethod_at (mvP hZ (w192_ hw) (args := #[]))) (mvT hZ (w194_ hw)) (by decide) (backOf (W := 0) (rm82 l Z a0 hw  qa1 qa5 qk6 qi7 qi8 h0 n0 X00 F_qa1_value A_qa5 F_qa1_coder) hZ (w194_ hw) (w168_ hw) (lE rfl) (lE rfl)) (g := (mkF m 21 #[rv qa1, rv qa2, iv 2] [.int 5, .ref qa1])) rfl hml.symm (Steps.refl _) (a := qa1) (by rw [e3]; exact q4) q4' (argsL := [.int 5]) (rest := []) (lenOf pd18 rfl) rfl (own_hw rfl) (hb hby d23_21) (fun _ _ => ⟨rfl, e3, (lE rfl : 0 + 0 ≤ _), (lE rfl : 0 + 0 ≤ _)⟩)) rfl rfl
 obtain ⟨rfl, N4q, e4q⟩ := hQ4
 have N4 := Fr.app N1 N4q
 obtain ⟨T5, X5, e5, st5⟩ := getF X4 hx hZ hown (host := "") (Or.inl (w188_ hw)) Via.refl e4q F_qa1_count (g := (mkF m 26 #[rv qa1, rv qa2, iv 2] [.ref qa1, .ref qa1])) rfl rfl (hb hby d23_26)
 obtain ⟨cq6, q6, q6'⟩ := E_qa1.cell
 obtain ⟨_, T6, L6, X6, hQ6, st6⟩ := own_cb 0 0 0 0 0 0 (X5.privateBack hx (y := Y27_) hown (mvT hZ (w195_ hw)) (mvT hZ (w196_ hw)) (own_selP (mvT hZ (w198_ hw)) (Cond.privateMethod_at (mvP hZ (w197_ hw) (args := #[]))) (mvT hZ (w196_ hw)) (by decide)) (Cond.privateMethod_at (mvP hZ (w197_ hw) (args := #[]))) (mvT hZ (w199_ hw)) (by decide) (backOf (W := 0) (rm84 l Z a0 hw G1 qa1 qa2 qa5 qa3 qk4 qk6 qi7 qi8 h0 n0 X00 O2 P5 F_qa1_coder E_qa2 F_qa2_coder E_qa1 F_qa1_value F_qa2_value A_qa3 A_qa5 g_qa5) hZ (w199_ hw) (w168_ hw) (lE rfl) (lE rfl)) (g := (mkF m 30 #[rv qa1, rv qa2, iv 2] [.ref qa2, .int 3, .ref qa1])) rfl hml.symm (Steps.refl _) (a := qa1) (by rw [e5]; exact q6) q6' (argsL := [.int 3, .ref qa2]) (rest := []) (lenOf pd23 rfl) rfl (own_hw rfl) (hb hby d23_30) (fun _ _ => ⟨rfl, e5, (lE rfl : 0 + 0 ≤ _), (lE rfl : 0 + 0 ≤ _)⟩)) rfl rfl
 obtain ⟨rfl, N6q, K6q, w7⟩ := hQ6
 have N6 := Fr.app N4 N6q
 have K8 := (Keep.refl h0 [qa5, qa1]).trans K6q (allS (Or.inl (mI 0 rfl)) all0)
 have F10_ := F_qa1_count.keep K6q (ninS ne_qa1_qa5 nin0)
 obtain ⟨T9, X9, e9, st9⟩ := getF X6 hx hZ hown (host := "") (Or.inl (w188_ hw)) Via.refl rfl F10_ (g := (mkF m 35 #[rv qa1, rv qa2, iv 2] [.ref qa1, .ref qa1])) rfl rfl (hb hby d23_35)
 have E11_ := E_qa1.keep K6q
 obtain ⟨T12, h12, X12, e12, W12, st12⟩ := putF X9 hx hZ hown (host := "") (Or.inl (w188_ hw)) Via.refl e9 F10_ E11_ (Or.inl (w189_ hw)) (w159_ hw) (ty := .int) (by decide) rfl rfl (g := (mkF m 40 #[rv qa1, rv qa2, iv 2] [.int 5, .ref qa1])) rfl rfl (hb hby d23_40)
 have N12 := Fr.snoc X12 N6 g_qa1
 have K13 := K8.wr W12 (Or.inl (mI 1 rfl))
 have F14_ : Fld Z h12 qa1 "java/lang/AbstractStringBuilder" "count" "I" (.int 5) := F10_.same W12
 have F15_ := F_qa1_value.keep K6q (ninS ne_qa1_qa5 nin0)
 have F16_ := F15_.other W12 (Or.inr (slot_ne (Or.inl (w173_ hw)) (Or.inl (w189_ hw)) (by decide) (t := (.array .byte)) (t' := .int) (by decide) (by decide)))
 have F17_ := F_qa1_coder.keep K6q (ninS ne_qa1_qa5 nin0)
 have F18_ := F17_.other W12 (Or.inr (slot_ne (Or.inl (w175_ hw)) (Or.inl (w189_ hw)) (by decide) (t := .byte) (t' := .int) (by decide) (by decide)))
 have E19_ := E11_.wr W12
 have A20_ := w7.other W12 (Ne.symm ne_qa1_qa5)
 refine own_lvF X12 Bd (.ref qa1) e12 ⟨rfl, N12, K13, F14_, F16_, F18_, E19_, A20_⟩ rfl (fun fs hr => pre0 _ (by
  show Sx p e below s₁ m 0 #[rv qa1, rv qa2, .unset] [] _
  refine zb X0 Bd d23_0 rfl rfl ?_
  refine XS.ifnonnullYes X0.here hx rfl (pc0 := 1) (pc' := 9) rfl (hb hby d23_1) rfl (by decide) (by decide) ?_
  refine zb X0 Bd d23_9 rfl rfl ?_
  refine st1.trans ?_
  refine zt X1 Bd d23_13 (l' := #[rv qa1, rv qa2, iv 2]) rfl ?_
  refine zb X1 Bd d23_14 rfl rfl ?_
  refine zb X1 Bd d23_15 rfl rfl ?_
  refine st3 _ ?_
  refine zj X3 Bd d23_19 rfl ?_
  refine XS.iadd X3.here hx rfl (hb hby d23_20) rfl ?_
  refine st4.trans ?_
  refine zb X4 Bd d23_24 rfl rfl ?_
  refine zb X4 Bd d23_25 rfl rfl ?_
  refine st5 _ ?_
  refine zb X5 Bd d23_29 rfl rfl ?_
  refine st6.trans ?_
  refine zb X6 Bd d23_33 rfl rfl ?_
  refine XS.dup X6.here hx rfl (hb hby d23_34) rfl rfl ?_
  refine st9 _ ?_
  refine zj X9 Bd d23_38 rfl ?_
  refine XS.iadd X9.here hx rfl (hb hby d23_39) rfl ?_
  refine st12 _ ?_
  refine zb X12 Bd d23_43 rfl rfl ?_
  exact retOut X12 hx Bd.returns rfl (Or.inr (Or.inr (Or.inr (Or.inr ⟨rfl, rfl, rfl⟩)))) (hb hby d23_44) hr))
-- java/lang/StringBuilder.append(Ljava/lang/String;)Ljava/lang/StringBuilder;
def Q86 (Z : State) (qa1 : Addr) (qa5 : Addr) (qk6 : ClassId) (qi7 : Int32) (qi8 : Int32) (h0 : Heap) (n0 : Nat) (v : Option Value) (h : Heap) (L : List Loc) : Prop := v = some (.ref qa1) ∧ Fr n0 L ∧ Keep h0 h [qa1, qa5] ∧ Exa Z h qa1 "java/lang/StringBuilder" ∧ Fld Z h qa1 "java/lang/AbstractStringBuilder" "count" "I" (.int 5) ∧ Fld Z h qa1 "java/lang/AbstractStringBuilder" "value" "[B" (.ref qa5) ∧ Fld Z h qa1 "java/lang/AbstractStringBuilder" "coder" "B" (.int 0) ∧ Arv Z h qa5 qk6 .byte (16 : Int32) [.int 123, .int qi7, .int qi8, .int 42, .int 125, .int 0, .int 0, .int 0, .int 0, .int 0, .int 0, .int 0, .int 0, .int 0, .int 0, .int 0] (.int 0)
theorem rm86 (l : Launch) (Z : State) (a0 : Array Value) (hw : HW a0 Z) (G1 : Int32) (qa1 : Addr) (qa2 : Addr) (qa3 : Addr) (qk4 : ClassId) (qa5 : Addr) (qk6 : ClassId) (qi7 : Int32) (qi8 : Int32) (h0 : Heap) (n0 : Nat) (X00 : Old Z n0 h0) (O2 : Sta Z Z.heap "java/lang/String" "COMPACT_STRINGS" "Z" (.int G1)) (P5 : ¬ (G1 = (0 : Int32))) (E_qa2 : Exa Z h0 qa2 "java/lang/String") (F_qa2_coder : Fld Z h0 qa2 "java/lang/String" "coder" "B" (.int 0)) (F_qa2_value : Fld Z h0 qa2 "java/lang/String" "value" "[B" (.ref qa3)) (hp_qa2 : ∀ c ∈ ([42, 125] : List Int32), ¬ c < 0 ∧ ¬ (255 : Int32) < c) (A_qa3 : Arv Z h0 qa3 qk4 .byte (2 : Int32) [.int 42, .int 125] (.int 0)) (F_qa1_count : Fld Z h0 qa1 "java/lang/AbstractStringBuilder" "count" "I" (.int 3)) (F_qa1_value : Fld Z h0 qa1 "java/lang/AbstractStringBuilder" "value" "[B" (.ref qa5)) (A_qa5 : Arv Z h0 qa5 qk6 .byte (16 : Int32) [.int 123, .int qi7, .int qi8, .int 0, .int 0, .int 0, .int 0, .int 0, .int 0, .int 0, .int 0, .int 0, .int 0, .int 0, .int 0, .int 0] (.int 0)) (F_qa1_coder : Fld Z h0 qa1 "java/lang/AbstractStringBuilder" "coder" "B" (.int 0)) (E_qa1 : Exa Z h0 qa1 "java/lang/StringBuilder") (g_qa5 : n0 ≤ qa5) (ne_qa1_qa5 : qa1 ≠ qa5) (g_qa1 : n0 ≤ qa1) :
    MF l Z Y29_ jdk_67_method_7_code 2 (some (.object "java/lang/StringBuilder")) (Rm 4 0 0 61) #[.ref qa1, .ref qa2] h0 (Q86 Z qa1 qa5 qk6 qi7 qi8 h0 n0) := by
 refine own_sF pn6 rfl (fun m => ef2 m qa1 qa2) ?_
 intro p e s m below meth c s₁ Bd hZ hh hx hby hml hown hnm X0 e0 pre0
 have N0 := Fr.nil n0
 obtain ⟨_, T1, L1, X1, hQ1, st1⟩ := own_cb 0 0 0 0 0 0 (superBack X0 hx hZ (y := Y28_) hown (w182_ hw) (own_same (w183_ hw) (w193_ hw) rfl (by decide)) (w183_ hw) (w184_ hw) (by decide) (backOf (W := 0) (rm85 l Z a0 hw G1 qa1 qa2 qa3 qk4 qa5 qk6 qi7 qi8 h0 n0 X00 O2 P5 E_qa2 F_qa2_coder F_qa2_value hp_qa2 A_qa3 F_qa1_count F_qa1_value A_qa5 F_qa1_coder E_qa1 g_qa5 ne_qa1_qa5 g_qa1) hZ (w186_ hw) (w168_ hw) (lE rfl) (lE rfl)) e0 (Ins.self E_qa1) (g := (mkF m 2 #[rv qa1, rv qa2] [.ref qa2, .ref qa1])) rfl hml.symm (w186_ hw) (argsL := [.ref qa2]) (rest := []) (lenOf pd24 rfl) rfl (own_hw rfl) (hb hby d22_2) (fun _ _ => ⟨rfl, e0, (lE rfl : 0 + 0 ≤ _), (lE rfl : 0 + 0 ≤ _)⟩)) rfl rfl
 obtain ⟨rfl, N1q, K1q, w2, w3, w4, w5, w6⟩ := hQ1
 have N1 := Fr.app N0 N1q
 have K7 := (Keep.refl h0 [qa1, qa5]).trans K1q (allS (Or.inl (mI 1 rfl)) (allS (Or.inl (mI 0 rfl)) all0))
 have E8_ := E_qa1.keep K1q
 refine own_lvF X1 Bd (.ref qa1) rfl ⟨rfl, N1, K7, E8_, w2, w3, w4, w6⟩ rfl (fun fs hr => pre0 _ (by
  show Sx p e below s₁ m 0 #[rv qa1, rv qa2] [] _
  refine zb X0 Bd d22_0 rfl rfl ?_
  refine zb X0 Bd d22_1 rfl rfl ?_
  refine st1.trans ?_
  refine XS.pop X1.here hx rfl (hb hby d22_5) rfl rfl ?_
  refine zb X1 Bd d22_6 rfl rfl ?_
  exact retOut X1 hx Bd.returns rfl (Or.inr (Or.inr (Or.inr (Or.inr ⟨rfl, rfl, rfl⟩)))) (hb hby d22_7) hr))
-- java/lang/AbstractStringBuilder.length()I
def Q87 (Z : State)  (h0 : Heap) (n0 : Nat) (v : Option Value) (h : Heap) (L : List Loc) : Prop := v = some (.int 5) ∧ Fr n0 L ∧ h = h0
theorem rm87 (l : Launch) (Z : State) (a0 : Array Value) (hw : HW a0 Z) (qa1 : Addr) (h0 : Heap) (n0 : Nat) (X00 : Old Z n0 h0) (F_qa1_count : Fld Z h0 qa1 "java/lang/AbstractStringBuilder" "count" "I" (.int 5)) :
    MF l Z Y31_ jdk_68_method_6_code 1 (some .int) (Rm 0 0 0 0) #[.ref qa1] h0 (Q87 Z  h0 n0) := by
 refine own_sF pn7 rfl (fun m => ef8 m qa1) ?_
 intro p e s m below meth c s₁ Bd hZ hh hx hby hml hown hnm X0 e0 pre0
 have N0 := Fr.nil n0
 obtain ⟨T1, X1, e1, st1⟩ := getF X0 hx hZ hown (host := "") (Or.inl (w188_ hw)) Via.refl e0 F_qa1_count (g := (mkF m 1 #[rv qa1] [.ref qa1])) rfl rfl (hb hby d34_1)
 refine own_lvF X1 Bd (.int 5) e1 ⟨rfl, N0, rfl⟩ rfl (fun fs hr => pre0 _ (by
  show Sx p e below s₁ m 0 #[rv qa1] [] _
  refine zb X0 Bd d34_0 rfl rfl ?_
  refine st1 _ ?_
  exact retI X1 hx Bd.returns (hb hby d34_4) hr))
-- java/lang/StringBuilder.length()I
def Q88 (Z : State)  (h0 : Heap) (n0 : Nat) (v : Option Value) (h : Heap) (L : List Loc) : Prop := v = some (.int 5) ∧ Fr n0 L ∧ h = h0
theorem rm88 (l : Launch) (Z : State) (a0 : Array Value) (hw : HW a0 Z) (qa1 : Addr) (h0 : Heap) (n0 : Nat) (X00 : Old Z n0 h0) (F_qa1_count : Fld Z h0 qa1 "java/lang/AbstractStringBuilder" "count" "I" (.int 5)) (E_qa1 : Exa Z h0 qa1 "java/lang/StringBuilder") :
    MF l Z Y32_ jdk_67_method_93_code 1 (some .int) (Rm 1 0 0 12) #[.ref qa1] h0 (Q88 Z  h0 n0) := by
 refine own_sF pn6 rfl (fun m => ef8 m qa1) ?_
 intro p e s m below meth c s₁ Bd hZ hh hx hby hml hown hnm X0 e0 pre0
 have N0 := Fr.nil n0
 obtain ⟨_, T1, L1, X1, hQ1, st1⟩ := own_cb 0 0 0 0 0 0 (superBack X0 hx hZ (y := Y31_) hown (w239_ hw) (own_same (w235_ hw) (w193_ hw) rfl (by decide)) (w235_ hw) (w184_ hw) (by decide) (backOf (W := 0) (rm87 l Z a0 hw  qa1 h0 n0 X00 F_qa1_count) hZ (w240_ hw) (w168_ hw) (lE rfl) (lE rfl)) e0 (Ins.self E_qa1) (g := (mkF m 1 #[rv qa1] [.ref qa1])) rfl hml.symm (w240_ hw) (argsL := []) (rest := []) (lenOf pd7 rfl) rfl (own_hw rfl) (hb hby d33_1) (fun _ _ => ⟨rfl, e0, (lE rfl : 0 + 0 ≤ _), (lE rfl : 0 + 0 ≤ _)⟩)) rfl rfl
 obtain ⟨rfl, N1q, e1q⟩ := hQ1
 have N1 := Fr.app N0 N1q
 refine own_lvF X1 Bd (.int 5) e1q ⟨rfl, N1, rfl⟩ rfl (fun fs hr => pre0 _ (by
  show Sx p e below s₁ m 0 #[rv qa1] [] _
  refine zb X0 Bd d33_0 rfl rfl ?_
  refine st1.trans ?_
  exact retI X1 hx Bd.returns (hb hby d33_4) hr))
-- java/util/Arrays.checkLength(II)V
def Q89 (Z : State)  (h0 : Heap) (n0 : Nat) (v : Option Value) (h : Heap) (L : List Loc) : Prop := v = none ∧ Fr n0 L ∧ h = h0
theorem rm89 (l : Launch) (Z : State) (a0 : Array Value) (hw : HW a0 Z)  (h0 : Heap) (n0 : Nat) (X00 : Old Z n0 h0)  :
    MF l Z Y34_ jdk_65_method_131_code 2 none (Rm 0 0 0 0) #[.int 0, .int 5] h0 (Q89 Z  h0 n0) := by
 refine own_sF pn8 rfl (fun m => ef18 m (0 : Int32) (5 : Int32)) ?_
 intro p e s m below meth c s₁ Bd hZ hh hx hby hml hown hnm X0 e0 pre0
 have N0 := Fr.nil n0
 refine own_lvN X0 Bd e0 ⟨rfl, N0, rfl⟩ rfl (fun fs hr => pre0 _ (by
  show Sx p e below s₁ m 0 #[iv 0, iv 5] [] _
  refine zj X0 Bd d38_0 rfl ?_
  refine zj X0 Bd d38_1 rfl ?_
  refine zy (pc' := 37) X0 Bd d38_2 (XT.ii_ge_t ((by decide) : ¬ ((5 : Int32) < (0 : Int32)))) rfl ?_
  exact X0.returnOut hx Bd.returns (hb hby d38_37) hr))
-- java/lang/Math.min(II)I
def Q90 (Z : State)  (h0 : Heap) (n0 : Nat) (v : Option Value) (h : Heap) (L : List Loc) : Prop := v = some (.int 5) ∧ Fr n0 L ∧ h = h0
theorem rm90 (l : Launch) (Z : State) (a0 : Array Value) (hw : HW a0 Z)  (h0 : Heap) (n0 : Nat) (X00 : Old Z n0 h0)  :
    MF l Z Y35_ jdk_29_method_69_code 2 (some .int) (Rm 0 0 0 0) #[.int 16, .int 5] h0 (Q90 Z  h0 n0) := by
 refine own_sFm (K := "java/lang/Math") (by decide +kernel) rfl (fun m => ef18 m (16 : Int32) (5 : Int32)) ?_
 intro p e s m below meth c s₁ Bd hZ hh hx hby hml hown hnm X0 e0 pre0
 have N0 := Fr.nil n0
 refine own_lvF X0 Bd (.int 5) e0 ⟨rfl, N0, rfl⟩ rfl (fun fs hr => pre0 _ (by
  show Sx p e below s₁ m 0 #[iv 16, iv 5] [] _
  refine zj X0 Bd d39_0 rfl ?_
  refine zj X0 Bd d39_1 rfl ?_
  refine zy (pc' := 9) X0 Bd d39_2 (XT.ii_gt_t ((by decide) : (5 : Int32) < (16 : Int32))) rfl ?_
  refine zj X0 Bd d39_9 rfl ?_
  exact retI X0 hx Bd.returns (hb hby d39_10) hr))
-- java/util/Arrays.copyOfRangeByte([BII)[B
def Q91 (Z : State) (qi3 : Int32) (qi4 : Int32) (h0 : Heap) (n0 : Nat) (v : Option Value) (h : Heap) (L : List Loc) : Prop := ∃ b2 : Addr, ∃ c2 : ClassId, v = some (.ref b2) ∧ Fr n0 L ∧ Keep h0 h [] ∧ h0.size ≤ b2 ∧ Arv Z h b2 c2 .byte (5 : Int32) [.int 123, .int qi3, .int qi4, .int 42, .int 125] (.int 0)
theorem rm91 (l : Launch) (Z : State) (a0 : Array Value) (hw : HW a0 Z) (qa1 : Addr) (qk2 : ClassId) (qi3 : Int32) (qi4 : Int32) (h0 : Heap) (n0 : Nat) (X00 : Old Z n0 h0) (A_qa1 : Arv Z h0 qa1 qk2 .byte (16 : Int32) [.int 123, .int qi3, .int qi4, .int 42, .int 125, .int 0, .int 0, .int 0, .int 0, .int 0, .int 0, .int 0, .int 0, .int 0, .int 0, .int 0] (.int 0)) :
    MF l Z Y36_ jdk_65_method_133_code 5 (some (.array .byte)) (Rm 1 1 5 18) #[.ref qa1, .int 0, .int 5] h0 (Q91 Z qi3 qi4 h0 n0) := by
 refine own_sF pn8 rfl (fun m => ef17 m qa1 (0 : Int32) (5 : Int32)) ?_
 intro p e s m below meth c s₁ Bd hZ hh hx hby hml hown hnm X0 e0 pre0
 have N0 := Fr.nil n0
 obtain ⟨_, T1, L1, X1, hQ1, st1⟩ := own_cS 0 0 [] 2 #[rv qa1, iv 0, iv 5, .unset, .unset] X0 hx hZ hown (w253_ hw) (w254_ hw) (w248_ hw) (w255_ hw) (rm89 l Z a0 hw   h0 n0 X00 ) pd27 hml.symm (hb hby d37_2) e0 rfl rfl rfl rfl (by decide)
 obtain ⟨rfl, N1q, e1q⟩ := hQ1
 have N1 := Fr.app N0 N1q
 obtain ⟨T2, h2, c2, X2, e2, E2, A2, st2⟩ := newP (aty := .byte) X1 hx hZ (w19_ hw) e1q (g := (mkF m 10 #[rv qa1, iv 0, iv 5, iv 5, .unset] [.int 5])) rfl (hb hby d37_10) rfl (by decide) (cap := 5) (by decide) (lE rfl) (lE rfl) (lE rfl)
 obtain ⟨b2, g2⟩ : ∃ z, z = h0.size := ⟨_, rfl⟩
 rw [← g2] at A2 st2
 replace X2 : Stand p l e (Rm 1 1 5 18) s m #[.ref qa1, .int 0, .int 5] below meth c T2 _ 1 5 := X2
 have K3 := (Keep.refl h0 []).ext E2
 have A4_ : Arv Z h2 b2 c2 .byte (5 : Int32) [.int 0, .int 0, .int 0, .int 0, .int 0] (.int 0) := (Arv.new A2 (by decide)).pad (pad_rep [] (.int 0) 5)
 have A6_ := A_qa1.ext E2
 have av5 := A6_
 obtain ⟨cl5, Ar5, q5, S5, N5, H5, Gf5⟩ := av5
 have O8 := X00.ext E2
 obtain ⟨_, T7, L7, X7, hQ7, st7⟩ := own_cS 1 5 [.int 0, .ref b2, .int 0, .ref qa1] 24 #[rv qa1, iv 0, iv 5, iv 5, rv b2] X2 hx hZ hown (w256_ hw) (w257_ hw) (w258_ hw) (w259_ hw) (rm90 l Z a0 hw   h2 n0 O8 ) pd28 hml.symm (hb hby d37_24) e2 rfl rfl rfl rfl (by decide)
 obtain ⟨rfl, N7q, e7q⟩ := hQ7
 have N7 := Fr.app N1 N7q
 have g_b2 : n0 ≤ b2 := Nat.le_trans (Nat.le_trans (Nat.le_of_eq X00.1.symm) X00.2.1) (Nat.le_of_eq g2.symm)
 obtain ⟨T9, h9, L9, X9, e9, N9, K9q, A9, st9⟩ := cpA X7 hx hZ hown (w260_ hw) (w214_ hw) (w212_ hw) (w213_ hw) e7q (vs := [.int 123, .int qi3, .int qi4, .int 42, .int 125, .int 0, .int 0, .int 0, .int 0, .int 0, .int 0, .int 0, .int 0, .int 0, .int 0, .int 0]) (vd := [.int 0, .int 0, .int 0, .int 0, .int 0]) (us := [.int 123, .int qi3, .int qi4, .int 42, .int 125]) A6_ A4_ (Or.inl ⟨rfl, rfl⟩) (by decide) (by decide) (by decide) (by decide) (by decide) rfl (lE rfl) N7 g_b2 (g := (mkF m 27 #[rv qa1, iv 0, iv 5, iv 5, rv b2] [.int 5, .int 0, .ref b2, .int 0, .ref qa1])) rfl hml.symm rfl (hb hby d37_27) (by decide) (W := 0) (own_hw rfl) (by decide)
 have sz_b2 : h0.size ≤ b2 := (Nat.le_of_eq g2.symm)
 have K10 := K3.trans K9q (allS (Or.inr sz_b2) all0)
 have A11_ : Arv Z h9 b2 c2 .byte (5 : Int32) [.int 123, .int qi3, .int qi4, .int 42, .int 125] (.int 0) := A9
 refine own_lvF X9 Bd (.ref b2) e9 ⟨b2, c2, rfl, N9, K10, sz_b2, A11_⟩ rfl (fun fs hr => pre0 _ (by
  show Sx p e below s₁ m 0 #[rv qa1, iv 0, iv 5, .unset, .unset] [] _
  refine zj X0 Bd d37_0 rfl ?_
  refine zj X0 Bd d37_1 rfl ?_
  refine st1 _ ?_
  refine zj X1 Bd d37_5 rfl ?_
  refine zj X1 Bd d37_6 rfl ?_
  refine XS.isub X1.here hx rfl (hb hby d37_7) rfl ?_
  refine zt X1 Bd d37_8 (l' := #[rv qa1, iv 0, iv 5, iv 5, .unset]) rfl ?_
  refine zj X1 Bd d37_9 rfl ?_
  refine st2 _ ?_
  refine XS.astore X2.here hx rfl (hb hby d37_12) rfl rfl (l' := #[rv qa1, iv 0, iv 5, iv 5, rv b2]) rfl ?_
  refine zb X2 Bd d37_14 rfl rfl ?_
  refine zj X2 Bd d37_15 rfl ?_
  refine za X2 Bd d37_16 rfl rfl ?_
  refine zc X2 Bd d37_18 ?_
  refine zb X2 Bd d37_19 rfl rfl ?_
  refine X2.arraylength hx (by rw [e2]; exact Ar5.1) (State.isArrayOf_alike hZ.alike Ar5.2.1) (g := (mkF m 20 #[rv qa1, iv 0, iv 5, iv 5, rv b2] [.ref qa1, .int 0, .ref b2, .int 0, .ref qa1])) rfl rfl (hb hby d37_20) _ ?_
  rw [len_of S5 N5]
  refine zj X2 Bd d37_21 rfl ?_
  refine XS.isub X2.here hx rfl (hb hby d37_22) rfl ?_
  refine zj X2 Bd d37_23 rfl ?_
  refine st7 _ ?_
  refine st9 _ ?_
  refine za X9 Bd d37_30 rfl rfl ?_
  exact retOut X9 hx Bd.returns rfl (Or.inr (Or.inr (Or.inr (Or.inr ⟨rfl, rfl, rfl⟩)))) (hb hby d37_32) hr))
-- java/util/Arrays.copyOfRange([BII)[B
def Q92 (Z : State) (qi3 : Int32) (qi4 : Int32) (h0 : Heap) (n0 : Nat) (v : Option Value) (h : Heap) (L : List Loc) : Prop := ∃ b3 : Addr, ∃ c4_ : ClassId, v = some (.ref b3) ∧ Fr n0 L ∧ Keep h0 h [] ∧ h0.size ≤ b3 ∧ Arv Z h b3 c4_ .byte (5 : Int32) [.int 123, .int qi3, .int qi4, .int 42, .int 125] (.int 0)
theorem rm92 (l : Launch) (Z : State) (a0 : Array Value) (hw : HW a0 Z) (qa1 : Addr) (qk2 : ClassId) (qi3 : Int32) (qi4 : Int32) (h0 : Heap) (n0 : Nat) (X00 : Old Z n0 h0) (A_qa1 : Arv Z h0 qa1 qk2 .byte (16 : Int32) [.int 123, .int qi3, .int qi4, .int 42, .int 125, .int 0, .int 0, .int 0, .int 0, .int 0, .int 0, .int 0, .int 0, .int 0, .int 0, .int 0] (.int 0)) :
    MF l Z Y37_ jdk_65_method_132_code 3 (some (.array .byte)) (Rm 2 1 5 34) #[.ref qa1, .int 0, .int 5] h0 (Q92 Z qi3 qi4 h0 n0) := by
 refine own_sF pn8 rfl (fun m => ef16 m qa1 (0 : Int32) (5 : Int32)) ?_
 intro p e s m below meth c s₁ Bd hZ hh hx hby hml hown hnm X0 e0 pre0
 have N0 := Fr.nil n0
 have av1 := A_qa1
 obtain ⟨cl1, Ar1, q1, S1, N1, H1, Gf1⟩ := av1
 obtain ⟨_, T2, L2, X2, hQ2, st2⟩ := own_cS 1 5 [] 13 #[rv qa1, iv 0, iv 5] X0 hx hZ hown (w250_ hw) (w251_ hw) (w248_ hw) (w252_ hw) (rm91 l Z a0 hw  qa1 qk2 qi3 qi4 h0 n0 X00 A_qa1) pd29 hml.symm (hb hby d36_13) e0 rfl rfl rfl rfl (by decide)
 obtain ⟨b3, c4_, rfl, N2q, K2q, w5, w6⟩ := hQ2
 have N2 := Fr.app N0 N2q
 have K7 := (Keep.refl h0 []).trans K2q (fun x q => nomatch q)
 have sz_b3 : h0.size ≤ b3 := w5
 refine own_lvF X2 Bd (.ref b3) rfl ⟨b3, c4_, rfl, N2, K7, sz_b3, w6⟩ rfl (fun fs hr => pre0 _ (by
  show Sx p e below s₁ m 0 #[rv qa1, iv 0, iv 5] [] _
  refine zj X0 Bd d36_0 rfl ?_
  refine zo X0 Bd d36_1 (XT.i0_ne_f ((by decide) : (0 : Int32) = (0 : Int32))) ?_
  refine zj X0 Bd d36_4 rfl ?_
  refine zb X0 Bd d36_5 rfl rfl ?_
  refine X0.arraylength hx (by rw [e0]; exact Ar1.1) (State.isArrayOf_alike hZ.alike Ar1.2.1) (g := (mkF m 6 #[rv qa1, iv 0, iv 5] [.ref qa1, .int 5])) rfl rfl (hb hby d36_6) _ ?_
  rw [len_of S1 N1]
  refine zn X0 Bd d36_7 (XT.ii_eq_f ((by decide) : ¬ ((5 : Int32) = (16 : Int32)))) ?_
  refine zb X0 Bd d36_10 rfl rfl ?_
  refine zj X0 Bd d36_11 rfl ?_
  refine zj X0 Bd d36_12 rfl ?_
  refine st2 _ ?_
  exact retOut X2 hx Bd.returns rfl (Or.inr (Or.inr (Or.inr (Or.inr ⟨rfl, rfl, rfl⟩)))) (hb hby d36_16) hr))
-- java/lang/String.<init>(Ljava/lang/AbstractStringBuilder;Ljava/lang/Void;)V
def Q93 (Z : State) (qa1 : Addr) (qi5 : Int32) (qi6 : Int32) (h0 : Heap) (n0 : Nat) (v : Option Value) (h : Heap) (L : List Loc) : Prop := ∃ b11 : Addr, ∃ c12_ : ClassId, v = none ∧ Fr n0 L ∧ Keep h0 h [qa1] ∧ h0.size ≤ b11 ∧ Exa Z h qa1 "java/lang/String" ∧ Fld Z h qa1 "java/lang/String" "coder" "B" (.int 0) ∧ Fld Z h qa1 "java/lang/String" "value" "[B" (.ref b11) ∧ Arv Z h b11 c12_ .byte (5 : Int32) [.int 123, .int qi5, .int qi6, .int 42, .int 125] (.int 0)
theorem rm93 (l : Launch) (Z : State) (a0 : Array Value) (hw : HW a0 Z) (G1 : Int32) (qa1 : Addr) (qa2 : Addr) (qa3 : Addr) (qk4 : ClassId) (qi5 : Int32) (qi6 : Int32) (h0 : Heap) (n0 : Nat) (X00 : Old Z n0 h0) (O2 : Sta Z Z.heap "java/lang/String" "COMPACT_STRINGS" "Z" (.int G1)) (P5 : ¬ (G1 = (0 : Int32))) (E_qa2 : Exa Z h0 qa2 "java/lang/StringBuilder") (F_qa2_value : Fld Z h0 qa2 "java/lang/AbstractStringBuilder" "value" "[B" (.ref qa3)) (F_qa2_count : Fld Z h0 qa2 "java/lang/AbstractStringBuilder" "count" "I" (.int 5)) (F_qa2_coder : Fld Z h0 qa2 "java/lang/AbstractStringBuilder" "coder" "B" (.int 0)) (E_qa1 : Exa Z h0 qa1 "java/lang/String") (F_qa1_coder : Fld Z h0 qa1 "java/lang/String" "coder" "B" (.int 0)) (g_qa1 : n0 ≤ qa1) (A_qa3 : Arv Z h0 qa3 qk4 .byte (16 : Int32) [.int 123, .int qi5, .int qi6, .int 42, .int 125, .int 0, .int 0, .int 0, .int 0, .int 0, .int 0, .int 0, .int 0, .int 0, .int 0, .int 0] (.int 0)) (ne_qa3_qa1 : qa3 ≠ qa1) (F_qa1_value : Fld Z h0 qa1 "java/lang/String" "value" "[B" .null) :
    MF l Z Y38_ jdk_42_method_150_code 5 none (Rm 3 1 5 49) #[.ref qa1, .ref qa2, .null] h0 (Q93 Z qa1 qi5 qi6 h0 n0) := by
 refine own_sF pn1 rfl (fun m => ef15 m qa1 qa2) ?_
 intro p e s m below meth c s₁ Bd hZ hh hx hby hml hown hnm X0 e0 pre0
 have N0 := Fr.nil n0
 obtain ⟨T1, X1, e1, st1⟩ := initO X0 hx hZ hown (w15_ hw) (w16_ hw) (w17_ hw) e0 (g := (mkF m 1 #[rv qa1, rv qa2, .val .null, .unset, .unset] [.ref qa1])) rfl hml.symm rfl (hb hby d31_1) (by decide) (W := 0) (own_hw rfl) (lE rfl)
 obtain ⟨_, T2, L2, X2, hQ2, st2⟩ := own_cV 0 0 [] 5 #[rv qa1, rv qa2, .val .null, .unset, .unset] X1 hx hZ hown E_qa2 (w228_ hw) (w229_ hw) (notFace_of_selects (args := #[]) (mvT hZ (w231_ hw))) (w231_ hw) (w230_ hw) (w168_ hw) (w232_ hw) (rm40 l Z a0 hw  qa2 qa3 h0 n0 X00 F_qa2_value) pd26 hml.symm (hb hby d31_5) e1 rfl rfl rfl rfl (by decide)
 obtain ⟨rfl, N2q, e2q⟩ := hQ2
 have N2 := Fr.app N0 N2q
 obtain ⟨_, T3, L3, X3, hQ3, st3⟩ := own_cV 0 0 [] 10 #[rv qa1, rv qa2, .val .null, rv qa3, .unset] X2 hx hZ hown E_qa2 (w233_ hw) (w234_ hw) (own_nf (mvT (args := #[]) hZ (w193_ hw)) rfl) (w236_ hw) (w237_ hw) (w160_ hw) (w238_ hw) (rm88 l Z a0 hw  qa2 h0 n0 X00 F_qa2_count E_qa2) pd7 hml.symm (hb hby d31_10) e2q rfl rfl rfl rfl (by decide)
 obtain ⟨rfl, N3q, e3q⟩ := hQ3
 have N3 := Fr.app N2 N3q
 obtain ⟨_, T4, L4, X4, hQ4, st4⟩ := own_cV 0 0 [] 16 #[rv qa1, rv qa2, .val .null, rv qa3, iv 5] X3 hx hZ hown E_qa2 (w241_ hw) (w242_ hw) (notFace_of_selects (args := #[]) (mvT hZ (w244_ hw))) (w244_ hw) (w243_ hw) (w168_ hw) (w245_ hw) (rm43 l Z a0 hw G1 qa2 h0 n0 X00 O2 P5 F_qa2_coder) pd14 hml.symm (hb hby d31_16) e3q rfl rfl rfl rfl (by decide)
 obtain ⟨rfl, N4q, e4q⟩ := hQ4
 have N4 := Fr.app N3 N4q
 obtain ⟨T5, h5, X5, e5, W5, st5⟩ := putF X4 hx hZ hown (host := "") (Or.inl (w25_ hw)) Via.refl e4q F_qa1_coder E_qa1 (Or.inr ⟨(w21_ hw), rfl, hnm⟩) (w5_ hw) (ty := .byte) (by decide) rfl rfl (g := (mkF m 24 #[rv qa1, rv qa2, .val .null, rv qa3, iv 5] [.int 0, .ref qa1])) rfl rfl (hb hby d31_24)
 have N5 := Fr.snoc X5 N4 g_qa1
 have K6 := (Keep.refl h0 [qa1]).wr W5 (Or.inl (mI 0 rfl))
 have F7_ : Fld Z h5 qa1 "java/lang/String" "coder" "B" (.int 0) := F_qa1_coder.same W5
 have A9_ := A_qa3.other W5 ne_qa3_qa1
 have O10 := X00.wr W5 g_qa1
 obtain ⟨_, T8, L8, X8, hQ8, st8⟩ := own_cS 1 5 [.ref qa1] 32 #[rv qa1, rv qa2, .val .null, rv qa3, iv 5] X5 hx hZ hown (w246_ hw) (w247_ hw) (w248_ hw) (w249_ hw) (rm92 l Z a0 hw  qa3 qk4 qi5 qi6 h5 n0 O10 A9_) pd29 hml.symm (hb hby d31_32) e5 rfl rfl rfl rfl (by decide)
 obtain ⟨b11, c12_, rfl, N8q, K8q, w13, w14⟩ := hQ8
 have N8 := Fr.app N5 N8q
 have K15 := K6.trans K8q (fun x q => nomatch q)
 have F16_ := F_qa1_value.other W5 (Or.inr (slot_ne (Or.inr (w20_ hw)) (Or.inr (w21_ hw)) (by decide) (t := (.array .byte)) (t' := .byte) (by decide) (by decide)))
 have F17_ := F16_.keep K8q nin0
 have E18_ := E_qa1.wr W5
 have E19_ := E18_.keep K8q
 obtain ⟨T20, h20, X20, e20, W20, st20⟩ := putF X8 hx hZ hown (host := "") (Or.inl (w24_ hw)) Via.refl rfl F17_ E19_ (Or.inr ⟨(w20_ hw), rfl, hnm⟩) (w5_ hw) (ty := (.array .byte)) (by decide) rfl rfl (g := (mkF m 35 #[rv qa1, rv qa2, .val .null, rv qa3, iv 5] [.ref b11, .ref qa1])) rfl rfl (hb hby d31_35)
 have N20 := Fr.snoc X20 N8 g_qa1
 have K21 := K15.wr W20 (Or.inl (mI 0 rfl))
 have F22_ : Fld Z h20 qa1 "java/lang/String" "value" "[B" (.ref b11) := F17_.same W20
 have sz_b11 : h0.size ≤ b11 := Nat.le_trans K6.1 w13
 have E23_ := E19_.wr W20
 have F24_ := F7_.keep K8q nin0
 have F25_ := F24_.other W20 (Or.inr (slot_ne (Or.inr (w21_ hw)) (Or.inr (w20_ hw)) (by decide) (t := .byte) (t' := (.array .byte)) (by decide) (by decide)))
 have A26_ := w14.other W20 (Ne.symm (Nat.ne_of_lt (Nat.lt_of_lt_of_le (Nat.lt_of_lt_of_le E_qa1.lt (Nat.le_of_eq W5.size.symm)) w13)))
 refine own_lvN X20 Bd e20 ⟨b11, c12_, rfl, N20, K21, sz_b11, E23_, F25_, F22_, A26_⟩ rfl (fun fs hr => pre0 _ (by
  show Sx p e below s₁ m 0 #[rv qa1, rv qa2, .val .null, .unset, .unset] [] _
  refine zb X0 Bd d31_0 rfl rfl ?_
  refine st1 _ ?_
  refine zb X1 Bd d31_4 rfl rfl ?_
  refine st2 _ ?_
  refine XS.astoreN X2.here hx rfl (hb hby d31_8) rfl rfl (l' := #[rv qa1, rv qa2, .val .null, rv qa3, .unset]) rfl ?_
  refine zb X2 Bd d31_9 rfl rfl ?_
  refine st3 _ ?_
  refine zs X3 Bd d31_13 (l' := #[rv qa1, rv qa2, .val .null, rv qa3, iv 5]) rfl ?_
  refine zb X3 Bd d31_15 rfl rfl ?_
  refine st4 _ ?_
  refine zo X4 Bd d31_19 (XT.i0_eq_f ((by decide) : ¬ ((1 : Int32) = (0 : Int32)))) ?_
  refine zb X4 Bd d31_22 rfl rfl ?_
  refine zc X4 Bd d31_23 ?_
  refine st5 _ ?_
  refine zb X5 Bd d31_27 rfl rfl ?_
  refine zb X5 Bd d31_28 rfl rfl ?_
  refine zc X5 Bd d31_29 ?_
  refine zi X5 Bd d31_30 rfl ?_
  refine st8 _ ?_
  refine st20 _ ?_
  refine zg (pc' := 97) X20 Bd d31_38 rfl ?_
  exact X20.returnOut hx Bd.returns (hb hby d31_97) hr))
-- java/lang/String.<init>(Ljava/lang/StringBuilder;)V
def Q94 (Z : State) (qa1 : Addr) (qi5 : Int32) (qi6 : Int32) (h0 : Heap) (n0 : Nat) (v : Option Value) (h : Heap) (L : List Loc) : Prop := ∃ b2 : Addr, ∃ c3_ : ClassId, v = none ∧ Fr n0 L ∧ Keep h0 h [qa1] ∧ h0.size ≤ b2 ∧ Exa Z h qa1 "java/lang/String" ∧ Fld Z h qa1 "java/lang/String" "coder" "B" (.int 0) ∧ Fld Z h qa1 "java/lang/String" "value" "[B" (.ref b2) ∧ Arv Z h b2 c3_ .byte (5 : Int32) [.int 123, .int qi5, .int qi6, .int 42, .int 125] (.int 0)
theorem rm94 (l : Launch) (Z : State) (a0 : Array Value) (hw : HW a0 Z) (G1 : Int32) (qa1 : Addr) (qa2 : Addr) (qa3 : Addr) (qk4 : ClassId) (qi5 : Int32) (qi6 : Int32) (h0 : Heap) (n0 : Nat) (X00 : Old Z n0 h0) (O2 : Sta Z Z.heap "java/lang/String" "COMPACT_STRINGS" "Z" (.int G1)) (P5 : ¬ (G1 = (0 : Int32))) (E_qa2 : Exa Z h0 qa2 "java/lang/StringBuilder") (F_qa2_value : Fld Z h0 qa2 "java/lang/AbstractStringBuilder" "value" "[B" (.ref qa3)) (F_qa2_count : Fld Z h0 qa2 "java/lang/AbstractStringBuilder" "count" "I" (.int 5)) (F_qa2_coder : Fld Z h0 qa2 "java/lang/AbstractStringBuilder" "coder" "B" (.int 0)) (E_qa1 : Exa Z h0 qa1 "java/lang/String") (F_qa1_coder : Fld Z h0 qa1 "java/lang/String" "coder" "B" (.int 0)) (g_qa1 : n0 ≤ qa1) (A_qa3 : Arv Z h0 qa3 qk4 .byte (16 : Int32) [.int 123, .int qi5, .int qi6, .int 42, .int 125, .int 0, .int 0, .int 0, .int 0, .int 0, .int 0, .int 0, .int 0, .int 0, .int 0, .int 0] (.int 0)) (ne_qa3_qa1 : qa3 ≠ qa1) (F_qa1_value : Fld Z h0 qa1 "java/lang/String" "value" "[B" .null) :
    MF l Z Y39_ jdk_42_method_53_code 2 none (Rm 4 1 5 65) #[.ref qa1, .ref qa2] h0 (Q94 Z qa1 qi5 qi6 h0 n0) := by
 refine own_sF pn1 rfl (fun m => ef2 m qa1 qa2) ?_
 intro p e s m below meth c s₁ Bd hZ hh hx hby hml hown hnm X0 e0 pre0
 have N0 := Fr.nil n0
 obtain ⟨_, T1, L1, X1, hQ1, st1⟩ := own_cI 1 5 [] 3 #[rv qa1, rv qa2] X0 hx hZ hown (w225_ hw) (w226_ hw) (w6_ hw) (w227_ hw) (rm93 l Z a0 hw G1 qa1 qa2 qa3 qk4 qi5 qi6 h0 n0 X00 O2 P5 E_qa2 F_qa2_value F_qa2_count F_qa2_coder E_qa1 F_qa1_coder g_qa1 A_qa3 ne_qa3_qa1 F_qa1_value) pd30 hml.symm (hb hby d30_3) e0 rfl rfl rfl rfl rfl (by decide)
 obtain ⟨b2, c3_, rfl, N1q, K1q, w4, w5, w6, w7, w8⟩ := hQ1
 have N1 := Fr.app N0 N1q
 have K9 := (Keep.refl h0 [qa1]).trans K1q (allS (Or.inl (mI 0 rfl)) all0)
 have sz_b2 : h0.size ≤ b2 := w4
 have E10_ := E_qa1.keep K1q
 refine own_lvN X1 Bd rfl ⟨b2, c3_, rfl, N1, K9, sz_b2, E10_, w6, w7, w8⟩ rfl (fun fs hr => pre0 _ (by
  show Sx p e below s₁ m 0 #[rv qa1, rv qa2] [] _
  refine zb X0 Bd d30_0 rfl rfl ?_
  refine zb X0 Bd d30_1 rfl rfl ?_
  refine XS.aconstNull X0.here hx rfl (hb hby d30_2) ?_
  refine st1 _ ?_
  exact X1.returnOut hx Bd.returns (hb hby d30_6) hr))
-- java/lang/StringBuilder.toString()Ljava/lang/String;
def Q95 (Z : State) (qi4 : Int32) (qi5 : Int32) (h0 : Heap) (n0 : Nat) (v : Option Value) (h : Heap) (L : List Loc) : Prop := ∃ b1 : Addr, ∃ b12 : Addr, ∃ c13_ : ClassId, v = some (.ref b1) ∧ Fr n0 L ∧ Keep h0 h [] ∧ h0.size ≤ b1 ∧ h0.size ≤ b12 ∧ b1 ≠ b12 ∧ Exa Z h b1 "java/lang/String" ∧ Fld Z h b1 "java/lang/String" "coder" "B" (.int 0) ∧ Fld Z h b1 "java/lang/String" "value" "[B" (.ref b12) ∧ Arv Z h b12 c13_ .byte (5 : Int32) [.int 123, .int qi4, .int qi5, .int 42, .int 125] (.int 0)
theorem rm95 (l : Launch) (Z : State) (a0 : Array Value) (hw : HW a0 Z) (G1 : Int32) (qa1 : Addr) (qa2 : Addr) (qk3 : ClassId) (qi4 : Int32) (qi5 : Int32) (h0 : Heap) (n0 : Nat) (X00 : Old Z n0 h0) (O2 : Sta Z Z.heap "java/lang/String" "COMPACT_STRINGS" "Z" (.int G1)) (P5 : ¬ (G1 = (0 : Int32))) (E_qa1 : Exa Z h0 qa1 "java/lang/StringBuilder") (F_qa1_value : Fld Z h0 qa1 "java/lang/AbstractStringBuilder" "value" "[B" (.ref qa2)) (F_qa1_count : Fld Z h0 qa1 "java/lang/AbstractStringBuilder" "count" "I" (.int 5)) (F_qa1_coder : Fld Z h0 qa1 "java/lang/AbstractStringBuilder" "coder" "B" (.int 0)) (A_qa2 : Arv Z h0 qa2 qk3 .byte (16 : Int32) [.int 123, .int qi4, .int qi5, .int 42, .int 125, .int 0, .int 0, .int 0, .int 0, .int 0, .int 0, .int 0, .int 0, .int 0, .int 0, .int 0] (.int 0)) :
    MF l Z Y40_ jdk_67_method_42_code 1 (some (.object "java/lang/String")) (Rm 5 2 9 79) #[.ref qa1] h0 (Q95 Z qi4 qi5 h0 n0) := by
 refine own_sF pn6 rfl (fun m => ef8 m qa1) ?_
 intro p e s m below meth c s₁ Bd hZ hh hx hby hml hown hnm X0 e0 pre0
 have N0 := Fr.nil n0
 obtain ⟨T1, h1, X1, e1, E1, A1, D1, -, st1⟩ := newO X0 hx hZ hown (w221_ hw) (w5_ hw) (w6_ hw) e0 (g := (mkF m 0 #[rv qa1] [])) rfl (hb hby d29_0) (lE rfl) (lE rfl)
 obtain ⟨b1, g1⟩ : ∃ z, z = h0.size := ⟨_, rfl⟩
 rw [← g1] at A1 D1 st1
 replace X1 : Stand p l e (Rm 5 2 9 79) s m #[.ref qa1] below meth c T1 _ 1 4 := X1
 have K2 := (Keep.refl h0 []).ext E1
 have F3_ : Fld Z h1 b1 "java/lang/String" "value" "[B" .null := D1 (Or.inr (w20_ hw)) (ty := (.array .byte)) (by decide)
 have F4_ : Fld Z h1 b1 "java/lang/String" "coder" "B" (.int 0) := D1 (Or.inr (w21_ hw)) (ty := .byte) (by decide)
 have E6_ := E_qa1.ext E1
 have F7_ := F_qa1_value.ext E1
 have F8_ := F_qa1_count.ext E1
 have F9_ := F_qa1_coder.ext E1
 have g_b1 : n0 ≤ b1 := Nat.le_trans (Nat.le_trans (Nat.le_of_eq X00.1.symm) X00.2.1) (Nat.le_of_eq g1.symm)
 have A10_ := A_qa2.ext E1
 have O11 := X00.ext E1
 obtain ⟨_, T5, L5, X5, hQ5, st5⟩ := own_cI 2 9 [.ref b1] 5 #[rv qa1] X1 hx hZ hown (w222_ hw) (w223_ hw) (w6_ hw) (w224_ hw) (rm94 l Z a0 hw G1 b1 qa1 qa2 qk3 qi4 qi5 h1 n0 O11 O2 P5 E6_ F7_ F8_ F9_ A1 F4_ g_b1 A10_ (Nat.ne_of_lt (Nat.lt_of_lt_of_le A_qa2.lt (Nat.le_of_eq g1.symm))) F3_) pd31 hml.symm (hb hby d29_5) e1 rfl rfl rfl rfl rfl (by decide)
 obtain ⟨b12, c13_, rfl, N5q, K5q, w14, w15, w16, w17, w18⟩ := hQ5
 have N5 := Fr.app N0 N5q
 have sz_b1 : h0.size ≤ b1 := (Nat.le_of_eq g1.symm)
 have K19 := K2.trans K5q (allS (Or.inr sz_b1) all0)
 have sz_b12 : h0.size ≤ b12 := Nat.le_trans K2.1 w14
 have E20_ := A1.keep K5q
 refine own_lvF X5 Bd (.ref b1) rfl ⟨b1, b12, c13_, rfl, N5, K19, sz_b1, sz_b12, (Nat.ne_of_lt (Nat.lt_of_lt_of_le A1.lt w14)), E20_, w16, w17, w18⟩ rfl (fun fs hr => pre0 _ (by
  show Sx p e below s₁ m 0 #[rv qa1] [] _
  refine st1 _ ?_
  refine XS.dup X1.here hx rfl (hb hby d29_3) rfl rfl ?_
  refine zb X1 Bd d29_4 rfl rfl ?_
  refine st5 _ ?_
  exact retOut X5 hx Bd.returns rfl (Or.inr (Or.inr (Or.inr (Or.inr ⟨rfl, rfl, rfl⟩)))) (hb hby d29_8) hr))
-- com/example/echoes_to_canon/echoestocanon/UrlKeys$Value.toString()Ljava/lang/String;
def Q96 (Z : State) (qi4 : Int32) (qi5 : Int32) (h0 : Heap) (n0 : Nat) (v : Option Value) (h : Heap) (L : List Loc) : Prop := ∃ b109 : Addr, ∃ b110 : Addr, ∃ c111_ : ClassId, v = some (.ref b109) ∧ Fr n0 L ∧ Keep h0 h [] ∧ h0.size ≤ b109 ∧ h0.size ≤ b110 ∧ b109 ≠ b110 ∧ Exa Z h b109 "java/lang/String" ∧ Fld Z h b109 "java/lang/String" "coder" "B" (.int 0) ∧ Fld Z h b109 "java/lang/String" "value" "[B" (.ref b110) ∧ Arv Z h b110 c111_ .byte (5 : Int32) [.int 123, (.int ((qi4).toInt8.toInt32)), (.int ((qi5).toInt8.toInt32)), .int 42, .int 125] (.int 0)
theorem rm96 (l : Launch) (Z : State) (a0 : Array Value) (hw : HW a0 Z) (G1 : Int32) (qa1 : Addr) (qa2 : Addr) (qa3 : Addr) (qi4 : Int32) (qi5 : Int32) (qk6 : ClassId) (h0 : Heap) (n0 : Nat) (X00 : Old Z n0 h0) (O2 : Sta Z Z.heap "java/lang/String" "COMPACT_STRINGS" "Z" (.int G1)) (P5 : ¬ (G1 = (0 : Int32))) (F_qa1_variable : Fld Z h0 qa1 "com/example/echoes_to_canon/echoestocanon/UrlKeys$Value" "variable" "Ljava/lang/String;" (.ref qa2)) (F_qa1_run : Fld Z h0 qa1 "com/example/echoes_to_canon/echoestocanon/UrlKeys$Value" "run" "Z" (.int 1)) (E_qa2 : Exa Z h0 qa2 "java/lang/String") (F_qa2_coder : Fld Z h0 qa2 "java/lang/String" "coder" "B" (.int 0)) (F_qa2_value : Fld Z h0 qa2 "java/lang/String" "value" "[B" (.ref qa3)) (hp_qa2 : ∀ c ∈ ([qi4, qi5] : List Int32), ¬ c < 0 ∧ ¬ (255 : Int32) < c) (A_qa3 : Arv Z h0 qa3 qk6 .byte (2 : Int32) ((([qi4, qi5] : List Int32).map (fun c => c.toInt8.toInt32)).map Value.int) (.int 0)) :
    MW l Z consts_1 Y41_ prog_15_method_18_code 1 (some (.object "java/lang/String")) (Rm 6 8 49 91) #[.ref qa1] h0 (Q96 Z qi4 qi5 h0 n0) := by
 refine own_sW pn4 rfl (fun m => ef8 m qa1) ?_
 intro p e s m below meth c s₁ Bd hZ hh hx hby hml hown hnm X0 e0 pre0 hC0 hS0 hk0 hR0
 have N0 := Fr.nil n0
 have hEL := own_EW hw
 have hwS := own_wS hw
 obtain ⟨T1, X1, e1, st1⟩ := getF X0 hx hZ hown (host := "") (Or.inl (w117_ hw)) Via.refl e0 F_qa1_variable (g := (mkF m 1 #[rv qa1] [.ref qa1])) rfl rfl (hb hby d19_1)
 obtain ⟨T2, X2, e2, st2⟩ := getF X1 hx hZ hown (host := "") (Or.inl (w119_ hw)) Via.refl e1 F_qa1_run (g := (mkF m 13 #[rv qa1] [.ref qa1])) rfl rfl (hb hby d19_13)
 obtain ⟨T3, h3, X3, e3, E3, A3, D3, -, st3⟩ := newO X2 hx hZ hown (w158_ hw) (w159_ hw) (w160_ hw) e2 (g := (mkF m 19 #[rv qa1] [])) rfl (hb hby d19_19) (lE rfl) (lE rfl)
 obtain ⟨b3, g3⟩ : ∃ z, z = h0.size := ⟨_, rfl⟩
 rw [← g3] at A3 D3 st3
 replace X3 : Stand p l e (Rm 6 8 49 91) (s.setVm s.vm) m #[.ref qa1] below meth c T3 _ 1 4 := X3
 have K4 := (Keep.refl h0 []).ext E3
 have C5 : CHv Z consts_1 s.vm h3 := CHv.ext E3 hC0
 have R6 : CHr Z consts_1 s.vm h0 s.vm h3 := hR0.trans (CHr.ext E3 hC0)
 have F7_ : Fld Z h3 b3 "java/lang/AbstractStringBuilder" "value" "[B" .null := D3 (Or.inl (w173_ hw)) (ty := (.array .byte)) (by decide)
 have F8_ : Fld Z h3 b3 "java/lang/AbstractStringBuilder" "coder" "B" (.int 0) := D3 (Or.inl (w175_ hw)) (ty := .byte) (by decide)
 have F9_ : Fld Z h3 b3 "java/lang/AbstractStringBuilder" "count" "I" (.int 0) := D3 (Or.inl (w189_ hw)) (ty := .int) (by decide)
 have g_b3 : n0 ≤ b3 := Nat.le_trans (Nat.le_trans (Nat.le_of_eq X00.1.symm) X00.2.1) (Nat.le_of_eq g3.symm)
 have O11 := X00.ext E3
 obtain ⟨_, T10, L10, X10, hQ10, st10⟩ := own_cI 2 20 [.ref b3] 23 #[rv qa1] X3 hx hZ hown (w161_ hw) (w162_ hw) (w160_ hw) (w163_ hw) (rm22 l Z a0 hw G1 b3 h3 n0 O11 O2 P5 A3 F7_ g_b3 F8_ F9_) pd19 hml.symm (hb hby d19_23) e3 rfl rfl rfl rfl rfl (by decide)
 obtain ⟨b12, c13_, rfl, N10q, K10q, w14, w15, w16, w17, w18, w19⟩ := hQ10
 have N10 := Fr.app N0 N10q
 have sz_b3 : h0.size ≤ b3 := (Nat.le_of_eq g3.symm)
 have K20 := K4.trans K10q (allS (Or.inr sz_b3) all0)
 have C21 : CHv Z consts_1 s.vm T10.heap := CHv.keep K10q (sfS (Safe.exa hZ.alike A3 (by decide) (by decide)) sf0) C5
 have R22 : CHr Z consts_1 s.vm h0 s.vm T10.heap := R6.trans (CHr.keep K10q (sfS (Safe.exa hZ.alike A3 (by decide) (by decide)) sf0) C5)
 have hk24' : _ ≤ T10.heap.size := (Nat.le_trans (Nat.le_trans hk0 E3.1) K10q.1)
 obtain ⟨b23, T23, h23, k23, t23, c23, X23, e23, E23, hS23, hk23, hZ23, ho23, Ex23, Fc23, Fv23, Av23, lb23, lt23, CR23, -, sf23, st23⟩ := ldcCH (text := "{") (EL := consts_1) X10 hx hZ hown (w176_ hw) hwS rfl hS0 hk24' hEL (by decide) C21 (vs := [.int 123]) (z := (1 : Int32)) ⟨by decide, by decide⟩ (by decide) (by decide) (g := (mkF m 26 #[rv qa1] [.ref b3])) rfl (hb hby d19_26) (n := 4) (by decide) (lE rfl) (lE rfl) (lE rfl)
 have K25 := K20.ext E23
 have R27 := R22.trans CR23
 replace X23 : Stand p l e (Rm 6 8 49 91) (s.setVm T23.vm) m #[.ref qa1] below meth c T23 _ 4 28 := X23
 have hp29 : ∀ c ∈ ([123] : List Int32), ¬ c < 0 ∧ ¬ (255 : Int32) < c := (List.forall_mem_cons.mpr ⟨(by decide), (fun _ q => nomatch q)⟩)
 have F30_ := w18.ext E23
 have F31_ := w16.ext E23
 have A32_ := w19.ext E23
 have F33_ := w17.ext E23
 have E34_ := A3.keep K10q
 have E35_ := E34_.ext E23
 have g_b12 : n0 ≤ b12 := Nat.le_trans (Nat.le_trans (Nat.le_of_eq O11.1.symm) O11.2.1) w14
 have O36 := O11.keep K10q (allS g_b3 all0)
 have O37 := O36.ext E23
 obtain ⟨_, T28, L28, X28, hQ28, st28⟩ := own_cV 4 28 [] 28 #[rv qa1] X23 hx hZ23 ho23 E35_ (w177_ hw) (w178_ hw) (notFace_of_selects (args := #[]) (mvT hZ23 (w180_ hw))) (w180_ hw) (w179_ hw) (w160_ hw) (w181_ hw) (rm29 l Z a0 hw G1 b3 b23 t23 c23 b12 c13_ h23 n0 O37 O2 P5 Ex23 Fc23 Fv23 hp29 Av23 F30_ F31_ A32_ F33_ E35_ g_b12 (Nat.ne_of_lt (Nat.lt_of_lt_of_le A3.lt w14)) g_b3) pd25 hml.symm (hb hby d19_28) e23 rfl rfl rfl rfl (by decide)
 obtain ⟨rfl, N28q, K28q, w38, w39, w40, w41, w42⟩ := hQ28
 have N28 := Fr.app N10 N28q
 have sz_b12 : h0.size ≤ b12 := Nat.le_trans K4.1 w14
 have K43 := K25.trans K28q (allS (Or.inr sz_b3) (allS (Or.inr sz_b12) all0))
 have f45 : Safe Z consts_1 s.vm T10.heap b12 := Safe.keep K10q (sfS (Safe.exa hZ.alike A3 (by decide) (by decide)) sf0) C5 (Safe.new w14)
 have f46 : Safe Z consts_1 T23.vm h23 b12 := CR23.safe w19.lt f45
 have C44 : CHv Z consts_1 T23.vm T28.heap := CHv.keep K28q (sfS (Safe.exa hZ23.alike E35_ (by decide) (by decide)) (sfS f46 sf0)) CR23.1
 have R47 : CHr Z consts_1 s.vm h0 T23.vm T28.heap := R27.trans (CHr.keep K28q (sfS (Safe.exa hZ23.alike E35_ (by decide) (by decide)) (sfS f46 sf0)) CR23.1)
 have F49_ := F_qa1_variable.ext E3
 have F50_ := F49_.keep K10q (ninS (Nat.ne_of_lt (Nat.lt_of_lt_of_le F_qa1_variable.lt (Nat.le_of_eq g3.symm))) nin0)
 have F51_ := F50_.ext E23
 have F52_ := F51_.keep K28q (ninS (Nat.ne_of_lt (Nat.lt_of_lt_of_le F_qa1_variable.lt (Nat.le_of_eq g3.symm))) (ninS (Nat.ne_of_lt (Nat.lt_of_lt_of_le (Nat.lt_of_lt_of_le F_qa1_variable.lt E3.1) w14)) nin0))
 obtain ⟨T48, X48, e48, st48⟩ := getF X28 hx hZ23 ho23 (host := "") (Or.inl (w117_ hw)) Via.refl rfl F52_ (g := (mkF m 32 #[rv qa1] [.ref qa1, .ref b3])) rfl rfl (hb hby d19_32)
 have E54_ := E_qa2.ext E3
 have E55_ := E54_.keep K10q
 have E56_ := E55_.ext E23
 have E57_ := E56_.keep K28q
 have F58_ := F_qa2_coder.ext E3
 have F59_ := F58_.keep K10q (ninS (Nat.ne_of_lt (Nat.lt_of_lt_of_le E_qa2.lt (Nat.le_of_eq g3.symm))) nin0)
 have F60_ := F59_.ext E23
 have F61_ := F60_.keep K28q (ninS (Nat.ne_of_lt (Nat.lt_of_lt_of_le E_qa2.lt (Nat.le_of_eq g3.symm))) (ninS (Nat.ne_of_lt (Nat.lt_of_lt_of_le (Nat.lt_of_lt_of_le E_qa2.lt E3.1) w14)) nin0))
 have F62_ := F_qa2_value.ext E3
 have F63_ := F62_.keep K10q (ninS (Nat.ne_of_lt (Nat.lt_of_lt_of_le E_qa2.lt (Nat.le_of_eq g3.symm))) nin0)
 have F64_ := F63_.ext E23
 have F65_ := F64_.keep K28q (ninS (Nat.ne_of_lt (Nat.lt_of_lt_of_le E_qa2.lt (Nat.le_of_eq g3.symm))) (ninS (Nat.ne_of_lt (Nat.lt_of_lt_of_le (Nat.lt_of_lt_of_le E_qa2.lt E3.1) w14)) nin0))
 have A66_ := A_qa3.ext E3
 have A67_ := A66_.keep K10q (ninS (Nat.ne_of_lt (Nat.lt_of_lt_of_le A_qa3.lt (Nat.le_of_eq g3.symm))) nin0)
 have A68_ := A67_.ext E23
 have A69_ := A68_.keep K28q (ninS (Nat.ne_of_lt (Nat.lt_of_lt_of_le A_qa3.lt (Nat.le_of_eq g3.symm))) (ninS (Nat.ne_of_lt (Nat.lt_of_lt_of_le (Nat.lt_of_lt_of_le A_qa3.lt E3.1) w14)) nin0))
 have E70_ := E35_.keep K28q
 have O71 := O37.keep K28q (allS g_b3 (allS g_b12 all0))
 obtain ⟨_, T53, L53, X53, hQ53, st53⟩ := own_cV 4 28 [] 35 #[rv qa1] X48 hx hZ23 ho23 E70_ (w177_ hw) (w178_ hw) (notFace_of_selects (args := #[]) (mvT hZ23 (w180_ hw))) (w180_ hw) (w179_ hw) (w160_ hw) (w181_ hw) (rm81 l Z a0 hw G1 b3 qa2 qa3 qi4 qi5 qk6 b12 c13_ T28.heap n0 O71 O2 P5 E57_ F61_ F65_ hp_qa2 A69_ w39 w40 w42 w41 E70_ g_b12 (Nat.ne_of_lt (Nat.lt_of_lt_of_le A3.lt w14)) g_b3) pd25 hml.symm (hb hby d19_35) e48 rfl rfl rfl rfl (by decide)
 obtain ⟨rfl, N53q, K53q, w72, w73, w74, w75, w76⟩ := hQ53
 have N53 := Fr.app N28 N53q
 have K77 := K43.trans K53q (allS (Or.inr sz_b3) (allS (Or.inr sz_b12) all0))
 have f79 : Safe Z consts_1 T23.vm T28.heap b12 := Safe.keep K28q (sfS (Safe.exa hZ23.alike E35_ (by decide) (by decide)) (sfS f46 sf0)) CR23.1 f46
 have C78 : CHv Z consts_1 T23.vm T53.heap := CHv.keep K53q (sfS (Safe.exa hZ23.alike E70_ (by decide) (by decide)) (sfS f79 sf0)) C44
 have R80 : CHr Z consts_1 s.vm h0 T23.vm T53.heap := R47.trans (CHr.keep K53q (sfS (Safe.exa hZ23.alike E70_ (by decide) (by decide)) (sfS f79 sf0)) C44)
 have hk82' : _ ≤ T53.heap.size := (Nat.le_trans (Nat.le_trans hk23 K28q.1) K53q.1)
 obtain ⟨b81, T81, h81, k81, t81, c81, X81, e81, E81, hS81, hk81, hZ81, ho81, Ex81, Fc81, Fv81, Av81, lb81, lt81, CR81, -, sf81, st81⟩ := ldcCH (text := "*}") (EL := consts_1) X53 hx hZ23 ho23 (w215_ hw) hwS rfl hS23 hk82' hEL (by decide) C78 (vs := [.int 42, .int 125]) (z := (2 : Int32)) ⟨by decide, by decide⟩ (by decide) (by decide) (g := (mkF m 38 #[rv qa1] [.ref b3])) rfl (hb hby d19_38) (n := 8) (by decide) (lE rfl) (lE rfl) (lE rfl)
 have K83 := K77.ext E81
 have R85 := R80.trans CR81
 replace X81 : Stand p l e (Rm 6 8 49 91) (s.setVm T81.vm) m #[.ref qa1] below meth c T81 _ 6 40 := X81
 have hp87 : ∀ c ∈ ([42, 125] : List Int32), ¬ c < 0 ∧ ¬ (255 : Int32) < c := (List.forall_mem_cons.mpr ⟨(by decide), (List.forall_mem_cons.mpr ⟨(by decide), (fun _ q => nomatch q)⟩)⟩)
 have F88_ := w73.ext E81
 have F89_ := w74.ext E81
 have A90_ := w76.ext E81
 have F91_ := w75.ext E81
 have E92_ := E70_.keep K53q
 have E93_ := E92_.ext E81
 have O94 := O71.keep K53q (allS g_b3 (allS g_b12 all0))
 have O95 := O94.ext E81
 obtain ⟨_, T86, L86, X86, hQ86, st86⟩ := own_cV 6 40 [] 40 #[rv qa1] X81 hx hZ81 ho81 E93_ (w177_ hw) (w178_ hw) (notFace_of_selects (args := #[]) (mvT hZ81 (w180_ hw))) (w180_ hw) (w179_ hw) (w160_ hw) (w181_ hw) (rm86 l Z a0 hw G1 b3 b81 t81 c81 b12 c13_ ((qi4).toInt8.toInt32) ((qi5).toInt8.toInt32) h81 n0 O95 O2 P5 Ex81 Fc81 Fv81 hp87 Av81 F88_ F89_ A90_ F91_ E93_ g_b12 (Nat.ne_of_lt (Nat.lt_of_lt_of_le A3.lt w14)) g_b3) pd25 hml.symm (hb hby d19_40) e81 rfl rfl rfl rfl (by decide)
 obtain ⟨rfl, N86q, K86q, w96, w97, w98, w99, w100⟩ := hQ86
 have N86 := Fr.app N53 N86q
 have K101 := K83.trans K86q (allS (Or.inr sz_b3) (allS (Or.inr sz_b12) all0))
 have f103 : Safe Z consts_1 T23.vm T53.heap b12 := Safe.keep K53q (sfS (Safe.exa hZ23.alike E70_ (by decide) (by decide)) (sfS f79 sf0)) C44 f79
 have f104 : Safe Z consts_1 T81.vm h81 b12 := CR81.safe (Nat.lt_of_lt_of_le w19.lt (Nat.le_trans (Nat.le_trans E23.1 K28q.1) K53q.1)) f103
 have C102 : CHv Z consts_1 T81.vm T86.heap := CHv.keep K86q (sfS (Safe.exa hZ81.alike E93_ (by decide) (by decide)) (sfS f104 sf0)) CR81.1
 have R105 : CHr Z consts_1 s.vm h0 T81.vm T86.heap := R85.trans (CHr.keep K86q (sfS (Safe.exa hZ81.alike E93_ (by decide) (by decide)) (sfS f104 sf0)) CR81.1)
 have E107_ := E93_.keep K86q
 have O108 := O95.keep K86q (allS g_b3 (allS g_b12 all0))
 obtain ⟨_, T106, L106, X106, hQ106, st106⟩ := own_cV 8 49 [] 43 #[rv qa1] X86 hx hZ81 ho81 E107_ (w216_ hw) (w217_ hw) (notFace_of_selects (args := #[]) (mvT hZ81 (w219_ hw))) (w219_ hw) (w218_ hw) (w160_ hw) (w220_ hw) (rm95 l Z a0 hw G1 b3 b12 c13_ ((qi4).toInt8.toInt32) ((qi5).toInt8.toInt32) T86.heap n0 O108 O2 P5 E107_ w98 w97 w99 w100) pd15 hml.symm (hb hby d19_43) rfl rfl rfl rfl rfl (by decide)
 obtain ⟨b109, b110, c111_, rfl, N106q, K106q, w112, w113, w114, w115, w116, w117, w118⟩ := hQ106
 have N106 := Fr.app N86 N106q
 have K119 := K101.trans K106q (fun x q => nomatch q)
 have C120 : CHv Z consts_1 T81.vm T106.heap := CHv.keep K106q sf0 C102
 have R121 : CHr Z consts_1 s.vm h0 T81.vm T106.heap := R105.trans (CHr.keep K106q sf0 C102)
 have sz_b109 : h0.size ≤ b109 := Nat.le_trans K101.1 w112
 have sz_b110 : h0.size ≤ b110 := Nat.le_trans K101.1 w113
 have hk122' : _ ≤ T106.heap.size := (Nat.le_trans (Nat.le_trans hk81 K86q.1) K106q.1)
 refine own_lvW X106 Bd.notSynchronized hS81 hk122' (v := (some (.ref b109))) (fun h => by rw [Bd.returns] at h; cases h) rfl hh ⟨b109, b110, c111_, rfl, N106, K119, sz_b109, sz_b110, w114, w115, w116, w117, w118⟩ (R121.trans (CHv.at X106 hZ81 hEL C120)) (lE rfl) (lE rfl) (fun fs hr => pre0 _ (by
  show Sx p e below s₁ m 0 #[rv qa1] [] _
  refine zb X0 Bd d19_0 rfl rfl ?_
  refine st1 _ ?_
  refine XS.ifnonnullYes X1.here hx rfl (pc0 := 4) (pc' := 12) rfl (hb hby d19_4) rfl (by decide) (by decide) ?_
  refine zb X1 Bd d19_12 rfl rfl ?_
  refine st2 _ ?_
  refine zo X2 Bd d19_16 (XT.i0_eq_f ((by decide) : ¬ ((1 : Int32) = (0 : Int32)))) ?_
  refine st3 _ ?_
  refine XS.dup X3.here hx rfl (hb hby d19_22) rfl rfl ?_
  refine st10 _ ?_
  refine st23 _ ?_
  refine st28 _ ?_
  refine zb X28 Bd d19_31 rfl rfl ?_
  refine st48 _ ?_
  refine st53 _ ?_
  refine st81 _ ?_
  refine st86 _ ?_
  refine st106 _ ?_
  exact retOut X106 hx Bd.returns rfl (Or.inr (Or.inr (Or.inr (Or.inr ⟨rfl, rfl, rfl⟩)))) (hb hby d19_46) hr))
theorem d0_59 : decode method_2_code 59 = .ok (.new 7, 3) := by decide +kernel
theorem d0_62 : decode method_2_code 62 = .ok (.dup, 1) := by decide +kernel
theorem d0_63 : decode method_2_code 63 = .ok (.iconst 3, 1) := by decide +kernel
theorem d0_64 : decode method_2_code 64 = .ok (.newarray .char, 2) := by decide +kernel
theorem d0_66 : decode method_2_code 66 = .ok (.dup, 1) := by decide +kernel
theorem d0_67 : decode method_2_code 67 = .ok (.iconst 0, 1) := by decide +kernel
theorem d0_68 : decode method_2_code 68 = .ok (.iload_n 1, 1) := by decide +kernel
theorem d0_69 : decode method_2_code 69 = .ok (.castore, 1) := by decide +kernel
theorem d0_70 : decode method_2_code 70 = .ok (.dup, 1) := by decide +kernel
theorem d0_71 : decode method_2_code 71 = .ok (.iconst 1, 1) := by decide +kernel
theorem d0_72 : decode method_2_code 72 = .ok (.iload_n 2, 1) := by decide +kernel
theorem d0_73 : decode method_2_code 73 = .ok (.castore, 1) := by decide +kernel
theorem d0_74 : decode method_2_code 74 = .ok (.dup, 1) := by decide +kernel
theorem d0_75 : decode method_2_code 75 = .ok (.iconst 2, 1) := by decide +kernel
theorem d0_76 : decode method_2_code 76 = .ok (.iload_n 3, 1) := by decide +kernel
theorem d0_77 : decode method_2_code 77 = .ok (.castore, 1) := by decide +kernel
theorem d0_78 : decode method_2_code 78 = .ok (.invokespecial 9, 3) := by decide +kernel
theorem d0_81 : decode method_2_code 81 = .ok (.areturn, 1) := by decide +kernel
-- com/example/echoes_to_canon/echoestocanon/UrlKeysRestPinLaw.nameOf(ICCC)Ljava/lang/String;
def Q97 (Z : State) (qi2 : Int32) (qi3 : Int32) (qi4 : Int32) (h0 : Heap) (n0 : Nat) (v : Option Value) (h : Heap) (L : List Loc) : Prop := ∃ b4 : Addr, ∃ b48 : Addr, ∃ c48_ : ClassId, v = some (.ref b4) ∧ Fr n0 L ∧ Keep h0 h [] ∧ h0.size ≤ b4 ∧ h0.size ≤ b48 ∧ b4 ≠ b48 ∧ Exa Z h b4 "java/lang/String" ∧ Fld Z h b4 "java/lang/String" "coder" "B" (.int 0) ∧ Fld Z h b4 "java/lang/String" "value" "[B" (.ref b48) ∧ Arv Z h b48 c48_ .byte (3 : Int32) ((([qi2, qi3, qi4] : List Int32).map (fun c => c.toInt8.toInt32)).map Value.int) (.int 0)
theorem rm97 (l : Launch) (Z : State) (a0 : Array Value) (hw : HW a0 Z) (G1 : Int32) (qi1 : Int32) (qi2 : Int32) (qi3 : Int32) (qi4 : Int32) (h0 : Heap) (n0 : Nat) (X00 : Old Z n0 h0) (O2 : Sta Z Z.heap "java/lang/String" "COMPACT_STRINGS" "Z" (.int G1)) (P5 : ¬ (G1 = (0 : Int32))) (hc1 : ¬ (qi1 = (0 : Int32))) (hc2 : ¬ (qi1 = (1 : Int32))) (hc3 : ¬ (qi1 = (2 : Int32))) (hl15 : ¬ qi2 < 0 ∧ ¬ (255 : Int32) < qi2) (hl20 : ¬ qi3 < 0 ∧ ¬ (255 : Int32) < qi3) (hl25 : ¬ qi4 < 0 ∧ ¬ (255 : Int32) < qi4) :
    MF l Z Y2_ method_2_code 4 (some (.object "java/lang/String")) (Rm 4 3 10 66) #[.int qi1, .int qi2, .int qi3, .int qi4] h0 (Q97 Z qi2 qi3 qi4 h0 n0) := by
 refine own_sF pn0 rfl (fun m => ef1 m qi1 qi2 qi3 qi4) ?_
 intro p e s m below meth c s₁ Bd hZ hh hx hby hml hown hnm X0 e0 pre0
 have N0 := Fr.nil n0
 obtain ⟨T4, h4, X4, e4, E4, A4, D4, -, st4⟩ := newO X0 hx hZ hown (w4_ hw) (w5_ hw) (w6_ hw) e0 (g := (mkF m 59 #[iv qi1, iv qi2, iv qi3, iv qi4] [])) rfl (hb hby d0_59) (lE rfl) (lE rfl)
 obtain ⟨b4, g4⟩ : ∃ z, z = h0.size := ⟨_, rfl⟩
 rw [← g4] at A4 D4 st4
 replace X4 : Stand p l e (Rm 4 3 10 66) s m #[.int qi1, .int qi2, .int qi3, .int qi4] below meth c T4 _ 1 4 := X4
 have K5 := (Keep.refl h0 []).ext E4
 have F6_ : Fld Z h4 b4 "java/lang/String" "value" "[B" .null := D4 (Or.inr (w20_ hw)) (ty := (.array .byte)) (by decide)
 have F7_ : Fld Z h4 b4 "java/lang/String" "coder" "B" (.int 0) := D4 (Or.inr (w21_ hw)) (ty := .byte) (by decide)
 obtain ⟨T8, h8, c8, X8, e8, E8, A8, st8⟩ := newP (aty := .char) X4 hx hZ (w7_ hw) e4 (g := (mkF m 64 #[iv qi1, iv qi2, iv qi3, iv qi4] [.int 3, .ref b4, .ref b4])) rfl (hb hby d0_64) rfl (by decide) (cap := 3) (by decide) (lE rfl) (lE rfl) (lE rfl)
 obtain ⟨b8, g8⟩ : ∃ z, z = h4.size := ⟨_, rfl⟩
 rw [← g8] at A8 st8
 replace X8 : Stand p l e (Rm 4 3 10 66) s m #[.int qi1, .int qi2, .int qi3, .int qi4] below meth c T8 _ 2 7 := X8
 have K9 := K5.ext E8
 have A10_ : Arv Z h8 b8 c8 .char (3 : Int32) [.int 0, .int 0, .int 0] (.int 0) := (Arv.new A8 (by decide)).pad (pad_rep [] (.int 0) 3)
 have av11 := A10_
 obtain ⟨cl11, Ar11, q11, S11, N11, H11, Gf11⟩ := av11
 have hin12 : ¬ ((0 : Int32) < 0 ∨ cl11.slots.size ≤ ((0 : Int32) : Int32).toNatClampNeg) := inb_of S11 (by decide)
 obtain ⟨T12, h12, X12, e12, W12, st12⟩ := stC X8 hx hZ e8 Ar11 (j := (0 : Int32)) hin12 (g := (mkF m 69 #[iv qi1, iv qi2, iv qi3, iv qi4] [.int qi2, .int 0, .ref b8, .ref b8, .ref b4, .ref b4])) rfl rfl (hb hby d0_69)
 have O13 := X00.ext E4
 have g_b8 : n0 ≤ b8 := Nat.le_trans (Nat.le_trans (Nat.le_of_eq O13.1.symm) O13.2.1) (Nat.le_of_eq g8.symm)
 have N12_ := Fr.snoc X12 N0 g_b8
 have sz_b8 : h0.size ≤ b8 := Nat.le_trans K5.1 (Nat.le_of_eq g8.symm)
 have K14 := K9.wr W12 (Or.inr sz_b8)
 have A16_ : Arv Z h12 b8 c8 .char (3 : Int32) [.int qi2, .int 0, .int 0] (.int 0) := by have q := Arv.set (v := .int (nar .char qi2)) Ar11 q11 S11 N11 H11 Gf11 (fits_nar_char _) W12 0 (by decide) (lE rfl); rw [((own_nar_lat hl15) : nar .char qi2 = qi2)] at q; exact q
 have av17 := A16_
 obtain ⟨cl17, Ar17, q17, S17, N17, H17, Gf17⟩ := av17
 have hin18 : ¬ ((1 : Int32) < 0 ∨ cl17.slots.size ≤ ((1 : Int32) : Int32).toNatClampNeg) := inb_of S17 (by decide)
 obtain ⟨T18, h18, X18, e18, W18, st18⟩ := stC X12 hx hZ e12 Ar17 (j := (1 : Int32)) hin18 (g := (mkF m 73 #[iv qi1, iv qi2, iv qi3, iv qi4] [.int qi3, .int 1, .ref b8, .ref b8, .ref b4, .ref b4])) rfl rfl (hb hby d0_73)
 have N18_ := Fr.snoc X18 N12_ g_b8
 have K19 := K14.wr W18 (Or.inr sz_b8)
 have A21_ : Arv Z h18 b8 c8 .char (3 : Int32) [.int qi2, .int qi3, .int 0] (.int 0) := by have q := Arv.set (v := .int (nar .char qi3)) Ar17 q17 S17 N17 H17 Gf17 (fits_nar_char _) W18 1 (by decide) (lE rfl); rw [((own_nar_lat hl20) : nar .char qi3 = qi3)] at q; exact q
 have av22 := A21_
 obtain ⟨cl22, Ar22, q22, S22, N22, H22, Gf22⟩ := av22
 have hin23 : ¬ ((2 : Int32) < 0 ∨ cl22.slots.size ≤ ((2 : Int32) : Int32).toNatClampNeg) := inb_of S22 (by decide)
 obtain ⟨T23, h23, X23, e23, W23, st23⟩ := stC X18 hx hZ e18 Ar22 (j := (2 : Int32)) hin23 (g := (mkF m 77 #[iv qi1, iv qi2, iv qi3, iv qi4] [.int qi4, .int 2, .ref b8, .ref b8, .ref b4, .ref b4])) rfl rfl (hb hby d0_77)
 have N23_ := Fr.snoc X23 N18_ g_b8
 have K24 := K19.wr W23 (Or.inr sz_b8)
 have A26_ : Arv Z h23 b8 c8 .char (3 : Int32) [.int qi2, .int qi3, .int qi4] (.int 0) := by have q := Arv.set (v := .int (nar .char qi4)) Ar22 q22 S22 N22 H22 Gf22 (fits_nar_char _) W23 2 (by decide) (lE rfl); rw [((own_nar_lat hl25) : nar .char qi4 = qi4)] at q; exact q
 have hp28 : ∀ c ∈ ([qi2, qi3, qi4] : List Int32), ¬ c < 0 ∧ ¬ (255 : Int32) < c := (List.forall_mem_cons.mpr ⟨hl15, (List.forall_mem_cons.mpr ⟨hl20, (List.forall_mem_cons.mpr ⟨hl25, (fun _ q => nomatch q)⟩)⟩)⟩)
 have g_b4 : n0 ≤ b4 := Nat.le_trans (Nat.le_trans (Nat.le_of_eq X00.1.symm) X00.2.1) (Nat.le_of_eq g4.symm)
 have O32 := O13.ext E8
 have O33 := O32.wr W12 g_b8
 have O34 := O33.wr W18 g_b8
 have O35 := O34.wr W23 g_b8
 have E36_ := A4.ext E8
 have E37_ := E36_.wr W12
 have E38_ := E37_.wr W18
 have E39_ := E38_.wr W23
 have F40_ := F6_.ext E8
 have F41_ := F40_.other W12 (Or.inl (Nat.ne_of_lt (Nat.lt_of_lt_of_le A4.lt (Nat.le_of_eq g8.symm))))
 have F42_ := F41_.other W18 (Or.inl (Nat.ne_of_lt (Nat.lt_of_lt_of_le A4.lt (Nat.le_of_eq g8.symm))))
 have F43_ := F42_.other W23 (Or.inl (Nat.ne_of_lt (Nat.lt_of_lt_of_le A4.lt (Nat.le_of_eq g8.symm))))
 have F44_ := F7_.ext E8
 have F45_ := F44_.other W12 (Or.inl (Nat.ne_of_lt (Nat.lt_of_lt_of_le A4.lt (Nat.le_of_eq g8.symm))))
 have F46_ := F45_.other W18 (Or.inl (Nat.ne_of_lt (Nat.lt_of_lt_of_le A4.lt (Nat.le_of_eq g8.symm))))
 have F47_ := F46_.other W23 (Or.inl (Nat.ne_of_lt (Nat.lt_of_lt_of_le A4.lt (Nat.le_of_eq g8.symm))))
 obtain ⟨_, T27, L27, X27, hQ27, st27⟩ := own_cb 2 7 1 3 3 10 (X23.specialBack hx (y := Y1_) rfl hown (mvT hZ (w8_ hw)) (mvT hZ (w9_ hw)) (mvT hZ (w10_ hw)) (by decide) (StrChars.Road.backV (W := 1) hZ (own_ws hw) (kI := 4) (w5_ hw) (cs := ([qi2, qi3, qi4] : List Int32)) (bs := ([qi2, qi3, qi4] : List Int32).map (fun c => c.toInt8.toInt32)) (n := 3) g_b4 (Nat.le_trans (Nat.le_of_eq O35.1.symm) O35.2.1) E39_ F43_ F47_ A26_ (O2.ext O35.2) P5 rfl rfl (lE rfl) (lE rfl) hp28 rfl (lE rfl) (lE rfl)) (g := (mkF m 78 #[iv qi1, iv qi2, iv qi3, iv qi4] [.ref b8, .ref b4, .ref b4])) rfl hml.symm (Steps.refl _) (a := b4) (argsL := [.ref b8]) (rest := [.ref b4]) (lenOf pd1 rfl) rfl (own_hw rfl) (hb hby d0_78) (fun _ _ => ⟨rfl, e23, (lE rfl : 2 + 1 ≤ _), (lE rfl : 7 + 3 ≤ _)⟩)) rfl rfl
 obtain ⟨rfl, N27q, K27q, E27q, C27q, b48, c48_, u48, g48, ne48, V48_, A48_⟩ := hQ27
 have N27 := Fr.app N23_ N27q
 have sz_b4 : h0.size ≤ b4 := (Nat.le_of_eq g4.symm)
 have K49 := K24.trans K27q (allS (Or.inr sz_b4) all0)
 have sz_b48 : h0.size ≤ b48 := Nat.le_trans K24.1 g48
 have E50_ := E39_.keep K27q
 refine own_lvF X27 Bd (.ref b4) rfl ⟨b4, b48, c48_, rfl, N27, K49, sz_b4, sz_b48, (Ne.symm ne48), E50_, C27q, V48_, A48_⟩ rfl (fun fs hr => pre0 _ (by
  show Sx p e below s₁ m 0 #[iv qi1, iv qi2, iv qi3, iv qi4] [] _
  refine zj X0 Bd d0_0 rfl ?_
  refine zp (pc' := 15) X0 Bd d0_1 (XT.i0_ne_t (hc1 : ¬ (qi1 = (0 : Int32)))) rfl ?_
  refine zj X0 Bd d0_15 rfl ?_
  refine zc X0 Bd d0_16 ?_
  refine zy (pc' := 35) X0 Bd d0_17 (XT.ii_ne_t (hc2 : ¬ (qi1 = (1 : Int32)))) rfl ?_
  refine zj X0 Bd d0_35 rfl ?_
  refine zc X0 Bd d0_36 ?_
  refine zy (pc' := 59) X0 Bd d0_37 (XT.ii_ne_t (hc3 : ¬ (qi1 = (2 : Int32)))) rfl ?_
  refine st4 _ ?_
  refine XS.dup X4.here hx rfl (hb hby d0_62) rfl rfl ?_
  refine zc X4 Bd d0_63 ?_
  refine st8 _ ?_
  refine XS.dup X8.here hx rfl (hb hby d0_66) rfl rfl ?_
  refine zc X8 Bd d0_67 ?_
  refine zj X8 Bd d0_68 rfl ?_
  refine st12 _ ?_
  refine XS.dup X12.here hx rfl (hb hby d0_70) rfl rfl ?_
  refine zc X12 Bd d0_71 ?_
  refine zj X12 Bd d0_72 rfl ?_
  refine st18 _ ?_
  refine XS.dup X18.here hx rfl (hb hby d0_74) rfl rfl ?_
  refine zc X18 Bd d0_75 ?_
  refine zj X18 Bd d0_76 rfl ?_
  refine st23 _ ?_
  refine st27.trans ?_
  show Sx p e below T27 m 81 #[iv qi1, iv qi2, iv qi3, iv qi4] [.ref b4] _
  exact retOut X27 hx Bd.returns rfl (Or.inr (Or.inr (Or.inr (Or.inr ⟨rfl, rfl, rfl⟩)))) (hb hby d0_81) hr))
theorem d3_104 : decode method_3_code 104 = .ok (.new 7, 3) := by decide +kernel
theorem d3_107 : decode method_3_code 107 = .ok (.dup, 1) := by decide +kernel
theorem d3_108 : decode method_3_code 108 = .ok (.bipush 6, 2) := by decide +kernel
theorem d3_110 : decode method_3_code 110 = .ok (.newarray .char, 2) := by decide +kernel
theorem d3_112 : decode method_3_code 112 = .ok (.dup, 1) := by decide +kernel
theorem d3_113 : decode method_3_code 113 = .ok (.iconst 0, 1) := by decide +kernel
theorem d3_114 : decode method_3_code 114 = .ok (.bipush 123, 2) := by decide +kernel
theorem d3_116 : decode method_3_code 116 = .ok (.castore, 1) := by decide +kernel
theorem d3_117 : decode method_3_code 117 = .ok (.dup, 1) := by decide +kernel
theorem d3_118 : decode method_3_code 118 = .ok (.iconst 1, 1) := by decide +kernel
theorem d3_119 : decode method_3_code 119 = .ok (.iload_n 1, 1) := by decide +kernel
theorem d3_120 : decode method_3_code 120 = .ok (.castore, 1) := by decide +kernel
theorem d3_121 : decode method_3_code 121 = .ok (.dup, 1) := by decide +kernel
theorem d3_122 : decode method_3_code 122 = .ok (.iconst 2, 1) := by decide +kernel
theorem d3_123 : decode method_3_code 123 = .ok (.iload_n 2, 1) := by decide +kernel
theorem d3_124 : decode method_3_code 124 = .ok (.castore, 1) := by decide +kernel
theorem d3_125 : decode method_3_code 125 = .ok (.dup, 1) := by decide +kernel
theorem d3_126 : decode method_3_code 126 = .ok (.iconst 3, 1) := by decide +kernel
theorem d3_127 : decode method_3_code 127 = .ok (.iload_n 3, 1) := by decide +kernel
theorem d3_128 : decode method_3_code 128 = .ok (.castore, 1) := by decide +kernel
theorem d3_129 : decode method_3_code 129 = .ok (.dup, 1) := by decide +kernel
theorem d3_130 : decode method_3_code 130 = .ok (.iconst 4, 1) := by decide +kernel
theorem d3_131 : decode method_3_code 131 = .ok (.bipush 42, 2) := by decide +kernel
theorem d3_133 : decode method_3_code 133 = .ok (.castore, 1) := by decide +kernel
theorem d3_134 : decode method_3_code 134 = .ok (.dup, 1) := by decide +kernel
theorem d3_135 : decode method_3_code 135 = .ok (.iconst 5, 1) := by decide +kernel
theorem d3_136 : decode method_3_code 136 = .ok (.bipush 125, 2) := by decide +kernel
theorem d3_138 : decode method_3_code 138 = .ok (.castore, 1) := by decide +kernel
theorem d3_139 : decode method_3_code 139 = .ok (.invokespecial 9, 3) := by decide +kernel
theorem d3_142 : decode method_3_code 142 = .ok (.areturn, 1) := by decide +kernel
-- com/example/echoes_to_canon/echoestocanon/UrlKeysRestPinLaw.shownOf(ICCC)Ljava/lang/String;
def Q98 (Z : State) (qi2 : Int32) (qi3 : Int32) (qi4 : Int32) (h0 : Heap) (n0 : Nat) (v : Option Value) (h : Heap) (L : List Loc) : Prop := ∃ b4 : Addr, ∃ b72 : Addr, ∃ c72_ : ClassId, v = some (.ref b4) ∧ Fr n0 L ∧ Keep h0 h [] ∧ h0.size ≤ b4 ∧ h0.size ≤ b72 ∧ b4 ≠ b72 ∧ Exa Z h b4 "java/lang/String" ∧ Fld Z h b4 "java/lang/String" "coder" "B" (.int 0) ∧ Fld Z h b4 "java/lang/String" "value" "[B" (.ref b72) ∧ Arv Z h b72 c72_ .byte (6 : Int32) ((([123, qi2, qi3, qi4, 42, 125] : List Int32).map (fun c => c.toInt8.toInt32)).map Value.int) (.int 0)
theorem rm98 (l : Launch) (Z : State) (a0 : Array Value) (hw : HW a0 Z) (G1 : Int32) (qi1 : Int32) (qi2 : Int32) (qi3 : Int32) (qi4 : Int32) (h0 : Heap) (n0 : Nat) (X00 : Old Z n0 h0) (O2 : Sta Z Z.heap "java/lang/String" "COMPACT_STRINGS" "Z" (.int G1)) (P5 : ¬ (G1 = (0 : Int32))) (hc1 : ¬ (qi1 = (0 : Int32))) (hc2 : ¬ (qi1 = (1 : Int32))) (hc3 : ¬ (qi1 = (2 : Int32))) (hl19 : ¬ qi2 < 0 ∧ ¬ (255 : Int32) < qi2) (hl24 : ¬ qi3 < 0 ∧ ¬ (255 : Int32) < qi3) (hl29 : ¬ qi4 < 0 ∧ ¬ (255 : Int32) < qi4) :
    MF l Z Y3_ method_3_code 4 (some (.object "java/lang/String")) (Rm 4 3 16 66) #[.int qi1, .int qi2, .int qi3, .int qi4] h0 (Q98 Z qi2 qi3 qi4 h0 n0) := by
 refine own_sF pn0 rfl (fun m => ef1 m qi1 qi2 qi3 qi4) ?_
 intro p e s m below meth c s₁ Bd hZ hh hx hby hml hown hnm X0 e0 pre0
 have N0 := Fr.nil n0
 obtain ⟨T4, h4, X4, e4, E4, A4, D4, -, st4⟩ := newO X0 hx hZ hown (w4_ hw) (w5_ hw) (w6_ hw) e0 (g := (mkF m 104 #[iv qi1, iv qi2, iv qi3, iv qi4] [])) rfl (hb hby d3_104) (lE rfl) (lE rfl)
 obtain ⟨b4, g4⟩ : ∃ z, z = h0.size := ⟨_, rfl⟩
 rw [← g4] at A4 D4 st4
 replace X4 : Stand p l e (Rm 4 3 16 66) s m #[.int qi1, .int qi2, .int qi3, .int qi4] below meth c T4 _ 1 4 := X4
 have K5 := (Keep.refl h0 []).ext E4
 have F6_ : Fld Z h4 b4 "java/lang/String" "value" "[B" .null := D4 (Or.inr (w20_ hw)) (ty := (.array .byte)) (by decide)
 have F7_ : Fld Z h4 b4 "java/lang/String" "coder" "B" (.int 0) := D4 (Or.inr (w21_ hw)) (ty := .byte) (by decide)
 obtain ⟨T8, h8, c8, X8, e8, E8, A8, st8⟩ := newP (aty := .char) X4 hx hZ (w7_ hw) e4 (g := (mkF m 110 #[iv qi1, iv qi2, iv qi3, iv qi4] [.int 6, .ref b4, .ref b4])) rfl (hb hby d3_110) rfl (by decide) (cap := 6) (by decide) (lE rfl) (lE rfl) (lE rfl)
 obtain ⟨b8, g8⟩ : ∃ z, z = h4.size := ⟨_, rfl⟩
 rw [← g8] at A8 st8
 replace X8 : Stand p l e (Rm 4 3 16 66) s m #[.int qi1, .int qi2, .int qi3, .int qi4] below meth c T8 _ 2 10 := X8
 have K9 := K5.ext E8
 have A10_ : Arv Z h8 b8 c8 .char (6 : Int32) [.int 0, .int 0, .int 0, .int 0, .int 0, .int 0] (.int 0) := (Arv.new A8 (by decide)).pad (pad_rep [] (.int 0) 6)
 have av11 := A10_
 obtain ⟨cl11, Ar11, q11, S11, N11, H11, Gf11⟩ := av11
 have hin12 : ¬ ((0 : Int32) < 0 ∨ cl11.slots.size ≤ ((0 : Int32) : Int32).toNatClampNeg) := inb_of S11 (by decide)
 obtain ⟨T12, h12, X12, e12, W12, st12⟩ := stC X8 hx hZ e8 Ar11 (j := (0 : Int32)) hin12 (g := (mkF m 116 #[iv qi1, iv qi2, iv qi3, iv qi4] [.int 123, .int 0, .ref b8, .ref b8, .ref b4, .ref b4])) rfl rfl (hb hby d3_116)
 have O13 := X00.ext E4
 have g_b8 : n0 ≤ b8 := Nat.le_trans (Nat.le_trans (Nat.le_of_eq O13.1.symm) O13.2.1) (Nat.le_of_eq g8.symm)
 have N12_ := Fr.snoc X12 N0 g_b8
 have sz_b8 : h0.size ≤ b8 := Nat.le_trans K5.1 (Nat.le_of_eq g8.symm)
 have K14 := K9.wr W12 (Or.inr sz_b8)
 have A15_ : Arv Z h12 b8 c8 .char (6 : Int32) [.int 123, .int 0, .int 0, .int 0, .int 0, .int 0] (.int 0) := Arv.set Ar11 q11 S11 N11 H11 Gf11 (fits_nar_char _) W12 0 (by decide) (lE rfl)
 have av16 := A15_
 obtain ⟨cl16, Ar16, q16, S16, N16, H16, Gf16⟩ := av16
 have hin17 : ¬ ((1 : Int32) < 0 ∨ cl16.slots.size ≤ ((1 : Int32) : Int32).toNatClampNeg) := inb_of S16 (by decide)
 obtain ⟨T17, h17, X17, e17, W17, st17⟩ := stC X12 hx hZ e12 Ar16 (j := (1 : Int32)) hin17 (g := (mkF m 120 #[iv qi1, iv qi2, iv qi3, iv qi4] [.int qi2, .int 1, .ref b8, .ref b8, .ref b4, .ref b4])) rfl rfl (hb hby d3_120)
 have N17_ := Fr.snoc X17 N12_ g_b8
 have K18 := K14.wr W17 (Or.inr sz_b8)
 have A20_ : Arv Z h17 b8 c8 .char (6 : Int32) [.int 123, .int qi2, .int 0, .int 0, .int 0, .int 0] (.int 0) := by have q := Arv.set (v := .int (nar .char qi2)) Ar16 q16 S16 N16 H16 Gf16 (fits_nar_char _) W17 1 (by decide) (lE rfl); rw [((own_nar_lat hl19) : nar .char qi2 = qi2)] at q; exact q
 have av21 := A20_
 obtain ⟨cl21, Ar21, q21, S21, N21, H21, Gf21⟩ := av21
 have hin22 : ¬ ((2 : Int32) < 0 ∨ cl21.slots.size ≤ ((2 : Int32) : Int32).toNatClampNeg) := inb_of S21 (by decide)
 obtain ⟨T22, h22, X22, e22, W22, st22⟩ := stC X17 hx hZ e17 Ar21 (j := (2 : Int32)) hin22 (g := (mkF m 124 #[iv qi1, iv qi2, iv qi3, iv qi4] [.int qi3, .int 2, .ref b8, .ref b8, .ref b4, .ref b4])) rfl rfl (hb hby d3_124)
 have N22_ := Fr.snoc X22 N17_ g_b8
 have K23 := K18.wr W22 (Or.inr sz_b8)
 have A25_ : Arv Z h22 b8 c8 .char (6 : Int32) [.int 123, .int qi2, .int qi3, .int 0, .int 0, .int 0] (.int 0) := by have q := Arv.set (v := .int (nar .char qi3)) Ar21 q21 S21 N21 H21 Gf21 (fits_nar_char _) W22 2 (by decide) (lE rfl); rw [((own_nar_lat hl24) : nar .char qi3 = qi3)] at q; exact q
 have av26 := A25_
 obtain ⟨cl26, Ar26, q26, S26, N26, H26, Gf26⟩ := av26
 have hin27 : ¬ ((3 : Int32) < 0 ∨ cl26.slots.size ≤ ((3 : Int32) : Int32).toNatClampNeg) := inb_of S26 (by decide)
 obtain ⟨T27, h27, X27, e27, W27, st27⟩ := stC X22 hx hZ e22 Ar26 (j := (3 : Int32)) hin27 (g := (mkF m 128 #[iv qi1, iv qi2, iv qi3, iv qi4] [.int qi4, .int 3, .ref b8, .ref b8, .ref b4, .ref b4])) rfl rfl (hb hby d3_128)
 have N27_ := Fr.snoc X27 N22_ g_b8
 have K28 := K23.wr W27 (Or.inr sz_b8)
 have A30_ : Arv Z h27 b8 c8 .char (6 : Int32) [.int 123, .int qi2, .int qi3, .int qi4, .int 0, .int 0] (.int 0) := by have q := Arv.set (v := .int (nar .char qi4)) Ar26 q26 S26 N26 H26 Gf26 (fits_nar_char _) W27 3 (by decide) (lE rfl); rw [((own_nar_lat hl29) : nar .char qi4 = qi4)] at q; exact q
 have av31 := A30_
 obtain ⟨cl31, Ar31, q31, S31, N31, H31, Gf31⟩ := av31
 have hin32 : ¬ ((4 : Int32) < 0 ∨ cl31.slots.size ≤ ((4 : Int32) : Int32).toNatClampNeg) := inb_of S31 (by decide)
 obtain ⟨T32, h32, X32, e32, W32, st32⟩ := stC X27 hx hZ e27 Ar31 (j := (4 : Int32)) hin32 (g := (mkF m 133 #[iv qi1, iv qi2, iv qi3, iv qi4] [.int 42, .int 4, .ref b8, .ref b8, .ref b4, .ref b4])) rfl rfl (hb hby d3_133)
 have N32_ := Fr.snoc X32 N27_ g_b8
 have K33 := K28.wr W32 (Or.inr sz_b8)
 have A34_ : Arv Z h32 b8 c8 .char (6 : Int32) [.int 123, .int qi2, .int qi3, .int qi4, .int 42, .int 0] (.int 0) := Arv.set Ar31 q31 S31 N31 H31 Gf31 (fits_nar_char _) W32 4 (by decide) (lE rfl)
 have av35 := A34_
 obtain ⟨cl35, Ar35, q35, S35, N35, H35, Gf35⟩ := av35
 have hin36 : ¬ ((5 : Int32) < 0 ∨ cl35.slots.size ≤ ((5 : Int32) : Int32).toNatClampNeg) := inb_of S35 (by decide)
 obtain ⟨T36, h36, X36, e36, W36, st36⟩ := stC X32 hx hZ e32 Ar35 (j := (5 : Int32)) hin36 (g := (mkF m 138 #[iv qi1, iv qi2, iv qi3, iv qi4] [.int 125, .int 5, .ref b8, .ref b8, .ref b4, .ref b4])) rfl rfl (hb hby d3_138)
 have N36_ := Fr.snoc X36 N32_ g_b8
 have K37 := K33.wr W36 (Or.inr sz_b8)
 have A38_ : Arv Z h36 b8 c8 .char (6 : Int32) [.int 123, .int qi2, .int qi3, .int qi4, .int 42, .int 125] (.int 0) := Arv.set Ar35 q35 S35 N35 H35 Gf35 (fits_nar_char _) W36 5 (by decide) (lE rfl)
 have hp40 : ∀ c ∈ ([123, qi2, qi3, qi4, 42, 125] : List Int32), ¬ c < 0 ∧ ¬ (255 : Int32) < c := (List.forall_mem_cons.mpr ⟨(by decide), (List.forall_mem_cons.mpr ⟨hl19, (List.forall_mem_cons.mpr ⟨hl24, (List.forall_mem_cons.mpr ⟨hl29, (List.forall_mem_cons.mpr ⟨(by decide), (List.forall_mem_cons.mpr ⟨(by decide), (fun _ q => nomatch q)⟩)⟩)⟩)⟩)⟩)⟩)
 have g_b4 : n0 ≤ b4 := Nat.le_trans (Nat.le_trans (Nat.le_of_eq X00.1.symm) X00.2.1) (Nat.le_of_eq g4.symm)
 have O44 := O13.ext E8
 have O45 := O44.wr W12 g_b8
 have O46 := O45.wr W17 g_b8
 have O47 := O46.wr W22 g_b8
 have O48 := O47.wr W27 g_b8
 have O49 := O48.wr W32 g_b8
 have O50 := O49.wr W36 g_b8
 have E51_ := A4.ext E8
 have E52_ := E51_.wr W12
 have E53_ := E52_.wr W17
 have E54_ := E53_.wr W22
 have E55_ := E54_.wr W27
 have E56_ := E55_.wr W32
 have E57_ := E56_.wr W36
 have F58_ := F6_.ext E8
 have F59_ := F58_.other W12 (Or.inl (Nat.ne_of_lt (Nat.lt_of_lt_of_le A4.lt (Nat.le_of_eq g8.symm))))
 have F60_ := F59_.other W17 (Or.inl (Nat.ne_of_lt (Nat.lt_of_lt_of_le A4.lt (Nat.le_of_eq g8.symm))))
 have F61_ := F60_.other W22 (Or.inl (Nat.ne_of_lt (Nat.lt_of_lt_of_le A4.lt (Nat.le_of_eq g8.symm))))
 have F62_ := F61_.other W27 (Or.inl (Nat.ne_of_lt (Nat.lt_of_lt_of_le A4.lt (Nat.le_of_eq g8.symm))))
 have F63_ := F62_.other W32 (Or.inl (Nat.ne_of_lt (Nat.lt_of_lt_of_le A4.lt (Nat.le_of_eq g8.symm))))
 have F64_ := F63_.other W36 (Or.inl (Nat.ne_of_lt (Nat.lt_of_lt_of_le A4.lt (Nat.le_of_eq g8.symm))))
 have F65_ := F7_.ext E8
 have F66_ := F65_.other W12 (Or.inl (Nat.ne_of_lt (Nat.lt_of_lt_of_le A4.lt (Nat.le_of_eq g8.symm))))
 have F67_ := F66_.other W17 (Or.inl (Nat.ne_of_lt (Nat.lt_of_lt_of_le A4.lt (Nat.le_of_eq g8.symm))))
 have F68_ := F67_.other W22 (Or.inl (Nat.ne_of_lt (Nat.lt_of_lt_of_le A4.lt (Nat.le_of_eq g8.symm))))
 have F69_ := F68_.other W27 (Or.inl (Nat.ne_of_lt (Nat.lt_of_lt_of_le A4.lt (Nat.le_of_eq g8.symm))))
 have F70_ := F69_.other W32 (Or.inl (Nat.ne_of_lt (Nat.lt_of_lt_of_le A4.lt (Nat.le_of_eq g8.symm))))
 have F71_ := F70_.other W36 (Or.inl (Nat.ne_of_lt (Nat.lt_of_lt_of_le A4.lt (Nat.le_of_eq g8.symm))))
 obtain ⟨_, T39, L39, X39, hQ39, st39⟩ := own_cb 2 10 1 6 3 16 (X36.specialBack hx (y := Y1_) rfl hown (mvT hZ (w8_ hw)) (mvT hZ (w9_ hw)) (mvT hZ (w10_ hw)) (by decide) (StrChars.Road.backV (W := 1) hZ (own_ws hw) (kI := 4) (w5_ hw) (cs := ([123, qi2, qi3, qi4, 42, 125] : List Int32)) (bs := ([123, qi2, qi3, qi4, 42, 125] : List Int32).map (fun c => c.toInt8.toInt32)) (n := 6) g_b4 (Nat.le_trans (Nat.le_of_eq O50.1.symm) O50.2.1) E57_ F64_ F71_ A38_ (O2.ext O50.2) P5 rfl rfl (lE rfl) (lE rfl) hp40 rfl (lE rfl) (lE rfl)) (g := (mkF m 139 #[iv qi1, iv qi2, iv qi3, iv qi4] [.ref b8, .ref b4, .ref b4])) rfl hml.symm (Steps.refl _) (a := b4) (argsL := [.ref b8]) (rest := [.ref b4]) (lenOf pd1 rfl) rfl (own_hw rfl) (hb hby d3_139) (fun _ _ => ⟨rfl, e36, (lE rfl : 2 + 1 ≤ _), (lE rfl : 10 + 6 ≤ _)⟩)) rfl rfl
 obtain ⟨rfl, N39q, K39q, E39q, C39q, b72, c72_, u72, g72, ne72, V72_, A72_⟩ := hQ39
 have N39 := Fr.app N36_ N39q
 have sz_b4 : h0.size ≤ b4 := (Nat.le_of_eq g4.symm)
 have K73 := K37.trans K39q (allS (Or.inr sz_b4) all0)
 have sz_b72 : h0.size ≤ b72 := Nat.le_trans K37.1 g72
 have E74_ := E57_.keep K39q
 refine own_lvF X39 Bd (.ref b4) rfl ⟨b4, b72, c72_, rfl, N39, K73, sz_b4, sz_b72, (Ne.symm ne72), E74_, C39q, V72_, A72_⟩ rfl (fun fs hr => pre0 _ (by
  show Sx p e below s₁ m 0 #[iv qi1, iv qi2, iv qi3, iv qi4] [] _
  refine zj X0 Bd d3_0 rfl ?_
  refine zp (pc' := 30) X0 Bd d3_1 (XT.i0_ne_t (hc1 : ¬ (qi1 = (0 : Int32)))) rfl ?_
  refine zj X0 Bd d3_30 rfl ?_
  refine zc X0 Bd d3_31 ?_
  refine zy (pc' := 65) X0 Bd d3_32 (XT.ii_ne_t (hc2 : ¬ (qi1 = (1 : Int32)))) rfl ?_
  refine zj X0 Bd d3_65 rfl ?_
  refine zc X0 Bd d3_66 ?_
  refine zy (pc' := 104) X0 Bd d3_67 (XT.ii_ne_t (hc3 : ¬ (qi1 = (2 : Int32)))) rfl ?_
  refine st4 _ ?_
  refine XS.dup X4.here hx rfl (hb hby d3_107) rfl rfl ?_
  refine zd X4 Bd d3_108 ?_
  refine st8 _ ?_
  refine XS.dup X8.here hx rfl (hb hby d3_112) rfl rfl ?_
  refine zc X8 Bd d3_113 ?_
  refine zd X8 Bd d3_114 ?_
  refine st12 _ ?_
  refine XS.dup X12.here hx rfl (hb hby d3_117) rfl rfl ?_
  refine zc X12 Bd d3_118 ?_
  refine zj X12 Bd d3_119 rfl ?_
  refine st17 _ ?_
  refine XS.dup X17.here hx rfl (hb hby d3_121) rfl rfl ?_
  refine zc X17 Bd d3_122 ?_
  refine zj X17 Bd d3_123 rfl ?_
  refine st22 _ ?_
  refine XS.dup X22.here hx rfl (hb hby d3_125) rfl rfl ?_
  show Sx p e below T22 m 126 #[iv qi1, iv qi2, iv qi3, iv qi4] [.ref b8, .ref b8, .ref b4, .ref b4] _
  refine zc X22 Bd d3_126 ?_
  refine zj X22 Bd d3_127 rfl ?_
  refine st27 _ ?_
  refine XS.dup X27.here hx rfl (hb hby d3_129) rfl rfl ?_
  refine zc X27 Bd d3_130 ?_
  refine zd X27 Bd d3_131 ?_
  refine st32 _ ?_
  refine XS.dup X32.here hx rfl (hb hby d3_134) rfl rfl ?_
  refine zc X32 Bd d3_135 ?_
  refine zd X32 Bd d3_136 ?_
  refine st36 _ ?_
  refine st39.trans ?_
  exact retOut X39 hx Bd.returns rfl (Or.inr (Or.inr (Or.inr (Or.inr ⟨rfl, rfl, rfl⟩)))) (hb hby d3_142) hr))
-- java/lang/AbstractStringBuilder.ensureCapacityInternal(I)V
def Q99 (Z : State)  (h0 : Heap) (n0 : Nat) (v : Option Value) (h : Heap) (L : List Loc) : Prop := v = none ∧ Fr n0 L ∧ h = h0
theorem rm99 (l : Launch) (Z : State) (a0 : Array Value) (hw : HW a0 Z) (qa1 : Addr) (qa2 : Addr) (qk3 : ClassId) (h0 : Heap) (n0 : Nat) (X00 : Old Z n0 h0) (F_qa1_value : Fld Z h0 qa1 "java/lang/AbstractStringBuilder" "value" "[B" (.ref qa2)) (A_qa2 : Arv Z h0 qa2 qk3 .byte (16 : Int32) [.int 123, .int 0, .int 0, .int 0, .int 0, .int 0, .int 0, .int 0, .int 0, .int 0, .int 0, .int 0, .int 0, .int 0, .int 0, .int 0] (.int 0)) (F_qa1_coder : Fld Z h0 qa1 "java/lang/AbstractStringBuilder" "coder" "B" (.int 0)) :
    MF l Z Y23_ jdk_68_method_9_code 3 none (Rm 0 0 0 0) #[.ref qa1, .int 4] h0 (Q99 Z  h0 n0) := by
 refine own_sF pn7 rfl (fun m => ef12 m qa1 (4 : Int32)) ?_
 intro p e s m below meth c s₁ Bd hZ hh hx hby hml hown hnm X0 e0 pre0
 have N0 := Fr.nil n0
 obtain ⟨T1, X1, e1, st1⟩ := getF X0 hx hZ hown (host := "") (Or.inl (w172_ hw)) Via.refl e0 F_qa1_value (g := (mkF m 1 #[rv qa1, iv 4, .unset] [.ref qa1])) rfl rfl (hb hby d24_1)
 have av2 := A_qa2
 obtain ⟨cl2, Ar2, q2, S2, N2, H2, Gf2⟩ := av2
 obtain ⟨T3, X3, e3, st3⟩ := getF X1 hx hZ hown (host := "") (Or.inl (w174_ hw)) Via.refl e1 F_qa1_coder (g := (mkF m 6 #[rv qa1, iv 4, .unset] [.ref qa1, .int 16])) rfl rfl (hb hby d24_6)
 refine own_lvN X3 Bd e3 ⟨rfl, N0, rfl⟩ rfl (fun fs hr => pre0 _ (by
  show Sx p e below s₁ m 0 #[rv qa1, iv 4, .unset] [] _
  refine zb X0 Bd d24_0 rfl rfl ?_
  refine st1 _ ?_
  refine X1.arraylength hx (by rw [e1]; exact Ar2.1) (State.isArrayOf_alike hZ.alike Ar2.2.1) (g := (mkF m 4 #[rv qa1, iv 4, .unset] [.ref qa2])) rfl rfl (hb hby d24_4) _ ?_
  rw [len_of S2 N2]
  refine zb X1 Bd d24_5 rfl rfl ?_
  refine st3 _ ?_
  refine XS.ishr X3.here hx rfl (hb hby d24_9) rfl ?_
  refine zt X3 Bd d24_10 (l' := #[rv qa1, iv 4, iv 16]) rfl ?_
  refine zj X3 Bd d24_11 rfl ?_
  refine zj X3 Bd d24_12 rfl ?_
  refine XS.isub X3.here hx rfl (hb hby d24_13) rfl ?_
  refine zp (pc' := 38) X3 Bd d24_14 (XT.i0_le_t ((by decide) : ¬ ((0 : Int32) < (-12 : Int32)))) rfl ?_
  exact X3.returnOut hx Bd.returns (hb hby d24_38) hr))
-- java/lang/String.getBytes([BIB)V
def Q100 (Z : State) (qa2 : Addr) (qi5 : Int32) (qi6 : Int32) (qi7 : Int32) (qk8 : ClassId) (h0 : Heap) (n0 : Nat) (v : Option Value) (h : Heap) (L : List Loc) : Prop := v = none ∧ Fr n0 L ∧ Keep h0 h [qa2] ∧ Arv Z h qa2 qk8 .byte (16 : Int32) [.int 123, (.int ((qi5).toInt8.toInt32)), (.int ((qi6).toInt8.toInt32)), (.int ((qi7).toInt8.toInt32)), .int 0, .int 0, .int 0, .int 0, .int 0, .int 0, .int 0, .int 0, .int 0, .int 0, .int 0, .int 0] (.int 0)
theorem rm100 (l : Launch) (Z : State) (a0 : Array Value) (hw : HW a0 Z) (G1 : Int32) (qa1 : Addr) (qa2 : Addr) (qa3 : Addr) (qk4 : ClassId) (qi5 : Int32) (qi6 : Int32) (qi7 : Int32) (qk8 : ClassId) (h0 : Heap) (n0 : Nat) (X00 : Old Z n0 h0) (O2 : Sta Z Z.heap "java/lang/String" "COMPACT_STRINGS" "Z" (.int G1)) (P5 : ¬ (G1 = (0 : Int32))) (E_qa1 : Exa Z h0 qa1 "java/lang/String") (F_qa1_coder : Fld Z h0 qa1 "java/lang/String" "coder" "B" (.int 0)) (F_qa1_value : Fld Z h0 qa1 "java/lang/String" "value" "[B" (.ref qa3)) (A_qa3 : Arv Z h0 qa3 qk4 .byte (3 : Int32) ((([qi5, qi6, qi7] : List Int32).map (fun c => c.toInt8.toInt32)).map Value.int) (.int 0)) (A_qa2 : Arv Z h0 qa2 qk8 .byte (16 : Int32) [.int 123, .int 0, .int 0, .int 0, .int 0, .int 0, .int 0, .int 0, .int 0, .int 0, .int 0, .int 0, .int 0, .int 0, .int 0, .int 0] (.int 0)) (g_qa2 : n0 ≤ qa2) :
    MF l Z Y26_ jdk_42_method_147_code 4 none (Rm 1 0 0 18) #[.ref qa1, .ref qa2, .int 1, .int 0] h0 (Q100 Z qa2 qi5 qi6 qi7 qk8 h0 n0) := by
 refine own_sF pn1 rfl (fun m => ef14 m qa1 qa2 (1 : Int32) (0 : Int32)) ?_
 intro p e s m below meth c s₁ Bd hZ hh hx hby hml hown hnm X0 e0 pre0
 have N0 := Fr.nil n0
 obtain ⟨_, T1, L1, X1, hQ1, st1⟩ := own_cV 0 0 [] 1 #[rv qa1, rv qa2, iv 1, iv 0] X0 hx hZ hown E_qa1 (w63_ hw) (w64_ hw) (notFace_of_selects (args := #[]) (mvT hZ (w66_ hw))) (w66_ hw) (w65_ hw) (w6_ hw) (w67_ hw) (rm24 l Z a0 hw G1 qa1 h0 n0 X00 O2 P5 F_qa1_coder) pd20 hml.symm (hb hby d28_1) e0 rfl rfl rfl rfl (by decide)
 obtain ⟨rfl, N1q, e1q⟩ := hQ1
 have N1 := Fr.app N0 N1q
 obtain ⟨T2, X2, e2, st2⟩ := getF X1 hx hZ hown (host := "") (Or.inl (w24_ hw)) Via.refl e1q F_qa1_value (g := (mkF m 9 #[rv qa1, rv qa2, iv 1, iv 0] [.ref qa1])) rfl rfl (hb hby d28_9)
 obtain ⟨T3, X3, e3, st3⟩ := getF X2 hx hZ hown (host := "") (Or.inl (w24_ hw)) Via.refl e2 F_qa1_value (g := (mkF m 18 #[rv qa1, rv qa2, iv 1, iv 0] [.ref qa1, .int 1, .ref qa2, .int 0, .ref qa3])) rfl rfl (hb hby d28_18)
 have av4 := A_qa3
 obtain ⟨cl4, Ar4, q4, S4, N4, H4, Gf4⟩ := av4
 obtain ⟨T5, h5, L5, X5, e5, N5, K5q, A5, st5⟩ := cpA X3 hx hZ hown (w211_ hw) (w214_ hw) (w212_ hw) (w213_ hw) e3 (vs := [(.int ((qi5).toInt8.toInt32)), (.int ((qi6).toInt8.toInt32)), (.int ((qi7).toInt8.toInt32))]) (vd := [.int 123, .int 0, .int 0, .int 0, .int 0, .int 0, .int 0, .int 0, .int 0, .int 0, .int 0, .int 0, .int 0, .int 0, .int 0, .int 0]) (us := [(.int ((qi5).toInt8.toInt32)), (.int ((qi6).toInt8.toInt32)), (.int ((qi7).toInt8.toInt32))]) A_qa3 A_qa2 (Or.inl ⟨rfl, rfl⟩) (by decide) (by decide) (by decide) (by decide) (by decide) rfl (lE rfl) N1 g_qa2 (g := (mkF m 22 #[rv qa1, rv qa2, iv 1, iv 0] [.int 3, .int 1, .ref qa2, .int 0, .ref qa3])) rfl hml.symm rfl (hb hby d28_22) (by decide) (W := 0) (own_hw rfl) (by decide)
 have K6 := (Keep.refl h0 [qa2]).trans K5q (allS (Or.inl (mI 0 rfl)) all0)
 have A7_ : Arv Z h5 qa2 qk8 .byte (16 : Int32) [.int 123, (.int ((qi5).toInt8.toInt32)), (.int ((qi6).toInt8.toInt32)), (.int ((qi7).toInt8.toInt32)), .int 0, .int 0, .int 0, .int 0, .int 0, .int 0, .int 0, .int 0, .int 0, .int 0, .int 0, .int 0] (.int 0) := A5
 refine own_lvN X5 Bd e5 ⟨rfl, N5, K6, A7_⟩ rfl (fun fs hr => pre0 _ (by
  show Sx p e below s₁ m 0 #[rv qa1, rv qa2, iv 1, iv 0] [] _
  refine zb X0 Bd d28_0 rfl rfl ?_
  refine st1 _ ?_
  refine zj X1 Bd d28_4 rfl ?_
  refine zn X1 Bd d28_5 (XT.ii_ne_f ((by decide) : (0 : Int32) = (0 : Int32))) ?_
  refine zb X1 Bd d28_8 rfl rfl ?_
  refine st2 _ ?_
  refine zc X2 Bd d28_12 ?_
  refine zb X2 Bd d28_13 rfl rfl ?_
  refine zj X2 Bd d28_14 rfl ?_
  refine zj X2 Bd d28_15 rfl ?_
  refine XS.ishl X2.here hx rfl (hb hby d28_16) rfl ?_
  refine zb X2 Bd d28_17 rfl rfl ?_
  refine st3 _ ?_
  refine X3.arraylength hx (by rw [e3]; exact Ar4.1) (State.isArrayOf_alike hZ.alike Ar4.2.1) (g := (mkF m 21 #[rv qa1, rv qa2, iv 1, iv 0] [.ref qa3, .int 1, .ref qa2, .int 0, .ref qa3])) rfl rfl (hb hby d28_21) _ ?_
  rw [len_of S4 N4]
  refine st5 _ ?_
  refine zg (pc' := 43) X5 Bd d28_25 rfl ?_
  exact X5.returnOut hx Bd.returns (hb hby d28_43) hr))
-- java/lang/AbstractStringBuilder.putStringAt(ILjava/lang/String;)V
def Q101 (Z : State) (qa3 : Addr) (qi6 : Int32) (qi7 : Int32) (qi8 : Int32) (qk9 : ClassId) (h0 : Heap) (n0 : Nat) (v : Option Value) (h : Heap) (L : List Loc) : Prop := v = none ∧ Fr n0 L ∧ Keep h0 h [qa3] ∧ Arv Z h qa3 qk9 .byte (16 : Int32) [.int 123, (.int ((qi6).toInt8.toInt32)), (.int ((qi7).toInt8.toInt32)), (.int ((qi8).toInt8.toInt32)), .int 0, .int 0, .int 0, .int 0, .int 0, .int 0, .int 0, .int 0, .int 0, .int 0, .int 0, .int 0] (.int 0)
theorem rm101 (l : Launch) (Z : State) (a0 : Array Value) (hw : HW a0 Z) (G1 : Int32) (qa1 : Addr) (qa2 : Addr) (qa3 : Addr) (qa4 : Addr) (qk5 : ClassId) (qi6 : Int32) (qi7 : Int32) (qi8 : Int32) (qk9 : ClassId) (h0 : Heap) (n0 : Nat) (X00 : Old Z n0 h0) (O2 : Sta Z Z.heap "java/lang/String" "COMPACT_STRINGS" "Z" (.int G1)) (P5 : ¬ (G1 = (0 : Int32))) (F_qa1_coder : Fld Z h0 qa1 "java/lang/AbstractStringBuilder" "coder" "B" (.int 0)) (E_qa2 : Exa Z h0 qa2 "java/lang/String") (F_qa2_coder : Fld Z h0 qa2 "java/lang/String" "coder" "B" (.int 0)) (E_qa1 : Exa Z h0 qa1 "java/lang/StringBuilder") (F_qa1_value : Fld Z h0 qa1 "java/lang/AbstractStringBuilder" "value" "[B" (.ref qa3)) (F_qa2_value : Fld Z h0 qa2 "java/lang/String" "value" "[B" (.ref qa4)) (A_qa4 : Arv Z h0 qa4 qk5 .byte (3 : Int32) ((([qi6, qi7, qi8] : List Int32).map (fun c => c.toInt8.toInt32)).map Value.int) (.int 0)) (A_qa3 : Arv Z h0 qa3 qk9 .byte (16 : Int32) [.int 123, .int 0, .int 0, .int 0, .int 0, .int 0, .int 0, .int 0, .int 0, .int 0, .int 0, .int 0, .int 0, .int 0, .int 0, .int 0] (.int 0)) (g_qa3 : n0 ≤ qa3) :
    MF l Z Y27_ jdk_68_method_73_code 3 none (Rm 2 0 0 33) #[.ref qa1, .int 1, .ref qa2] h0 (Q101 Z qa3 qi6 qi7 qi8 qk9 h0 n0) := by
 refine own_sF pn7 rfl (fun m => ef13 m qa1 (1 : Int32) qa2) ?_
 intro p e s m below meth c s₁ Bd hZ hh hx hby hml hown hnm X0 e0 pre0
 have N0 := Fr.nil n0
 obtain ⟨cq1, q1, q1'⟩ := E_qa1.cell
 obtain ⟨_, T1, L1, X1, hQ1, st1⟩ := own_cb 0 0 0 0 0 0 (X0.privateBack hx (y := Y25_) hown (mvT hZ (w200_ hw)) (mvT hZ (w201_ hw)) (own_selP (mvT hZ (w203_ hw)) (Cond.privateMethod_at (mvP hZ (w202_ hw) (args := #[]))) (mvT hZ (w201_ hw)) (by decide)) (Cond.privateMethod_at (mvP hZ (w202_ hw) (args := #[]))) (mvT hZ (w204_ hw)) (by decide) (backOf (W := 0) (rm25 l Z a0 hw G1 qa1 qa2 h0 n0 X00 O2 P5 F_qa1_coder E_qa2 F_qa2_coder) hZ (w204_ hw) (w168_ hw) (lE rfl) (lE rfl)) (g := (mkF m 2 #[rv qa1, iv 1, rv qa2] [.ref qa2, .ref qa1])) rfl hml.symm (Steps.refl _) (a := qa1) (by rw [e0]; exact q1) q1' (argsL := [.ref qa2]) (rest := []) (lenOf pd21 rfl) rfl (own_hw rfl) (hb hby d25_2) (fun _ _ => ⟨rfl, e0, (lE rfl : 0 + 0 ≤ _), (lE rfl : 0 + 0 ≤ _)⟩)) rfl rfl
 obtain ⟨rfl, N1q, e1q⟩ := hQ1
 have N1 := Fr.app N0 N1q
 obtain ⟨T2, X2, e2, st2⟩ := getF X1 hx hZ hown (host := "") (Or.inl (w172_ hw)) Via.refl e1q F_qa1_value (g := (mkF m 7 #[rv qa1, iv 1, rv qa2] [.ref qa1, .ref qa2])) rfl rfl (hb hby d25_7)
 obtain ⟨T3, X3, e3, st3⟩ := getF X2 hx hZ hown (host := "") (Or.inl (w174_ hw)) Via.refl e2 F_qa1_coder (g := (mkF m 12 #[rv qa1, iv 1, rv qa2] [.ref qa1, .int 1, .ref qa3, .ref qa2])) rfl rfl (hb hby d25_12)
 obtain ⟨_, T4, L4, X4, hQ4, st4⟩ := own_cV 0 0 [] 15 #[rv qa1, iv 1, rv qa2] X3 hx hZ hown E_qa2 (w206_ hw) (w207_ hw) (notFace_of_selects (args := #[]) (mvT hZ (w209_ hw))) (w209_ hw) (w208_ hw) (w6_ hw) (w210_ hw) (rm100 l Z a0 hw G1 qa2 qa3 qa4 qk5 qi6 qi7 qi8 qk9 h0 n0 X00 O2 P5 E_qa2 F_qa2_coder F_qa2_value A_qa4 A_qa3 g_qa3) pd22 hml.symm (hb hby d25_15) e3 rfl rfl rfl rfl (by decide)
 obtain ⟨rfl, N4q, K4q, w5⟩ := hQ4
 have N4 := Fr.app N1 N4q
 have K6 := (Keep.refl h0 [qa3]).trans K4q (allS (Or.inl (mI 0 rfl)) all0)
 refine own_lvN X4 Bd rfl ⟨rfl, N4, K6, w5⟩ rfl (fun fs hr => pre0 _ (by
  show Sx p e below s₁ m 0 #[rv qa1, iv 1, rv qa2] [] _
  refine zb X0 Bd d25_0 rfl rfl ?_
  refine zb X0 Bd d25_1 rfl rfl ?_
  refine st1.trans ?_
  refine zb X1 Bd d25_5 rfl rfl ?_
  refine zb X1 Bd d25_6 rfl rfl ?_
  refine st2 _ ?_
  refine zj X2 Bd d25_10 rfl ?_
  refine zb X2 Bd d25_11 rfl rfl ?_
  refine st3 _ ?_
  refine st4 _ ?_
  exact X4.returnOut hx Bd.returns (hb hby d25_18) hr))
-- java/lang/AbstractStringBuilder.append(Ljava/lang/String;)Ljava/lang/AbstractStringBuilder;
def Q102 (Z : State) (qa1 : Addr) (qi4 : Int32) (qi5 : Int32) (qi6 : Int32) (qa8 : Addr) (qk9 : ClassId) (h0 : Heap) (n0 : Nat) (v : Option Value) (h : Heap) (L : List Loc) : Prop := v = some (.ref qa1) ∧ Fr n0 L ∧ Keep h0 h [qa8, qa1] ∧ Fld Z h qa1 "java/lang/AbstractStringBuilder" "count" "I" (.int 4) ∧ Fld Z h qa1 "java/lang/AbstractStringBuilder" "value" "[B" (.ref qa8) ∧ Fld Z h qa1 "java/lang/AbstractStringBuilder" "coder" "B" (.int 0) ∧ Exa Z h qa1 "java/lang/StringBuilder" ∧ Arv Z h qa8 qk9 .byte (16 : Int32) [.int 123, (.int ((qi4).toInt8.toInt32)), (.int ((qi5).toInt8.toInt32)), (.int ((qi6).toInt8.toInt32)), .int 0, .int 0, .int 0, .int 0, .int 0, .int 0, .int 0, .int 0, .int 0, .int 0, .int 0, .int 0] (.int 0)
theorem rm102 (l : Launch) (Z : State) (a0 : Array Value) (hw : HW a0 Z) (G1 : Int32) (qa1 : Addr) (qa2 : Addr) (qa3 : Addr) (qi4 : Int32) (qi5 : Int32) (qi6 : Int32) (qk7 : ClassId) (qa8 : Addr) (qk9 : ClassId) (h0 : Heap) (n0 : Nat) (X00 : Old Z n0 h0) (O2 : Sta Z Z.heap "java/lang/String" "COMPACT_STRINGS" "Z" (.int G1)) (P5 : ¬ (G1 = (0 : Int32))) (E_qa2 : Exa Z h0 qa2 "java/lang/String") (F_qa2_coder : Fld Z h0 qa2 "java/lang/String" "coder" "B" (.int 0)) (F_qa2_value : Fld Z h0 qa2 "java/lang/String" "value" "[B" (.ref qa3)) (hp_qa2 : ∀ c ∈ ([qi4, qi5, qi6] : List Int32), ¬ c < 0 ∧ ¬ (255 : Int32) < c) (A_qa3 : Arv Z h0 qa3 qk7 .byte (3 : Int32) ((([qi4, qi5, qi6] : List Int32).map (fun c => c.toInt8.toInt32)).map Value.int) (.int 0)) (F_qa1_count : Fld Z h0 qa1 "java/lang/AbstractStringBuilder" "count" "I" (.int 1)) (F_qa1_value : Fld Z h0 qa1 "java/lang/AbstractStringBuilder" "value" "[B" (.ref qa8)) (A_qa8 : Arv Z h0 qa8 qk9 .byte (16 : Int32) [.int 123, .int 0, .int 0, .int 0, .int 0, .int 0, .int 0, .int 0, .int 0, .int 0, .int 0, .int 0, .int 0, .int 0, .int 0, .int 0] (.int 0)) (F_qa1_coder : Fld Z h0 qa1 "java/lang/AbstractStringBuilder" "coder" "B" (.int 0)) (E_qa1 : Exa Z h0 qa1 "java/lang/StringBuilder") (g_qa8 : n0 ≤ qa8) (ne_qa1_qa8 : qa1 ≠ qa8) (g_qa1 : n0 ≤ qa1) :
    MF l Z Y28_ jdk_68_method_22_code 3 (some (.object "java/lang/AbstractStringBuilder")) (Rm 3 0 0 47) #[.ref qa1, .ref qa2] h0 (Q102 Z qa1 qi4 qi5 qi6 qa8 qk9 h0 n0) := by
 refine own_sF pn7 rfl (fun m => ef10 m qa1 qa2) ?_
 intro p e s m below meth c s₁ Bd hZ hh hx hby hml hown hnm X0 e0 pre0
 have N0 := Fr.nil n0
 have hcd2 : StrChars.Road.CodA ([qi4, qi5, qi6] : List Int32) 0 (3 : Int32) ((([qi4, qi5, qi6] : List Int32).map (fun c => c.toInt8.toInt32)).map Value.int) := StrChars.Road.codOf (n := 3) rfl (fun x hx => (hp_qa2 x hx).2)
 have hbd2 : ∀ x ∈ ([qi4, qi5, qi6] : List Int32), ¬ x < 0 ∧ ¬ (65535 : Int32) < x := own_up _ hp_qa2
 obtain ⟨cq1, kq1, q1a, q1b, q1c⟩ := isOf hZ e0 E_qa2
 obtain ⟨_, T1, L1, X1, hQ1, st1⟩ := own_cb0 0 0 0 0 0 0 (X0.virtualBack hx (y := Y10_) (z := Y10_) hown (mvT hZ (w187_ hw)) (mvT hZ (w59_ hw)) (notFace_of_selects (args := #[]) (mvT hZ (w61_ hw))) (mvT hZ (w61_ hw)) (mvT hZ (w60_ hw)) (by decide) (StrChars.Road.lenW (W := 0) hZ (own_wl hw) (kI := 4) (w5_ hw) E_qa2 F_qa2_value F_qa2_coder A_qa3 hcd2 hbd2 (O2.ext X00.2) P5 (lE rfl) (lE rfl) (lE rfl)) q1a q1c (g := (mkF m 10 #[rv qa1, rv qa2, .unset] [.ref qa2])) rfl hml.symm (Steps.refl _) (argsL := []) (rest := []) (lenOf pd7 rfl) rfl (own_hw rfl) (hb hby d23_10) (fun _ _ => ⟨rfl, e0, (lE rfl : 0 + 0 ≤ _), (lE rfl : 0 + 0 ≤ _)⟩)) rfl rfl
 dsimp only [Pt.U, Pt.locs, Pt.cells, Pt.slots] at hQ1
 obtain ⟨rfl, rfl, e1q⟩ := hQ1
 have N1 := Fr.app N0 (Fr.nil n0)
 obtain ⟨T3, X3, e3, st3⟩ := getF X1 hx hZ hown (host := "") (Or.inl (w188_ hw)) Via.refl e1q F_qa1_count (g := (mkF m 16 #[rv qa1, rv qa2, iv 3] [.ref qa1, .ref qa1])) rfl rfl (hb hby d23_16)
 obtain ⟨cq4, q4, q4'⟩ := E_qa1.cell
 obtain ⟨_, T4, L4, X4, hQ4, st4⟩ := own_cb 0 0 0 0 0 0 (X3.privateBack hx (y := Y23_) hown (mvT hZ (w190_ hw)) (mvT hZ (w191_ hw)) (own_selP (mvT hZ (w193_ hw)) (Cond.privateMethod_at (mvP hZ (w192_ hw) (args := #[]))) (mvT hZ (w191_ hw)) (by decide)) (Cond.privateMethod_at (mvP hZ (w192_ hw) (args := #[]))) (mvT hZ (w194_ hw)) (by decide) (backOf (W := 0) (rm99 l Z a0 hw  qa1 qa8 qk9 h0 n0 X00 F_qa1_value A_qa8 F_qa1_coder) hZ (w194_ hw) (w168_ hw) (lE rfl) (lE rfl)) (g := (mkF m 21 #[rv qa1, rv qa2, iv 3] [.int 4, .ref qa1])) rfl hml.symm (Steps.refl _) (a := qa1) (by rw [e3]; exact q4) q4' (argsL := [.int 4]) (rest := []) (lenOf pd18 rfl) rfl (own_hw rfl) (hb hby d23_21) (fun _ _ => ⟨rfl, e3, (lE rfl : 0 + 0 ≤ _), (lE rfl : 0 + 0 ≤ _)⟩)) rfl rfl
 obtain ⟨rfl, N4q, e4q⟩ := hQ4
 have N4 := Fr.app N1 N4q
 obtain ⟨T5, X5, e5, st5⟩ := getF X4 hx hZ hown (host := "") (Or.inl (w188_ hw)) Via.refl e4q F_qa1_count (g := (mkF m 26 #[rv qa1, rv qa2, iv 3] [.ref qa1, .ref qa1])) rfl rfl (hb hby d23_26)
 obtain ⟨cq6, q6, q6'⟩ := E_qa1.cell
 obtain ⟨_, T6, L6, X6, hQ6, st6⟩ := own_cb 0 0 0 0 0 0 (X5.privateBack hx (y := Y27_) hown (mvT hZ (w195_ hw)) (mvT hZ (w196_ hw)) (own_selP (mvT hZ (w198_ hw)) (Cond.privateMethod_at (mvP hZ (w197_ hw) (args := #[]))) (mvT hZ (w196_ hw)) (by decide)) (Cond.privateMethod_at (mvP hZ (w197_ hw) (args := #[]))) (mvT hZ (w199_ hw)) (by decide) (backOf (W := 0) (rm101 l Z a0 hw G1 qa1 qa2 qa8 qa3 qk7 qi4 qi5 qi6 qk9 h0 n0 X00 O2 P5 F_qa1_coder E_qa2 F_qa2_coder E_qa1 F_qa1_value F_qa2_value A_qa3 A_qa8 g_qa8) hZ (w199_ hw) (w168_ hw) (lE rfl) (lE rfl)) (g := (mkF m 30 #[rv qa1, rv qa2, iv 3] [.ref qa2, .int 1, .ref qa1])) rfl hml.symm (Steps.refl _) (a := qa1) (by rw [e5]; exact q6) q6' (argsL := [.int 1, .ref qa2]) (rest := []) (lenOf pd23 rfl) rfl (own_hw rfl) (hb hby d23_30) (fun _ _ => ⟨rfl, e5, (lE rfl : 0 + 0 ≤ _), (lE rfl : 0 + 0 ≤ _)⟩)) rfl rfl
 obtain ⟨rfl, N6q, K6q, w7⟩ := hQ6
 have N6 := Fr.app N4 N6q
 have K8 := (Keep.refl h0 [qa8, qa1]).trans K6q (allS (Or.inl (mI 0 rfl)) all0)
 have F10_ := F_qa1_count.keep K6q (ninS ne_qa1_qa8 nin0)
 obtain ⟨T9, X9, e9, st9⟩ := getF X6 hx hZ hown (host := "") (Or.inl (w188_ hw)) Via.refl rfl F10_ (g := (mkF m 35 #[rv qa1, rv qa2, iv 3] [.ref qa1, .ref qa1])) rfl rfl (hb hby d23_35)
 have E11_ := E_qa1.keep K6q
 obtain ⟨T12, h12, X12, e12, W12, st12⟩ := putF X9 hx hZ hown (host := "") (Or.inl (w188_ hw)) Via.refl e9 F10_ E11_ (Or.inl (w189_ hw)) (w159_ hw) (ty := .int) (by decide) rfl rfl (g := (mkF m 40 #[rv qa1, rv qa2, iv 3] [.int 4, .ref qa1])) rfl rfl (hb hby d23_40)
 have N12 := Fr.snoc X12 N6 g_qa1
 have K13 := K8.wr W12 (Or.inl (mI 1 rfl))
 have F14_ : Fld Z h12 qa1 "java/lang/AbstractStringBuilder" "count" "I" (.int 4) := F10_.same W12
 have F15_ := F_qa1_value.keep K6q (ninS ne_qa1_qa8 nin0)
 have F16_ := F15_.other W12 (Or.inr (slot_ne (Or.inl (w173_ hw)) (Or.inl (w189_ hw)) (by decide) (t := (.array .byte)) (t' := .int) (by decide) (by decide)))
 have F17_ := F_qa1_coder.keep K6q (ninS ne_qa1_qa8 nin0)
 have F18_ := F17_.other W12 (Or.inr (slot_ne (Or.inl (w175_ hw)) (Or.inl (w189_ hw)) (by decide) (t := .byte) (t' := .int) (by decide) (by decide)))
 have E19_ := E11_.wr W12
 have A20_ := w7.other W12 (Ne.symm ne_qa1_qa8)
 refine own_lvF X12 Bd (.ref qa1) e12 ⟨rfl, N12, K13, F14_, F16_, F18_, E19_, A20_⟩ rfl (fun fs hr => pre0 _ (by
  show Sx p e below s₁ m 0 #[rv qa1, rv qa2, .unset] [] _
  refine zb X0 Bd d23_0 rfl rfl ?_
  refine XS.ifnonnullYes X0.here hx rfl (pc0 := 1) (pc' := 9) rfl (hb hby d23_1) rfl (by decide) (by decide) ?_
  refine zb X0 Bd d23_9 rfl rfl ?_
  refine st1.trans ?_
  refine zt X1 Bd d23_13 (l' := #[rv qa1, rv qa2, iv 3]) rfl ?_
  refine zb X1 Bd d23_14 rfl rfl ?_
  refine zb X1 Bd d23_15 rfl rfl ?_
  refine st3 _ ?_
  refine zj X3 Bd d23_19 rfl ?_
  refine XS.iadd X3.here hx rfl (hb hby d23_20) rfl ?_
  refine st4.trans ?_
  refine zb X4 Bd d23_24 rfl rfl ?_
  refine zb X4 Bd d23_25 rfl rfl ?_
  refine st5 _ ?_
  refine zb X5 Bd d23_29 rfl rfl ?_
  refine st6.trans ?_
  refine zb X6 Bd d23_33 rfl rfl ?_
  refine XS.dup X6.here hx rfl (hb hby d23_34) rfl rfl ?_
  refine st9 _ ?_
  refine zj X9 Bd d23_38 rfl ?_
  refine XS.iadd X9.here hx rfl (hb hby d23_39) rfl ?_
  refine st12 _ ?_
  refine zb X12 Bd d23_43 rfl rfl ?_
  exact retOut X12 hx Bd.returns rfl (Or.inr (Or.inr (Or.inr (Or.inr ⟨rfl, rfl, rfl⟩)))) (hb hby d23_44) hr))
-- java/lang/StringBuilder.append(Ljava/lang/String;)Ljava/lang/StringBuilder;
def Q103 (Z : State) (qa1 : Addr) (qi4 : Int32) (qi5 : Int32) (qi6 : Int32) (qa8 : Addr) (qk9 : ClassId) (h0 : Heap) (n0 : Nat) (v : Option Value) (h : Heap) (L : List Loc) : Prop := v = some (.ref qa1) ∧ Fr n0 L ∧ Keep h0 h [qa1, qa8] ∧ Exa Z h qa1 "java/lang/StringBuilder" ∧ Fld Z h qa1 "java/lang/AbstractStringBuilder" "count" "I" (.int 4) ∧ Fld Z h qa1 "java/lang/AbstractStringBuilder" "value" "[B" (.ref qa8) ∧ Fld Z h qa1 "java/lang/AbstractStringBuilder" "coder" "B" (.int 0) ∧ Arv Z h qa8 qk9 .byte (16 : Int32) [.int 123, (.int ((qi4).toInt8.toInt32)), (.int ((qi5).toInt8.toInt32)), (.int ((qi6).toInt8.toInt32)), .int 0, .int 0, .int 0, .int 0, .int 0, .int 0, .int 0, .int 0, .int 0, .int 0, .int 0, .int 0] (.int 0)
theorem rm103 (l : Launch) (Z : State) (a0 : Array Value) (hw : HW a0 Z) (G1 : Int32) (qa1 : Addr) (qa2 : Addr) (qa3 : Addr) (qi4 : Int32) (qi5 : Int32) (qi6 : Int32) (qk7 : ClassId) (qa8 : Addr) (qk9 : ClassId) (h0 : Heap) (n0 : Nat) (X00 : Old Z n0 h0) (O2 : Sta Z Z.heap "java/lang/String" "COMPACT_STRINGS" "Z" (.int G1)) (P5 : ¬ (G1 = (0 : Int32))) (E_qa2 : Exa Z h0 qa2 "java/lang/String") (F_qa2_coder : Fld Z h0 qa2 "java/lang/String" "coder" "B" (.int 0)) (F_qa2_value : Fld Z h0 qa2 "java/lang/String" "value" "[B" (.ref qa3)) (hp_qa2 : ∀ c ∈ ([qi4, qi5, qi6] : List Int32), ¬ c < 0 ∧ ¬ (255 : Int32) < c) (A_qa3 : Arv Z h0 qa3 qk7 .byte (3 : Int32) ((([qi4, qi5, qi6] : List Int32).map (fun c => c.toInt8.toInt32)).map Value.int) (.int 0)) (F_qa1_count : Fld Z h0 qa1 "java/lang/AbstractStringBuilder" "count" "I" (.int 1)) (F_qa1_value : Fld Z h0 qa1 "java/lang/AbstractStringBuilder" "value" "[B" (.ref qa8)) (A_qa8 : Arv Z h0 qa8 qk9 .byte (16 : Int32) [.int 123, .int 0, .int 0, .int 0, .int 0, .int 0, .int 0, .int 0, .int 0, .int 0, .int 0, .int 0, .int 0, .int 0, .int 0, .int 0] (.int 0)) (F_qa1_coder : Fld Z h0 qa1 "java/lang/AbstractStringBuilder" "coder" "B" (.int 0)) (E_qa1 : Exa Z h0 qa1 "java/lang/StringBuilder") (g_qa8 : n0 ≤ qa8) (ne_qa1_qa8 : qa1 ≠ qa8) (g_qa1 : n0 ≤ qa1) :
    MF l Z Y29_ jdk_67_method_7_code 2 (some (.object "java/lang/StringBuilder")) (Rm 4 0 0 61) #[.ref qa1, .ref qa2] h0 (Q103 Z qa1 qi4 qi5 qi6 qa8 qk9 h0 n0) := by
 refine own_sF pn6 rfl (fun m => ef2 m qa1 qa2) ?_
 intro p e s m below meth c s₁ Bd hZ hh hx hby hml hown hnm X0 e0 pre0
 have N0 := Fr.nil n0
 obtain ⟨_, T1, L1, X1, hQ1, st1⟩ := own_cb 0 0 0 0 0 0 (superBack X0 hx hZ (y := Y28_) hown (w182_ hw) (own_same (w183_ hw) (w193_ hw) rfl (by decide)) (w183_ hw) (w184_ hw) (by decide) (backOf (W := 0) (rm102 l Z a0 hw G1 qa1 qa2 qa3 qi4 qi5 qi6 qk7 qa8 qk9 h0 n0 X00 O2 P5 E_qa2 F_qa2_coder F_qa2_value hp_qa2 A_qa3 F_qa1_count F_qa1_value A_qa8 F_qa1_coder E_qa1 g_qa8 ne_qa1_qa8 g_qa1) hZ (w186_ hw) (w168_ hw) (lE rfl) (lE rfl)) e0 (Ins.self E_qa1) (g := (mkF m 2 #[rv qa1, rv qa2] [.ref qa2, .ref qa1])) rfl hml.symm (w186_ hw) (argsL := [.ref qa2]) (rest := []) (lenOf pd24 rfl) rfl (own_hw rfl) (hb hby d22_2) (fun _ _ => ⟨rfl, e0, (lE rfl : 0 + 0 ≤ _), (lE rfl : 0 + 0 ≤ _)⟩)) rfl rfl
 obtain ⟨rfl, N1q, K1q, w2, w3, w4, w5, w6⟩ := hQ1
 have N1 := Fr.app N0 N1q
 have K7 := (Keep.refl h0 [qa1, qa8]).trans K1q (allS (Or.inl (mI 1 rfl)) (allS (Or.inl (mI 0 rfl)) all0))
 have E8_ := E_qa1.keep K1q
 refine own_lvF X1 Bd (.ref qa1) rfl ⟨rfl, N1, K7, E8_, w2, w3, w4, w6⟩ rfl (fun fs hr => pre0 _ (by
  show Sx p e below s₁ m 0 #[rv qa1, rv qa2] [] _
  refine zb X0 Bd d22_0 rfl rfl ?_
  refine zb X0 Bd d22_1 rfl rfl ?_
  refine st1.trans ?_
  refine XS.pop X1.here hx rfl (hb hby d22_5) rfl rfl ?_
  refine zb X1 Bd d22_6 rfl rfl ?_
  exact retOut X1 hx Bd.returns rfl (Or.inr (Or.inr (Or.inr (Or.inr ⟨rfl, rfl, rfl⟩)))) (hb hby d22_7) hr))
-- java/lang/AbstractStringBuilder.ensureCapacityInternal(I)V
def Q104 (Z : State)  (h0 : Heap) (n0 : Nat) (v : Option Value) (h : Heap) (L : List Loc) : Prop := v = none ∧ Fr n0 L ∧ h = h0
theorem rm104 (l : Launch) (Z : State) (a0 : Array Value) (hw : HW a0 Z) (qa1 : Addr) (qa2 : Addr) (qk3 : ClassId) (qi4 : Int32) (qi5 : Int32) (qi6 : Int32) (h0 : Heap) (n0 : Nat) (X00 : Old Z n0 h0) (F_qa1_value : Fld Z h0 qa1 "java/lang/AbstractStringBuilder" "value" "[B" (.ref qa2)) (A_qa2 : Arv Z h0 qa2 qk3 .byte (16 : Int32) [.int 123, .int qi4, .int qi5, .int qi6, .int 0, .int 0, .int 0, .int 0, .int 0, .int 0, .int 0, .int 0, .int 0, .int 0, .int 0, .int 0] (.int 0)) (F_qa1_coder : Fld Z h0 qa1 "java/lang/AbstractStringBuilder" "coder" "B" (.int 0)) :
    MF l Z Y23_ jdk_68_method_9_code 3 none (Rm 0 0 0 0) #[.ref qa1, .int 6] h0 (Q104 Z  h0 n0) := by
 refine own_sF pn7 rfl (fun m => ef12 m qa1 (6 : Int32)) ?_
 intro p e s m below meth c s₁ Bd hZ hh hx hby hml hown hnm X0 e0 pre0
 have N0 := Fr.nil n0
 obtain ⟨T1, X1, e1, st1⟩ := getF X0 hx hZ hown (host := "") (Or.inl (w172_ hw)) Via.refl e0 F_qa1_value (g := (mkF m 1 #[rv qa1, iv 6, .unset] [.ref qa1])) rfl rfl (hb hby d24_1)
 have av2 := A_qa2
 obtain ⟨cl2, Ar2, q2, S2, N2, H2, Gf2⟩ := av2
 obtain ⟨T3, X3, e3, st3⟩ := getF X1 hx hZ hown (host := "") (Or.inl (w174_ hw)) Via.refl e1 F_qa1_coder (g := (mkF m 6 #[rv qa1, iv 6, .unset] [.ref qa1, .int 16])) rfl rfl (hb hby d24_6)
 refine own_lvN X3 Bd e3 ⟨rfl, N0, rfl⟩ rfl (fun fs hr => pre0 _ (by
  show Sx p e below s₁ m 0 #[rv qa1, iv 6, .unset] [] _
  refine zb X0 Bd d24_0 rfl rfl ?_
  refine st1 _ ?_
  refine X1.arraylength hx (by rw [e1]; exact Ar2.1) (State.isArrayOf_alike hZ.alike Ar2.2.1) (g := (mkF m 4 #[rv qa1, iv 6, .unset] [.ref qa2])) rfl rfl (hb hby d24_4) _ ?_
  rw [len_of S2 N2]
  refine zb X1 Bd d24_5 rfl rfl ?_
  refine st3 _ ?_
  refine XS.ishr X3.here hx rfl (hb hby d24_9) rfl ?_
  refine zt X3 Bd d24_10 (l' := #[rv qa1, iv 6, iv 16]) rfl ?_
  refine zj X3 Bd d24_11 rfl ?_
  refine zj X3 Bd d24_12 rfl ?_
  refine XS.isub X3.here hx rfl (hb hby d24_13) rfl ?_
  refine zp (pc' := 38) X3 Bd d24_14 (XT.i0_le_t ((by decide) : ¬ ((0 : Int32) < (-10 : Int32)))) rfl ?_
  exact X3.returnOut hx Bd.returns (hb hby d24_38) hr))
-- java/lang/String.getBytes([BIB)V
def Q105 (Z : State) (qa2 : Addr) (qk5 : ClassId) (qi6 : Int32) (qi7 : Int32) (qi8 : Int32) (h0 : Heap) (n0 : Nat) (v : Option Value) (h : Heap) (L : List Loc) : Prop := v = none ∧ Fr n0 L ∧ Keep h0 h [qa2] ∧ Arv Z h qa2 qk5 .byte (16 : Int32) [.int 123, .int qi6, .int qi7, .int qi8, .int 42, .int 125, .int 0, .int 0, .int 0, .int 0, .int 0, .int 0, .int 0, .int 0, .int 0, .int 0] (.int 0)
theorem rm105 (l : Launch) (Z : State) (a0 : Array Value) (hw : HW a0 Z) (G1 : Int32) (qa1 : Addr) (qa2 : Addr) (qa3 : Addr) (qk4 : ClassId) (qk5 : ClassId) (qi6 : Int32) (qi7 : Int32) (qi8 : Int32) (h0 : Heap) (n0 : Nat) (X00 : Old Z n0 h0) (O2 : Sta Z Z.heap "java/lang/String" "COMPACT_STRINGS" "Z" (.int G1)) (P5 : ¬ (G1 = (0 : Int32))) (E_qa1 : Exa Z h0 qa1 "java/lang/String") (F_qa1_coder : Fld Z h0 qa1 "java/lang/String" "coder" "B" (.int 0)) (F_qa1_value : Fld Z h0 qa1 "java/lang/String" "value" "[B" (.ref qa3)) (A_qa3 : Arv Z h0 qa3 qk4 .byte (2 : Int32) [.int 42, .int 125] (.int 0)) (A_qa2 : Arv Z h0 qa2 qk5 .byte (16 : Int32) [.int 123, .int qi6, .int qi7, .int qi8, .int 0, .int 0, .int 0, .int 0, .int 0, .int 0, .int 0, .int 0, .int 0, .int 0, .int 0, .int 0] (.int 0)) (g_qa2 : n0 ≤ qa2) :
    MF l Z Y26_ jdk_42_method_147_code 4 none (Rm 1 0 0 18) #[.ref qa1, .ref qa2, .int 4, .int 0] h0 (Q105 Z qa2 qk5 qi6 qi7 qi8 h0 n0) := by
 refine own_sF pn1 rfl (fun m => ef14 m qa1 qa2 (4 : Int32) (0 : Int32)) ?_
 intro p e s m below meth c s₁ Bd hZ hh hx hby hml hown hnm X0 e0 pre0
 have N0 := Fr.nil n0
 obtain ⟨_, T1, L1, X1, hQ1, st1⟩ := own_cV 0 0 [] 1 #[rv qa1, rv qa2, iv 4, iv 0] X0 hx hZ hown E_qa1 (w63_ hw) (w64_ hw) (notFace_of_selects (args := #[]) (mvT hZ (w66_ hw))) (w66_ hw) (w65_ hw) (w6_ hw) (w67_ hw) (rm24 l Z a0 hw G1 qa1 h0 n0 X00 O2 P5 F_qa1_coder) pd20 hml.symm (hb hby d28_1) e0 rfl rfl rfl rfl (by decide)
 obtain ⟨rfl, N1q, e1q⟩ := hQ1
 have N1 := Fr.app N0 N1q
 obtain ⟨T2, X2, e2, st2⟩ := getF X1 hx hZ hown (host := "") (Or.inl (w24_ hw)) Via.refl e1q F_qa1_value (g := (mkF m 9 #[rv qa1, rv qa2, iv 4, iv 0] [.ref qa1])) rfl rfl (hb hby d28_9)
 obtain ⟨T3, X3, e3, st3⟩ := getF X2 hx hZ hown (host := "") (Or.inl (w24_ hw)) Via.refl e2 F_qa1_value (g := (mkF m 18 #[rv qa1, rv qa2, iv 4, iv 0] [.ref qa1, .int 4, .ref qa2, .int 0, .ref qa3])) rfl rfl (hb hby d28_18)
 have av4 := A_qa3
 obtain ⟨cl4, Ar4, q4, S4, N4, H4, Gf4⟩ := av4
 obtain ⟨T5, h5, L5, X5, e5, N5, K5q, A5, st5⟩ := cpA X3 hx hZ hown (w211_ hw) (w214_ hw) (w212_ hw) (w213_ hw) e3 (vs := [.int 42, .int 125]) (vd := [.int 123, .int qi6, .int qi7, .int qi8, .int 0, .int 0, .int 0, .int 0, .int 0, .int 0, .int 0, .int 0, .int 0, .int 0, .int 0, .int 0]) (us := [.int 42, .int 125]) A_qa3 A_qa2 (Or.inl ⟨rfl, rfl⟩) (by decide) (by decide) (by decide) (by decide) (by decide) rfl (lE rfl) N1 g_qa2 (g := (mkF m 22 #[rv qa1, rv qa2, iv 4, iv 0] [.int 2, .int 4, .ref qa2, .int 0, .ref qa3])) rfl hml.symm rfl (hb hby d28_22) (by decide) (W := 0) (own_hw rfl) (by decide)
 have K6 := (Keep.refl h0 [qa2]).trans K5q (allS (Or.inl (mI 0 rfl)) all0)
 have A7_ : Arv Z h5 qa2 qk5 .byte (16 : Int32) [.int 123, .int qi6, .int qi7, .int qi8, .int 42, .int 125, .int 0, .int 0, .int 0, .int 0, .int 0, .int 0, .int 0, .int 0, .int 0, .int 0] (.int 0) := A5
 refine own_lvN X5 Bd e5 ⟨rfl, N5, K6, A7_⟩ rfl (fun fs hr => pre0 _ (by
  show Sx p e below s₁ m 0 #[rv qa1, rv qa2, iv 4, iv 0] [] _
  refine zb X0 Bd d28_0 rfl rfl ?_
  refine st1 _ ?_
  refine zj X1 Bd d28_4 rfl ?_
  refine zn X1 Bd d28_5 (XT.ii_ne_f ((by decide) : (0 : Int32) = (0 : Int32))) ?_
  refine zb X1 Bd d28_8 rfl rfl ?_
  refine st2 _ ?_
  refine zc X2 Bd d28_12 ?_
  refine zb X2 Bd d28_13 rfl rfl ?_
  refine zj X2 Bd d28_14 rfl ?_
  refine zj X2 Bd d28_15 rfl ?_
  refine XS.ishl X2.here hx rfl (hb hby d28_16) rfl ?_
  refine zb X2 Bd d28_17 rfl rfl ?_
  refine st3 _ ?_
  refine X3.arraylength hx (by rw [e3]; exact Ar4.1) (State.isArrayOf_alike hZ.alike Ar4.2.1) (g := (mkF m 21 #[rv qa1, rv qa2, iv 4, iv 0] [.ref qa3, .int 4, .ref qa2, .int 0, .ref qa3])) rfl rfl (hb hby d28_21) _ ?_
  rw [len_of S4 N4]
  refine st5 _ ?_
  refine zg (pc' := 43) X5 Bd d28_25 rfl ?_
  exact X5.returnOut hx Bd.returns (hb hby d28_43) hr))
-- java/lang/AbstractStringBuilder.putStringAt(ILjava/lang/String;)V
def Q106 (Z : State) (qa3 : Addr) (qk6 : ClassId) (qi7 : Int32) (qi8 : Int32) (qi9 : Int32) (h0 : Heap) (n0 : Nat) (v : Option Value) (h : Heap) (L : List Loc) : Prop := v = none ∧ Fr n0 L ∧ Keep h0 h [qa3] ∧ Arv Z h qa3 qk6 .byte (16 : Int32) [.int 123, .int qi7, .int qi8, .int qi9, .int 42, .int 125, .int 0, .int 0, .int 0, .int 0, .int 0, .int 0, .int 0, .int 0, .int 0, .int 0] (.int 0)
theorem rm106 (l : Launch) (Z : State) (a0 : Array Value) (hw : HW a0 Z) (G1 : Int32) (qa1 : Addr) (qa2 : Addr) (qa3 : Addr) (qa4 : Addr) (qk5 : ClassId) (qk6 : ClassId) (qi7 : Int32) (qi8 : Int32) (qi9 : Int32) (h0 : Heap) (n0 : Nat) (X00 : Old Z n0 h0) (O2 : Sta Z Z.heap "java/lang/String" "COMPACT_STRINGS" "Z" (.int G1)) (P5 : ¬ (G1 = (0 : Int32))) (F_qa1_coder : Fld Z h0 qa1 "java/lang/AbstractStringBuilder" "coder" "B" (.int 0)) (E_qa2 : Exa Z h0 qa2 "java/lang/String") (F_qa2_coder : Fld Z h0 qa2 "java/lang/String" "coder" "B" (.int 0)) (E_qa1 : Exa Z h0 qa1 "java/lang/StringBuilder") (F_qa1_value : Fld Z h0 qa1 "java/lang/AbstractStringBuilder" "value" "[B" (.ref qa3)) (F_qa2_value : Fld Z h0 qa2 "java/lang/String" "value" "[B" (.ref qa4)) (A_qa4 : Arv Z h0 qa4 qk5 .byte (2 : Int32) [.int 42, .int 125] (.int 0)) (A_qa3 : Arv Z h0 qa3 qk6 .byte (16 : Int32) [.int 123, .int qi7, .int qi8, .int qi9, .int 0, .int 0, .int 0, .int 0, .int 0, .int 0, .int 0, .int 0, .int 0, .int 0, .int 0, .int 0] (.int 0)) (g_qa3 : n0 ≤ qa3) :
    MF l Z Y27_ jdk_68_method_73_code 3 none (Rm 2 0 0 33) #[.ref qa1, .int 4, .ref qa2] h0 (Q106 Z qa3 qk6 qi7 qi8 qi9 h0 n0) := by
 refine own_sF pn7 rfl (fun m => ef13 m qa1 (4 : Int32) qa2) ?_
 intro p e s m below meth c s₁ Bd hZ hh hx hby hml hown hnm X0 e0 pre0
 have N0 := Fr.nil n0
 obtain ⟨cq1, q1, q1'⟩ := E_qa1.cell
 obtain ⟨_, T1, L1, X1, hQ1, st1⟩ := own_cb 0 0 0 0 0 0 (X0.privateBack hx (y := Y25_) hown (mvT hZ (w200_ hw)) (mvT hZ (w201_ hw)) (own_selP (mvT hZ (w203_ hw)) (Cond.privateMethod_at (mvP hZ (w202_ hw) (args := #[]))) (mvT hZ (w201_ hw)) (by decide)) (Cond.privateMethod_at (mvP hZ (w202_ hw) (args := #[]))) (mvT hZ (w204_ hw)) (by decide) (backOf (W := 0) (rm25 l Z a0 hw G1 qa1 qa2 h0 n0 X00 O2 P5 F_qa1_coder E_qa2 F_qa2_coder) hZ (w204_ hw) (w168_ hw) (lE rfl) (lE rfl)) (g := (mkF m 2 #[rv qa1, iv 4, rv qa2] [.ref qa2, .ref qa1])) rfl hml.symm (Steps.refl _) (a := qa1) (by rw [e0]; exact q1) q1' (argsL := [.ref qa2]) (rest := []) (lenOf pd21 rfl) rfl (own_hw rfl) (hb hby d25_2) (fun _ _ => ⟨rfl, e0, (lE rfl : 0 + 0 ≤ _), (lE rfl : 0 + 0 ≤ _)⟩)) rfl rfl
 obtain ⟨rfl, N1q, e1q⟩ := hQ1
 have N1 := Fr.app N0 N1q
 obtain ⟨T2, X2, e2, st2⟩ := getF X1 hx hZ hown (host := "") (Or.inl (w172_ hw)) Via.refl e1q F_qa1_value (g := (mkF m 7 #[rv qa1, iv 4, rv qa2] [.ref qa1, .ref qa2])) rfl rfl (hb hby d25_7)
 obtain ⟨T3, X3, e3, st3⟩ := getF X2 hx hZ hown (host := "") (Or.inl (w174_ hw)) Via.refl e2 F_qa1_coder (g := (mkF m 12 #[rv qa1, iv 4, rv qa2] [.ref qa1, .int 4, .ref qa3, .ref qa2])) rfl rfl (hb hby d25_12)
 obtain ⟨_, T4, L4, X4, hQ4, st4⟩ := own_cV 0 0 [] 15 #[rv qa1, iv 4, rv qa2] X3 hx hZ hown E_qa2 (w206_ hw) (w207_ hw) (notFace_of_selects (args := #[]) (mvT hZ (w209_ hw))) (w209_ hw) (w208_ hw) (w6_ hw) (w210_ hw) (rm105 l Z a0 hw G1 qa2 qa3 qa4 qk5 qk6 qi7 qi8 qi9 h0 n0 X00 O2 P5 E_qa2 F_qa2_coder F_qa2_value A_qa4 A_qa3 g_qa3) pd22 hml.symm (hb hby d25_15) e3 rfl rfl rfl rfl (by decide)
 obtain ⟨rfl, N4q, K4q, w5⟩ := hQ4
 have N4 := Fr.app N1 N4q
 have K6 := (Keep.refl h0 [qa3]).trans K4q (allS (Or.inl (mI 0 rfl)) all0)
 refine own_lvN X4 Bd rfl ⟨rfl, N4, K6, w5⟩ rfl (fun fs hr => pre0 _ (by
  show Sx p e below s₁ m 0 #[rv qa1, iv 4, rv qa2] [] _
  refine zb X0 Bd d25_0 rfl rfl ?_
  refine zb X0 Bd d25_1 rfl rfl ?_
  refine st1.trans ?_
  refine zb X1 Bd d25_5 rfl rfl ?_
  refine zb X1 Bd d25_6 rfl rfl ?_
  refine st2 _ ?_
  refine zj X2 Bd d25_10 rfl ?_
  refine zb X2 Bd d25_11 rfl rfl ?_
  refine st3 _ ?_
  refine st4 _ ?_
  exact X4.returnOut hx Bd.returns (hb hby d25_18) hr))
-- java/lang/AbstractStringBuilder.append(Ljava/lang/String;)Ljava/lang/AbstractStringBuilder;
def Q107 (Z : State) (qa1 : Addr) (qa5 : Addr) (qk6 : ClassId) (qi7 : Int32) (qi8 : Int32) (qi9 : Int32) (h0 : Heap) (n0 : Nat) (v : Option Value) (h : Heap) (L : List Loc) : Prop := v = some (.ref qa1) ∧ Fr n0 L ∧ Keep h0 h [qa5, qa1] ∧ Fld Z h qa1 "java/lang/AbstractStringBuilder" "count" "I" (.int 6) ∧ Fld Z h qa1 "java/lang/AbstractStringBuilder" "value" "[B" (.ref qa5) ∧ Fld Z h qa1 "java/lang/AbstractStringBuilder" "coder" "B" (.int 0) ∧ Exa Z h qa1 "java/lang/StringBuilder" ∧ Arv Z h qa5 qk6 .byte (16 : Int32) [.int 123, .int qi7, .int qi8, .int qi9, .int 42, .int 125, .int 0, .int 0, .int 0, .int 0, .int 0, .int 0, .int 0, .int 0, .int 0, .int 0] (.int 0)
theorem rm107 (l : Launch) (Z : State) (a0 : Array Value) (hw : HW a0 Z) (G1 : Int32) (qa1 : Addr) (qa2 : Addr) (qa3 : Addr) (qk4 : ClassId) (qa5 : Addr) (qk6 : ClassId) (qi7 : Int32) (qi8 : Int32) (qi9 : Int32) (h0 : Heap) (n0 : Nat) (X00 : Old Z n0 h0) (O2 : Sta Z Z.heap "java/lang/String" "COMPACT_STRINGS" "Z" (.int G1)) (P5 : ¬ (G1 = (0 : Int32))) (E_qa2 : Exa Z h0 qa2 "java/lang/String") (F_qa2_coder : Fld Z h0 qa2 "java/lang/String" "coder" "B" (.int 0)) (F_qa2_value : Fld Z h0 qa2 "java/lang/String" "value" "[B" (.ref qa3)) (hp_qa2 : ∀ c ∈ ([42, 125] : List Int32), ¬ c < 0 ∧ ¬ (255 : Int32) < c) (A_qa3 : Arv Z h0 qa3 qk4 .byte (2 : Int32) [.int 42, .int 125] (.int 0)) (F_qa1_count : Fld Z h0 qa1 "java/lang/AbstractStringBuilder" "count" "I" (.int 4)) (F_qa1_value : Fld Z h0 qa1 "java/lang/AbstractStringBuilder" "value" "[B" (.ref qa5)) (A_qa5 : Arv Z h0 qa5 qk6 .byte (16 : Int32) [.int 123, .int qi7, .int qi8, .int qi9, .int 0, .int 0, .int 0, .int 0, .int 0, .int 0, .int 0, .int 0, .int 0, .int 0, .int 0, .int 0] (.int 0)) (F_qa1_coder : Fld Z h0 qa1 "java/lang/AbstractStringBuilder" "coder" "B" (.int 0)) (E_qa1 : Exa Z h0 qa1 "java/lang/StringBuilder") (g_qa5 : n0 ≤ qa5) (ne_qa1_qa5 : qa1 ≠ qa5) (g_qa1 : n0 ≤ qa1) :
    MF l Z Y28_ jdk_68_method_22_code 3 (some (.object "java/lang/AbstractStringBuilder")) (Rm 3 0 0 47) #[.ref qa1, .ref qa2] h0 (Q107 Z qa1 qa5 qk6 qi7 qi8 qi9 h0 n0) := by
 refine own_sF pn7 rfl (fun m => ef10 m qa1 qa2) ?_
 intro p e s m below meth c s₁ Bd hZ hh hx hby hml hown hnm X0 e0 pre0
 have N0 := Fr.nil n0
 have hcd2 : StrChars.Road.CodA ([42, 125] : List Int32) 0 (2 : Int32) [.int 42, .int 125] := StrChars.Road.codOf (n := 2) rfl (fun x hx => (hp_qa2 x hx).2)
 have hbd2 : ∀ x ∈ ([42, 125] : List Int32), ¬ x < 0 ∧ ¬ (65535 : Int32) < x := own_up _ hp_qa2
 obtain ⟨cq1, kq1, q1a, q1b, q1c⟩ := isOf hZ e0 E_qa2
 obtain ⟨_, T1, L1, X1, hQ1, st1⟩ := own_cb0 0 0 0 0 0 0 (X0.virtualBack hx (y := Y10_) (z := Y10_) hown (mvT hZ (w187_ hw)) (mvT hZ (w59_ hw)) (notFace_of_selects (args := #[]) (mvT hZ (w61_ hw))) (mvT hZ (w61_ hw)) (mvT hZ (w60_ hw)) (by decide) (StrChars.Road.lenW (W := 0) hZ (own_wl hw) (kI := 4) (w5_ hw) E_qa2 F_qa2_value F_qa2_coder A_qa3 hcd2 hbd2 (O2.ext X00.2) P5 (lE rfl) (lE rfl) (lE rfl)) q1a q1c (g := (mkF m 10 #[rv qa1, rv qa2, .unset] [.ref qa2])) rfl hml.symm (Steps.refl _) (argsL := []) (rest := []) (lenOf pd7 rfl) rfl (own_hw rfl) (hb hby d23_10) (fun _ _ => ⟨rfl, e0, (lE rfl : 0 + 0 ≤ _), (lE rfl : 0 + 0 ≤ _)⟩)) rfl rfl
 dsimp only [Pt.U, Pt.locs, Pt.cells, Pt.slots] at hQ1
 obtain ⟨rfl, rfl, e1q⟩ := hQ1
 have N1 := Fr.app N0 (Fr.nil n0)
 obtain ⟨T3, X3, e3, st3⟩ := getF X1 hx hZ hown (host := "") (Or.inl (w188_ hw)) Via.refl e1q F_qa1_count (g := (mkF m 16 #[rv qa1, rv qa2, iv 2] [.ref qa1, .ref qa1])) rfl rfl (hb hby d23_16)
 obtain ⟨cq4, q4, q4'⟩ := E_qa1.cell
 obtain ⟨_, T4, L4, X4, hQ4, st4⟩ := own_cb 0 0 0 0 0 0 (X3.privateBack hx (y := Y23_) hown (mvT hZ (w190_ hw)) (mvT hZ (w191_ hw)) (own_selP (mvT hZ (w193_ hw)) (Cond.privateMethod_at (mvP hZ (w192_ hw) (args := #[]))) (mvT hZ (w191_ hw)) (by decide)) (Cond.privateMethod_at (mvP hZ (w192_ hw) (args := #[]))) (mvT hZ (w194_ hw)) (by decide) (backOf (W := 0) (rm104 l Z a0 hw  qa1 qa5 qk6 qi7 qi8 qi9 h0 n0 X00 F_qa1_value A_qa5 F_qa1_coder) hZ (w194_ hw) (w168_ hw) (lE rfl) (lE rfl)) (g := (mkF m 21 #[rv qa1, rv qa2, iv 2] [.int 6, .ref qa1])) rfl hml.symm (Steps.refl _) (a := qa1) (by rw [e3]; exact q4) q4' (argsL := [.int 6]) (rest := []) (lenOf pd18 rfl) rfl (own_hw rfl) (hb hby d23_21) (fun _ _ => ⟨rfl, e3, (lE rfl : 0 + 0 ≤ _), (lE rfl : 0 + 0 ≤ _)⟩)) rfl rfl
 obtain ⟨rfl, N4q, e4q⟩ := hQ4
 have N4 := Fr.app N1 N4q
 obtain ⟨T5, X5, e5, st5⟩ := getF X4 hx hZ hown (host := "") (Or.inl (w188_ hw)) Via.refl e4q F_qa1_count (g := (mkF m 26 #[rv qa1, rv qa2, iv 2] [.ref qa1, .ref qa1])) rfl rfl (hb hby d23_26)
 obtain ⟨cq6, q6, q6'⟩ := E_qa1.cell
 obtain ⟨_, T6, L6, X6, hQ6, st6⟩ := own_cb 0 0 0 0 0 0 (X5.privateBack hx (y := Y27_) hown (mvT hZ (w195_ hw)) (mvT hZ (w196_ hw)) (own_selP (mvT hZ (w198_ hw)) (Cond.privateMethod_at (mvP hZ (w197_ hw) (args := #[]))) (mvT hZ (w196_ hw)) (by decide)) (Cond.privateMethod_at (mvP hZ (w197_ hw) (args := #[]))) (mvT hZ (w199_ hw)) (by decide) (backOf (W := 0) (rm106 l Z a0 hw G1 qa1 qa2 qa5 qa3 qk4 qk6 qi7 qi8 qi9 h0 n0 X00 O2 P5 F_qa1_coder E_qa2 F_qa2_coder E_qa1 F_qa1_value F_qa2_value A_qa3 A_qa5 g_qa5) hZ (w199_ hw) (w168_ hw) (lE rfl) (lE rfl)) (g := (mkF m 30 #[rv qa1, rv qa2, iv 2] [.ref qa2, .int 4, .ref qa1])) rfl hml.symm (Steps.refl _) (a := qa1) (by rw [e5]; exact q6) q6' (argsL := [.int 4, .ref qa2]) (rest := []) (lenOf pd23 rfl) rfl (own_hw rfl) (hb hby d23_30) (fun _ _ => ⟨rfl, e5, (lE rfl : 0 + 0 ≤ _), (lE rfl : 0 + 0 ≤ _)⟩)) rfl rfl
 obtain ⟨rfl, N6q, K6q, w7⟩ := hQ6
 have N6 := Fr.app N4 N6q
 have K8 := (Keep.refl h0 [qa5, qa1]).trans K6q (allS (Or.inl (mI 0 rfl)) all0)
 have F10_ := F_qa1_count.keep K6q (ninS ne_qa1_qa5 nin0)
 obtain ⟨T9, X9, e9, st9⟩ := getF X6 hx hZ hown (host := "") (Or.inl (w188_ hw)) Via.refl rfl F10_ (g := (mkF m 35 #[rv qa1, rv qa2, iv 2] [.ref qa1, .ref qa1])) rfl rfl (hb hby d23_35)
 have E11_ := E_qa1.keep K6q
 obtain ⟨T12, h12, X12, e12, W12, st12⟩ := putF X9 hx hZ hown (host := "") (Or.inl (w188_ hw)) Via.refl e9 F10_ E11_ (Or.inl (w189_ hw)) (w159_ hw) (ty := .int) (by decide) rfl rfl (g := (mkF m 40 #[rv qa1, rv qa2, iv 2] [.int 6, .ref qa1])) rfl rfl (hb hby d23_40)
 have N12 := Fr.snoc X12 N6 g_qa1
 have K13 := K8.wr W12 (Or.inl (mI 1 rfl))
 have F14_ : Fld Z h12 qa1 "java/lang/AbstractStringBuilder" "count" "I" (.int 6) := F10_.same W12
 have F15_ := F_qa1_value.keep K6q (ninS ne_qa1_qa5 nin0)
 have F16_ := F15_.other W12 (Or.inr (slot_ne (Or.inl (w173_ hw)) (Or.inl (w189_ hw)) (by decide) (t := (.array .byte)) (t' := .int) (by decide) (by decide)))
 have F17_ := F_qa1_coder.keep K6q (ninS ne_qa1_qa5 nin0)
 have F18_ := F17_.other W12 (Or.inr (slot_ne (Or.inl (w175_ hw)) (Or.inl (w189_ hw)) (by decide) (t := .byte) (t' := .int) (by decide) (by decide)))
 have E19_ := E11_.wr W12
 have A20_ := w7.other W12 (Ne.symm ne_qa1_qa5)
 refine own_lvF X12 Bd (.ref qa1) e12 ⟨rfl, N12, K13, F14_, F16_, F18_, E19_, A20_⟩ rfl (fun fs hr => pre0 _ (by
  show Sx p e below s₁ m 0 #[rv qa1, rv qa2, .unset] [] _
  refine zb X0 Bd d23_0 rfl rfl ?_
  refine XS.ifnonnullYes X0.here hx rfl (pc0 := 1) (pc' := 9) rfl (hb hby d23_1) rfl (by decide) (by decide) ?_
  refine zb X0 Bd d23_9 rfl rfl ?_
  refine st1.trans ?_
  refine zt X1 Bd d23_13 (l' := #[rv qa1, rv qa2, iv 2]) rfl ?_
  refine zb X1 Bd d23_14 rfl rfl ?_
  refine zb X1 Bd d23_15 rfl rfl ?_
  refine st3 _ ?_
  refine zj X3 Bd d23_19 rfl ?_
  refine XS.iadd X3.here hx rfl (hb hby d23_20) rfl ?_
  refine st4.trans ?_
  refine zb X4 Bd d23_24 rfl rfl ?_
  refine zb X4 Bd d23_25 rfl rfl ?_
  refine st5 _ ?_
  refine zb X5 Bd d23_29 rfl rfl ?_
  refine st6.trans ?_
  refine zb X6 Bd d23_33 rfl rfl ?_
  refine XS.dup X6.here hx rfl (hb hby d23_34) rfl rfl ?_
  refine st9 _ ?_
  refine zj X9 Bd d23_38 rfl ?_
  refine XS.iadd X9.here hx rfl (hb hby d23_39) rfl ?_
  refine st12 _ ?_
  refine zb X12 Bd d23_43 rfl rfl ?_
  exact retOut X12 hx Bd.returns rfl (Or.inr (Or.inr (Or.inr (Or.inr ⟨rfl, rfl, rfl⟩)))) (hb hby d23_44) hr))
-- java/lang/StringBuilder.append(Ljava/lang/String;)Ljava/lang/StringBuilder;
def Q108 (Z : State) (qa1 : Addr) (qa5 : Addr) (qk6 : ClassId) (qi7 : Int32) (qi8 : Int32) (qi9 : Int32) (h0 : Heap) (n0 : Nat) (v : Option Value) (h : Heap) (L : List Loc) : Prop := v = some (.ref qa1) ∧ Fr n0 L ∧ Keep h0 h [qa1, qa5] ∧ Exa Z h qa1 "java/lang/StringBuilder" ∧ Fld Z h qa1 "java/lang/AbstractStringBuilder" "count" "I" (.int 6) ∧ Fld Z h qa1 "java/lang/AbstractStringBuilder" "value" "[B" (.ref qa5) ∧ Fld Z h qa1 "java/lang/AbstractStringBuilder" "coder" "B" (.int 0) ∧ Arv Z h qa5 qk6 .byte (16 : Int32) [.int 123, .int qi7, .int qi8, .int qi9, .int 42, .int 125, .int 0, .int 0, .int 0, .int 0, .int 0, .int 0, .int 0, .int 0, .int 0, .int 0] (.int 0)
theorem rm108 (l : Launch) (Z : State) (a0 : Array Value) (hw : HW a0 Z) (G1 : Int32) (qa1 : Addr) (qa2 : Addr) (qa3 : Addr) (qk4 : ClassId) (qa5 : Addr) (qk6 : ClassId) (qi7 : Int32) (qi8 : Int32) (qi9 : Int32) (h0 : Heap) (n0 : Nat) (X00 : Old Z n0 h0) (O2 : Sta Z Z.heap "java/lang/String" "COMPACT_STRINGS" "Z" (.int G1)) (P5 : ¬ (G1 = (0 : Int32))) (E_qa2 : Exa Z h0 qa2 "java/lang/String") (F_qa2_coder : Fld Z h0 qa2 "java/lang/String" "coder" "B" (.int 0)) (F_qa2_value : Fld Z h0 qa2 "java/lang/String" "value" "[B" (.ref qa3)) (hp_qa2 : ∀ c ∈ ([42, 125] : List Int32), ¬ c < 0 ∧ ¬ (255 : Int32) < c) (A_qa3 : Arv Z h0 qa3 qk4 .byte (2 : Int32) [.int 42, .int 125] (.int 0)) (F_qa1_count : Fld Z h0 qa1 "java/lang/AbstractStringBuilder" "count" "I" (.int 4)) (F_qa1_value : Fld Z h0 qa1 "java/lang/AbstractStringBuilder" "value" "[B" (.ref qa5)) (A_qa5 : Arv Z h0 qa5 qk6 .byte (16 : Int32) [.int 123, .int qi7, .int qi8, .int qi9, .int 0, .int 0, .int 0, .int 0, .int 0, .int 0, .int 0, .int 0, .int 0, .int 0, .int 0, .int 0] (.int 0)) (F_qa1_coder : Fld Z h0 qa1 "java/lang/AbstractStringBuilder" "coder" "B" (.int 0)) (E_qa1 : Exa Z h0 qa1 "java/lang/StringBuilder") (g_qa5 : n0 ≤ qa5) (ne_qa1_qa5 : qa1 ≠ qa5) (g_qa1 : n0 ≤ qa1) :
    MF l Z Y29_ jdk_67_method_7_code 2 (some (.object "java/lang/StringBuilder")) (Rm 4 0 0 61) #[.ref qa1, .ref qa2] h0 (Q108 Z qa1 qa5 qk6 qi7 qi8 qi9 h0 n0) := by
 refine own_sF pn6 rfl (fun m => ef2 m qa1 qa2) ?_
 intro p e s m below meth c s₁ Bd hZ hh hx hby hml hown hnm X0 e0 pre0
 have N0 := Fr.nil n0
 obtain ⟨_, T1, L1, X1, hQ1, st1⟩ := own_cb 0 0 0 0 0 0 (superBack X0 hx hZ (y := Y28_) hown (w182_ hw) (own_same (w183_ hw) (w193_ hw) rfl (by decide)) (w183_ hw) (w184_ hw) (by decide) (backOf (W := 0) (rm107 l Z a0 hw G1 qa1 qa2 qa3 qk4 qa5 qk6 qi7 qi8 qi9 h0 n0 X00 O2 P5 E_qa2 F_qa2_coder F_qa2_value hp_qa2 A_qa3 F_qa1_count F_qa1_value A_qa5 F_qa1_coder E_qa1 g_qa5 ne_qa1_qa5 g_qa1) hZ (w186_ hw) (w168_ hw) (lE rfl) (lE rfl)) e0 (Ins.self E_qa1) (g := (mkF m 2 #[rv qa1, rv qa2] [.ref qa2, .ref qa1])) rfl hml.symm (w186_ hw) (argsL := [.ref qa2]) (rest := []) (lenOf pd24 rfl) rfl (own_hw rfl) (hb hby d22_2) (fun _ _ => ⟨rfl, e0, (lE rfl : 0 + 0 ≤ _), (lE rfl : 0 + 0 ≤ _)⟩)) rfl rfl
 obtain ⟨rfl, N1q, K1q, w2, w3, w4, w5, w6⟩ := hQ1
 have N1 := Fr.app N0 N1q
 have K7 := (Keep.refl h0 [qa1, qa5]).trans K1q (allS (Or.inl (mI 1 rfl)) (allS (Or.inl (mI 0 rfl)) all0))
 have E8_ := E_qa1.keep K1q
 refine own_lvF X1 Bd (.ref qa1) rfl ⟨rfl, N1, K7, E8_, w2, w3, w4, w6⟩ rfl (fun fs hr => pre0 _ (by
  show Sx p e below s₁ m 0 #[rv qa1, rv qa2] [] _
  refine zb X0 Bd d22_0 rfl rfl ?_
  refine zb X0 Bd d22_1 rfl rfl ?_
  refine st1.trans ?_
  refine XS.pop X1.here hx rfl (hb hby d22_5) rfl rfl ?_
  refine zb X1 Bd d22_6 rfl rfl ?_
  exact retOut X1 hx Bd.returns rfl (Or.inr (Or.inr (Or.inr (Or.inr ⟨rfl, rfl, rfl⟩)))) (hb hby d22_7) hr))
-- java/lang/AbstractStringBuilder.length()I
def Q109 (Z : State)  (h0 : Heap) (n0 : Nat) (v : Option Value) (h : Heap) (L : List Loc) : Prop := v = some (.int 6) ∧ Fr n0 L ∧ h = h0
theorem rm109 (l : Launch) (Z : State) (a0 : Array Value) (hw : HW a0 Z) (qa1 : Addr) (h0 : Heap) (n0 : Nat) (X00 : Old Z n0 h0) (F_qa1_count : Fld Z h0 qa1 "java/lang/AbstractStringBuilder" "count" "I" (.int 6)) :
    MF l Z Y31_ jdk_68_method_6_code 1 (some .int) (Rm 0 0 0 0) #[.ref qa1] h0 (Q109 Z  h0 n0) := by
 refine own_sF pn7 rfl (fun m => ef8 m qa1) ?_
 intro p e s m below meth c s₁ Bd hZ hh hx hby hml hown hnm X0 e0 pre0
 have N0 := Fr.nil n0
 obtain ⟨T1, X1, e1, st1⟩ := getF X0 hx hZ hown (host := "") (Or.inl (w188_ hw)) Via.refl e0 F_qa1_count (g := (mkF m 1 #[rv qa1] [.ref qa1])) rfl rfl (hb hby d34_1)
 refine own_lvF X1 Bd (.int 6) e1 ⟨rfl, N0, rfl⟩ rfl (fun fs hr => pre0 _ (by
  show Sx p e below s₁ m 0 #[rv qa1] [] _
  refine zb X0 Bd d34_0 rfl rfl ?_
  refine st1 _ ?_
  exact retI X1 hx Bd.returns (hb hby d34_4) hr))
-- java/lang/StringBuilder.length()I
def Q110 (Z : State)  (h0 : Heap) (n0 : Nat) (v : Option Value) (h : Heap) (L : List Loc) : Prop := v = some (.int 6) ∧ Fr n0 L ∧ h = h0
theorem rm110 (l : Launch) (Z : State) (a0 : Array Value) (hw : HW a0 Z) (qa1 : Addr) (h0 : Heap) (n0 : Nat) (X00 : Old Z n0 h0) (F_qa1_count : Fld Z h0 qa1 "java/lang/AbstractStringBuilder" "count" "I" (.int 6)) (E_qa1 : Exa Z h0 qa1 "java/lang/StringBuilder") :
    MF l Z Y32_ jdk_67_method_93_code 1 (some .int) (Rm 1 0 0 12) #[.ref qa1] h0 (Q110 Z  h0 n0) := by
 refine own_sF pn6 rfl (fun m => ef8 m qa1) ?_
 intro p e s m below meth c s₁ Bd hZ hh hx hby hml hown hnm X0 e0 pre0
 have N0 := Fr.nil n0
 obtain ⟨_, T1, L1, X1, hQ1, st1⟩ := own_cb 0 0 0 0 0 0 (superBack X0 hx hZ (y := Y31_) hown (w239_ hw) (own_same (w235_ hw) (w193_ hw) rfl (by decide)) (w235_ hw) (w184_ hw) (by decide) (backOf (W := 0) (rm109 l Z a0 hw  qa1 h0 n0 X00 F_qa1_count) hZ (w240_ hw) (w168_ hw) (lE rfl) (lE rfl)) e0 (Ins.self E_qa1) (g := (mkF m 1 #[rv qa1] [.ref qa1])) rfl hml.symm (w240_ hw) (argsL := []) (rest := []) (lenOf pd7 rfl) rfl (own_hw rfl) (hb hby d33_1) (fun _ _ => ⟨rfl, e0, (lE rfl : 0 + 0 ≤ _), (lE rfl : 0 + 0 ≤ _)⟩)) rfl rfl
 obtain ⟨rfl, N1q, e1q⟩ := hQ1
 have N1 := Fr.app N0 N1q
 refine own_lvF X1 Bd (.int 6) e1q ⟨rfl, N1, rfl⟩ rfl (fun fs hr => pre0 _ (by
  show Sx p e below s₁ m 0 #[rv qa1] [] _
  refine zb X0 Bd d33_0 rfl rfl ?_
  refine st1.trans ?_
  exact retI X1 hx Bd.returns (hb hby d33_4) hr))
-- java/util/Arrays.checkLength(II)V
def Q111 (Z : State)  (h0 : Heap) (n0 : Nat) (v : Option Value) (h : Heap) (L : List Loc) : Prop := v = none ∧ Fr n0 L ∧ h = h0
theorem rm111 (l : Launch) (Z : State) (a0 : Array Value) (hw : HW a0 Z)  (h0 : Heap) (n0 : Nat) (X00 : Old Z n0 h0)  :
    MF l Z Y34_ jdk_65_method_131_code 2 none (Rm 0 0 0 0) #[.int 0, .int 6] h0 (Q111 Z  h0 n0) := by
 refine own_sF pn8 rfl (fun m => ef18 m (0 : Int32) (6 : Int32)) ?_
 intro p e s m below meth c s₁ Bd hZ hh hx hby hml hown hnm X0 e0 pre0
 have N0 := Fr.nil n0
 refine own_lvN X0 Bd e0 ⟨rfl, N0, rfl⟩ rfl (fun fs hr => pre0 _ (by
  show Sx p e below s₁ m 0 #[iv 0, iv 6] [] _
  refine zj X0 Bd d38_0 rfl ?_
  refine zj X0 Bd d38_1 rfl ?_
  refine zy (pc' := 37) X0 Bd d38_2 (XT.ii_ge_t ((by decide) : ¬ ((6 : Int32) < (0 : Int32)))) rfl ?_
  exact X0.returnOut hx Bd.returns (hb hby d38_37) hr))
-- java/lang/Math.min(II)I
def Q112 (Z : State)  (h0 : Heap) (n0 : Nat) (v : Option Value) (h : Heap) (L : List Loc) : Prop := v = some (.int 6) ∧ Fr n0 L ∧ h = h0
theorem rm112 (l : Launch) (Z : State) (a0 : Array Value) (hw : HW a0 Z)  (h0 : Heap) (n0 : Nat) (X00 : Old Z n0 h0)  :
    MF l Z Y35_ jdk_29_method_69_code 2 (some .int) (Rm 0 0 0 0) #[.int 16, .int 6] h0 (Q112 Z  h0 n0) := by
 refine own_sFm (K := "java/lang/Math") (by decide +kernel) rfl (fun m => ef18 m (16 : Int32) (6 : Int32)) ?_
 intro p e s m below meth c s₁ Bd hZ hh hx hby hml hown hnm X0 e0 pre0
 have N0 := Fr.nil n0
 refine own_lvF X0 Bd (.int 6) e0 ⟨rfl, N0, rfl⟩ rfl (fun fs hr => pre0 _ (by
  show Sx p e below s₁ m 0 #[iv 16, iv 6] [] _
  refine zj X0 Bd d39_0 rfl ?_
  refine zj X0 Bd d39_1 rfl ?_
  refine zy (pc' := 9) X0 Bd d39_2 (XT.ii_gt_t ((by decide) : (6 : Int32) < (16 : Int32))) rfl ?_
  refine zj X0 Bd d39_9 rfl ?_
  exact retI X0 hx Bd.returns (hb hby d39_10) hr))
-- java/util/Arrays.copyOfRangeByte([BII)[B
def Q113 (Z : State) (qi3 : Int32) (qi4 : Int32) (qi5 : Int32) (h0 : Heap) (n0 : Nat) (v : Option Value) (h : Heap) (L : List Loc) : Prop := ∃ b2 : Addr, ∃ c2 : ClassId, v = some (.ref b2) ∧ Fr n0 L ∧ Keep h0 h [] ∧ h0.size ≤ b2 ∧ Arv Z h b2 c2 .byte (6 : Int32) [.int 123, .int qi3, .int qi4, .int qi5, .int 42, .int 125] (.int 0)
theorem rm113 (l : Launch) (Z : State) (a0 : Array Value) (hw : HW a0 Z) (qa1 : Addr) (qk2 : ClassId) (qi3 : Int32) (qi4 : Int32) (qi5 : Int32) (h0 : Heap) (n0 : Nat) (X00 : Old Z n0 h0) (A_qa1 : Arv Z h0 qa1 qk2 .byte (16 : Int32) [.int 123, .int qi3, .int qi4, .int qi5, .int 42, .int 125, .int 0, .int 0, .int 0, .int 0, .int 0, .int 0, .int 0, .int 0, .int 0, .int 0] (.int 0)) :
    MF l Z Y36_ jdk_65_method_133_code 5 (some (.array .byte)) (Rm 1 1 6 18) #[.ref qa1, .int 0, .int 6] h0 (Q113 Z qi3 qi4 qi5 h0 n0) := by
 refine own_sF pn8 rfl (fun m => ef17 m qa1 (0 : Int32) (6 : Int32)) ?_
 intro p e s m below meth c s₁ Bd hZ hh hx hby hml hown hnm X0 e0 pre0
 have N0 := Fr.nil n0
 obtain ⟨_, T1, L1, X1, hQ1, st1⟩ := own_cS 0 0 [] 2 #[rv qa1, iv 0, iv 6, .unset, .unset] X0 hx hZ hown (w253_ hw) (w254_ hw) (w248_ hw) (w255_ hw) (rm111 l Z a0 hw   h0 n0 X00 ) pd27 hml.symm (hb hby d37_2) e0 rfl rfl rfl rfl (by decide)
 obtain ⟨rfl, N1q, e1q⟩ := hQ1
 have N1 := Fr.app N0 N1q
 obtain ⟨T2, h2, c2, X2, e2, E2, A2, st2⟩ := newP (aty := .byte) X1 hx hZ (w19_ hw) e1q (g := (mkF m 10 #[rv qa1, iv 0, iv 6, iv 6, .unset] [.int 6])) rfl (hb hby d37_10) rfl (by decide) (cap := 6) (by decide) (lE rfl) (lE rfl) (lE rfl)
 obtain ⟨b2, g2⟩ : ∃ z, z = h0.size := ⟨_, rfl⟩
 rw [← g2] at A2 st2
 replace X2 : Stand p l e (Rm 1 1 6 18) s m #[.ref qa1, .int 0, .int 6] below meth c T2 _ 1 6 := X2
 have K3 := (Keep.refl h0 []).ext E2
 have A4_ : Arv Z h2 b2 c2 .byte (6 : Int32) [.int 0, .int 0, .int 0, .int 0, .int 0, .int 0] (.int 0) := (Arv.new A2 (by decide)).pad (pad_rep [] (.int 0) 6)
 have A6_ := A_qa1.ext E2
 have av5 := A6_
 obtain ⟨cl5, Ar5, q5, S5, N5, H5, Gf5⟩ := av5
 have O8 := X00.ext E2
 obtain ⟨_, T7, L7, X7, hQ7, st7⟩ := own_cS 1 6 [.int 0, .ref b2, .int 0, .ref qa1] 24 #[rv qa1, iv 0, iv 6, iv 6, rv b2] X2 hx hZ hown (w256_ hw) (w257_ hw) (w258_ hw) (w259_ hw) (rm112 l Z a0 hw   h2 n0 O8 ) pd28 hml.symm (hb hby d37_24) e2 rfl rfl rfl rfl (by decide)
 obtain ⟨rfl, N7q, e7q⟩ := hQ7
 have N7 := Fr.app N1 N7q
 have g_b2 : n0 ≤ b2 := Nat.le_trans (Nat.le_trans (Nat.le_of_eq X00.1.symm) X00.2.1) (Nat.le_of_eq g2.symm)
 obtain ⟨T9, h9, L9, X9, e9, N9, K9q, A9, st9⟩ := cpA X7 hx hZ hown (w260_ hw) (w214_ hw) (w212_ hw) (w213_ hw) e7q (vs := [.int 123, .int qi3, .int qi4, .int qi5, .int 42, .int 125, .int 0, .int 0, .int 0, .int 0, .int 0, .int 0, .int 0, .int 0, .int 0, .int 0]) (vd := [.int 0, .int 0, .int 0, .int 0, .int 0, .int 0]) (us := [.int 123, .int qi3, .int qi4, .int qi5, .int 42, .int 125]) A6_ A4_ (Or.inl ⟨rfl, rfl⟩) (by decide) (by decide) (by decide) (by decide) (by decide) rfl (lE rfl) N7 g_b2 (g := (mkF m 27 #[rv qa1, iv 0, iv 6, iv 6, rv b2] [.int 6, .int 0, .ref b2, .int 0, .ref qa1])) rfl hml.symm rfl (hb hby d37_27) (by decide) (W := 0) (own_hw rfl) (by decide)
 have sz_b2 : h0.size ≤ b2 := (Nat.le_of_eq g2.symm)
 have K10 := K3.trans K9q (allS (Or.inr sz_b2) all0)
 have A11_ : Arv Z h9 b2 c2 .byte (6 : Int32) [.int 123, .int qi3, .int qi4, .int qi5, .int 42, .int 125] (.int 0) := A9
 refine own_lvF X9 Bd (.ref b2) e9 ⟨b2, c2, rfl, N9, K10, sz_b2, A11_⟩ rfl (fun fs hr => pre0 _ (by
  show Sx p e below s₁ m 0 #[rv qa1, iv 0, iv 6, .unset, .unset] [] _
  refine zj X0 Bd d37_0 rfl ?_
  refine zj X0 Bd d37_1 rfl ?_
  refine st1 _ ?_
  refine zj X1 Bd d37_5 rfl ?_
  refine zj X1 Bd d37_6 rfl ?_
  refine XS.isub X1.here hx rfl (hb hby d37_7) rfl ?_
  refine zt X1 Bd d37_8 (l' := #[rv qa1, iv 0, iv 6, iv 6, .unset]) rfl ?_
  refine zj X1 Bd d37_9 rfl ?_
  refine st2 _ ?_
  refine XS.astore X2.here hx rfl (hb hby d37_12) rfl rfl (l' := #[rv qa1, iv 0, iv 6, iv 6, rv b2]) rfl ?_
  refine zb X2 Bd d37_14 rfl rfl ?_
  refine zj X2 Bd d37_15 rfl ?_
  refine za X2 Bd d37_16 rfl rfl ?_
  refine zc X2 Bd d37_18 ?_
  refine zb X2 Bd d37_19 rfl rfl ?_
  refine X2.arraylength hx (by rw [e2]; exact Ar5.1) (State.isArrayOf_alike hZ.alike Ar5.2.1) (g := (mkF m 20 #[rv qa1, iv 0, iv 6, iv 6, rv b2] [.ref qa1, .int 0, .ref b2, .int 0, .ref qa1])) rfl rfl (hb hby d37_20) _ ?_
  rw [len_of S5 N5]
  refine zj X2 Bd d37_21 rfl ?_
  refine XS.isub X2.here hx rfl (hb hby d37_22) rfl ?_
  refine zj X2 Bd d37_23 rfl ?_
  refine st7 _ ?_
  refine st9 _ ?_
  refine za X9 Bd d37_30 rfl rfl ?_
  exact retOut X9 hx Bd.returns rfl (Or.inr (Or.inr (Or.inr (Or.inr ⟨rfl, rfl, rfl⟩)))) (hb hby d37_32) hr))
-- java/util/Arrays.copyOfRange([BII)[B
def Q114 (Z : State) (qi3 : Int32) (qi4 : Int32) (qi5 : Int32) (h0 : Heap) (n0 : Nat) (v : Option Value) (h : Heap) (L : List Loc) : Prop := ∃ b3 : Addr, ∃ c4_ : ClassId, v = some (.ref b3) ∧ Fr n0 L ∧ Keep h0 h [] ∧ h0.size ≤ b3 ∧ Arv Z h b3 c4_ .byte (6 : Int32) [.int 123, .int qi3, .int qi4, .int qi5, .int 42, .int 125] (.int 0)
theorem rm114 (l : Launch) (Z : State) (a0 : Array Value) (hw : HW a0 Z) (qa1 : Addr) (qk2 : ClassId) (qi3 : Int32) (qi4 : Int32) (qi5 : Int32) (h0 : Heap) (n0 : Nat) (X00 : Old Z n0 h0) (A_qa1 : Arv Z h0 qa1 qk2 .byte (16 : Int32) [.int 123, .int qi3, .int qi4, .int qi5, .int 42, .int 125, .int 0, .int 0, .int 0, .int 0, .int 0, .int 0, .int 0, .int 0, .int 0, .int 0] (.int 0)) :
    MF l Z Y37_ jdk_65_method_132_code 3 (some (.array .byte)) (Rm 2 1 6 34) #[.ref qa1, .int 0, .int 6] h0 (Q114 Z qi3 qi4 qi5 h0 n0) := by
 refine own_sF pn8 rfl (fun m => ef16 m qa1 (0 : Int32) (6 : Int32)) ?_
 intro p e s m below meth c s₁ Bd hZ hh hx hby hml hown hnm X0 e0 pre0
 have N0 := Fr.nil n0
 have av1 := A_qa1
 obtain ⟨cl1, Ar1, q1, S1, N1, H1, Gf1⟩ := av1
 obtain ⟨_, T2, L2, X2, hQ2, st2⟩ := own_cS 1 6 [] 13 #[rv qa1, iv 0, iv 6] X0 hx hZ hown (w250_ hw) (w251_ hw) (w248_ hw) (w252_ hw) (rm113 l Z a0 hw  qa1 qk2 qi3 qi4 qi5 h0 n0 X00 A_qa1) pd29 hml.symm (hb hby d36_13) e0 rfl rfl rfl rfl (by decide)
 obtain ⟨b3, c4_, rfl, N2q, K2q, w5, w6⟩ := hQ2
 have N2 := Fr.app N0 N2q
 have K7 := (Keep.refl h0 []).trans K2q (fun x q => nomatch q)
 have sz_b3 : h0.size ≤ b3 := w5
 refine own_lvF X2 Bd (.ref b3) rfl ⟨b3, c4_, rfl, N2, K7, sz_b3, w6⟩ rfl (fun fs hr => pre0 _ (by
  show Sx p e below s₁ m 0 #[rv qa1, iv 0, iv 6] [] _
  refine zj X0 Bd d36_0 rfl ?_
  refine zo X0 Bd d36_1 (XT.i0_ne_f ((by decide) : (0 : Int32) = (0 : Int32))) ?_
  refine zj X0 Bd d36_4 rfl ?_
  refine zb X0 Bd d36_5 rfl rfl ?_
  refine X0.arraylength hx (by rw [e0]; exact Ar1.1) (State.isArrayOf_alike hZ.alike Ar1.2.1) (g := (mkF m 6 #[rv qa1, iv 0, iv 6] [.ref qa1, .int 6])) rfl rfl (hb hby d36_6) _ ?_
  rw [len_of S1 N1]
  refine zn X0 Bd d36_7 (XT.ii_eq_f ((by decide) : ¬ ((6 : Int32) = (16 : Int32)))) ?_
  refine zb X0 Bd d36_10 rfl rfl ?_
  refine zj X0 Bd d36_11 rfl ?_
  refine zj X0 Bd d36_12 rfl ?_
  refine st2 _ ?_
  exact retOut X2 hx Bd.returns rfl (Or.inr (Or.inr (Or.inr (Or.inr ⟨rfl, rfl, rfl⟩)))) (hb hby d36_16) hr))
-- java/lang/String.<init>(Ljava/lang/AbstractStringBuilder;Ljava/lang/Void;)V
def Q115 (Z : State) (qa1 : Addr) (qi5 : Int32) (qi6 : Int32) (qi7 : Int32) (h0 : Heap) (n0 : Nat) (v : Option Value) (h : Heap) (L : List Loc) : Prop := ∃ b11 : Addr, ∃ c12_ : ClassId, v = none ∧ Fr n0 L ∧ Keep h0 h [qa1] ∧ h0.size ≤ b11 ∧ Exa Z h qa1 "java/lang/String" ∧ Fld Z h qa1 "java/lang/String" "coder" "B" (.int 0) ∧ Fld Z h qa1 "java/lang/String" "value" "[B" (.ref b11) ∧ Arv Z h b11 c12_ .byte (6 : Int32) [.int 123, .int qi5, .int qi6, .int qi7, .int 42, .int 125] (.int 0)
theorem rm115 (l : Launch) (Z : State) (a0 : Array Value) (hw : HW a0 Z) (G1 : Int32) (qa1 : Addr) (qa2 : Addr) (qa3 : Addr) (qk4 : ClassId) (qi5 : Int32) (qi6 : Int32) (qi7 : Int32) (h0 : Heap) (n0 : Nat) (X00 : Old Z n0 h0) (O2 : Sta Z Z.heap "java/lang/String" "COMPACT_STRINGS" "Z" (.int G1)) (P5 : ¬ (G1 = (0 : Int32))) (E_qa2 : Exa Z h0 qa2 "java/lang/StringBuilder") (F_qa2_value : Fld Z h0 qa2 "java/lang/AbstractStringBuilder" "value" "[B" (.ref qa3)) (F_qa2_count : Fld Z h0 qa2 "java/lang/AbstractStringBuilder" "count" "I" (.int 6)) (F_qa2_coder : Fld Z h0 qa2 "java/lang/AbstractStringBuilder" "coder" "B" (.int 0)) (E_qa1 : Exa Z h0 qa1 "java/lang/String") (F_qa1_coder : Fld Z h0 qa1 "java/lang/String" "coder" "B" (.int 0)) (g_qa1 : n0 ≤ qa1) (A_qa3 : Arv Z h0 qa3 qk4 .byte (16 : Int32) [.int 123, .int qi5, .int qi6, .int qi7, .int 42, .int 125, .int 0, .int 0, .int 0, .int 0, .int 0, .int 0, .int 0, .int 0, .int 0, .int 0] (.int 0)) (ne_qa3_qa1 : qa3 ≠ qa1) (F_qa1_value : Fld Z h0 qa1 "java/lang/String" "value" "[B" .null) :
    MF l Z Y38_ jdk_42_method_150_code 5 none (Rm 3 1 6 49) #[.ref qa1, .ref qa2, .null] h0 (Q115 Z qa1 qi5 qi6 qi7 h0 n0) := by
 refine own_sF pn1 rfl (fun m => ef15 m qa1 qa2) ?_
 intro p e s m below meth c s₁ Bd hZ hh hx hby hml hown hnm X0 e0 pre0
 have N0 := Fr.nil n0
 obtain ⟨T1, X1, e1, st1⟩ := initO X0 hx hZ hown (w15_ hw) (w16_ hw) (w17_ hw) e0 (g := (mkF m 1 #[rv qa1, rv qa2, .val .null, .unset, .unset] [.ref qa1])) rfl hml.symm rfl (hb hby d31_1) (by decide) (W := 0) (own_hw rfl) (lE rfl)
 obtain ⟨_, T2, L2, X2, hQ2, st2⟩ := own_cV 0 0 [] 5 #[rv qa1, rv qa2, .val .null, .unset, .unset] X1 hx hZ hown E_qa2 (w228_ hw) (w229_ hw) (notFace_of_selects (args := #[]) (mvT hZ (w231_ hw))) (w231_ hw) (w230_ hw) (w168_ hw) (w232_ hw) (rm40 l Z a0 hw  qa2 qa3 h0 n0 X00 F_qa2_value) pd26 hml.symm (hb hby d31_5) e1 rfl rfl rfl rfl (by decide)
 obtain ⟨rfl, N2q, e2q⟩ := hQ2
 have N2 := Fr.app N0 N2q
 obtain ⟨_, T3, L3, X3, hQ3, st3⟩ := own_cV 0 0 [] 10 #[rv qa1, rv qa2, .val .null, rv qa3, .unset] X2 hx hZ hown E_qa2 (w233_ hw) (w234_ hw) (own_nf (mvT (args := #[]) hZ (w193_ hw)) rfl) (w236_ hw) (w237_ hw) (w160_ hw) (w238_ hw) (rm110 l Z a0 hw  qa2 h0 n0 X00 F_qa2_count E_qa2) pd7 hml.symm (hb hby d31_10) e2q rfl rfl rfl rfl (by decide)
 obtain ⟨rfl, N3q, e3q⟩ := hQ3
 have N3 := Fr.app N2 N3q
 obtain ⟨_, T4, L4, X4, hQ4, st4⟩ := own_cV 0 0 [] 16 #[rv qa1, rv qa2, .val .null, rv qa3, iv 6] X3 hx hZ hown E_qa2 (w241_ hw) (w242_ hw) (notFace_of_selects (args := #[]) (mvT hZ (w244_ hw))) (w244_ hw) (w243_ hw) (w168_ hw) (w245_ hw) (rm43 l Z a0 hw G1 qa2 h0 n0 X00 O2 P5 F_qa2_coder) pd14 hml.symm (hb hby d31_16) e3q rfl rfl rfl rfl (by decide)
 obtain ⟨rfl, N4q, e4q⟩ := hQ4
 have N4 := Fr.app N3 N4q
 obtain ⟨T5, h5, X5, e5, W5, st5⟩ := putF X4 hx hZ hown (host := "") (Or.inl (w25_ hw)) Via.refl e4q F_qa1_coder E_qa1 (Or.inr ⟨(w21_ hw), rfl, hnm⟩) (w5_ hw) (ty := .byte) (by decide) rfl rfl (g := (mkF m 24 #[rv qa1, rv qa2, .val .null, rv qa3, iv 6] [.int 0, .ref qa1])) rfl rfl (hb hby d31_24)
 have N5 := Fr.snoc X5 N4 g_qa1
 have K6 := (Keep.refl h0 [qa1]).wr W5 (Or.inl (mI 0 rfl))
 have F7_ : Fld Z h5 qa1 "java/lang/String" "coder" "B" (.int 0) := F_qa1_coder.same W5
 have A9_ := A_qa3.other W5 ne_qa3_qa1
 have O10 := X00.wr W5 g_qa1
 obtain ⟨_, T8, L8, X8, hQ8, st8⟩ := own_cS 1 6 [.ref qa1] 32 #[rv qa1, rv qa2, .val .null, rv qa3, iv 6] X5 hx hZ hown (w246_ hw) (w247_ hw) (w248_ hw) (w249_ hw) (rm114 l Z a0 hw  qa3 qk4 qi5 qi6 qi7 h5 n0 O10 A9_) pd29 hml.symm (hb hby d31_32) e5 rfl rfl rfl rfl (by decide)
 obtain ⟨b11, c12_, rfl, N8q, K8q, w13, w14⟩ := hQ8
 have N8 := Fr.app N5 N8q
 have K15 := K6.trans K8q (fun x q => nomatch q)
 have F16_ := F_qa1_value.other W5 (Or.inr (slot_ne (Or.inr (w20_ hw)) (Or.inr (w21_ hw)) (by decide) (t := (.array .byte)) (t' := .byte) (by decide) (by decide)))
 have F17_ := F16_.keep K8q nin0
 have E18_ := E_qa1.wr W5
 have E19_ := E18_.keep K8q
 obtain ⟨T20, h20, X20, e20, W20, st20⟩ := putF X8 hx hZ hown (host := "") (Or.inl (w24_ hw)) Via.refl rfl F17_ E19_ (Or.inr ⟨(w20_ hw), rfl, hnm⟩) (w5_ hw) (ty := (.array .byte)) (by decide) rfl rfl (g := (mkF m 35 #[rv qa1, rv qa2, .val .null, rv qa3, iv 6] [.ref b11, .ref qa1])) rfl rfl (hb hby d31_35)
 have N20 := Fr.snoc X20 N8 g_qa1
 have K21 := K15.wr W20 (Or.inl (mI 0 rfl))
 have F22_ : Fld Z h20 qa1 "java/lang/String" "value" "[B" (.ref b11) := F17_.same W20
 have sz_b11 : h0.size ≤ b11 := Nat.le_trans K6.1 w13
 have E23_ := E19_.wr W20
 have F24_ := F7_.keep K8q nin0
 have F25_ := F24_.other W20 (Or.inr (slot_ne (Or.inr (w21_ hw)) (Or.inr (w20_ hw)) (by decide) (t := .byte) (t' := (.array .byte)) (by decide) (by decide)))
 have A26_ := w14.other W20 (Ne.symm (Nat.ne_of_lt (Nat.lt_of_lt_of_le (Nat.lt_of_lt_of_le E_qa1.lt (Nat.le_of_eq W5.size.symm)) w13)))
 refine own_lvN X20 Bd e20 ⟨b11, c12_, rfl, N20, K21, sz_b11, E23_, F25_, F22_, A26_⟩ rfl (fun fs hr => pre0 _ (by
  show Sx p e below s₁ m 0 #[rv qa1, rv qa2, .val .null, .unset, .unset] [] _
  refine zb X0 Bd d31_0 rfl rfl ?_
  refine st1 _ ?_
  refine zb X1 Bd d31_4 rfl rfl ?_
  refine st2 _ ?_
  refine XS.astoreN X2.here hx rfl (hb hby d31_8) rfl rfl (l' := #[rv qa1, rv qa2, .val .null, rv qa3, .unset]) rfl ?_
  refine zb X2 Bd d31_9 rfl rfl ?_
  refine st3 _ ?_
  refine zs X3 Bd d31_13 (l' := #[rv qa1, rv qa2, .val .null, rv qa3, iv 6]) rfl ?_
  refine zb X3 Bd d31_15 rfl rfl ?_
  refine st4 _ ?_
  refine zo X4 Bd d31_19 (XT.i0_eq_f ((by decide) : ¬ ((1 : Int32) = (0 : Int32)))) ?_
  refine zb X4 Bd d31_22 rfl rfl ?_
  refine zc X4 Bd d31_23 ?_
  refine st5 _ ?_
  refine zb X5 Bd d31_27 rfl rfl ?_
  refine zb X5 Bd d31_28 rfl rfl ?_
  refine zc X5 Bd d31_29 ?_
  refine zi X5 Bd d31_30 rfl ?_
  refine st8 _ ?_
  refine st20 _ ?_
  refine zg (pc' := 97) X20 Bd d31_38 rfl ?_
  exact X20.returnOut hx Bd.returns (hb hby d31_97) hr))
-- java/lang/String.<init>(Ljava/lang/StringBuilder;)V
def Q116 (Z : State) (qa1 : Addr) (qi5 : Int32) (qi6 : Int32) (qi7 : Int32) (h0 : Heap) (n0 : Nat) (v : Option Value) (h : Heap) (L : List Loc) : Prop := ∃ b2 : Addr, ∃ c3_ : ClassId, v = none ∧ Fr n0 L ∧ Keep h0 h [qa1] ∧ h0.size ≤ b2 ∧ Exa Z h qa1 "java/lang/String" ∧ Fld Z h qa1 "java/lang/String" "coder" "B" (.int 0) ∧ Fld Z h qa1 "java/lang/String" "value" "[B" (.ref b2) ∧ Arv Z h b2 c3_ .byte (6 : Int32) [.int 123, .int qi5, .int qi6, .int qi7, .int 42, .int 125] (.int 0)
theorem rm116 (l : Launch) (Z : State) (a0 : Array Value) (hw : HW a0 Z) (G1 : Int32) (qa1 : Addr) (qa2 : Addr) (qa3 : Addr) (qk4 : ClassId) (qi5 : Int32) (qi6 : Int32) (qi7 : Int32) (h0 : Heap) (n0 : Nat) (X00 : Old Z n0 h0) (O2 : Sta Z Z.heap "java/lang/String" "COMPACT_STRINGS" "Z" (.int G1)) (P5 : ¬ (G1 = (0 : Int32))) (E_qa2 : Exa Z h0 qa2 "java/lang/StringBuilder") (F_qa2_value : Fld Z h0 qa2 "java/lang/AbstractStringBuilder" "value" "[B" (.ref qa3)) (F_qa2_count : Fld Z h0 qa2 "java/lang/AbstractStringBuilder" "count" "I" (.int 6)) (F_qa2_coder : Fld Z h0 qa2 "java/lang/AbstractStringBuilder" "coder" "B" (.int 0)) (E_qa1 : Exa Z h0 qa1 "java/lang/String") (F_qa1_coder : Fld Z h0 qa1 "java/lang/String" "coder" "B" (.int 0)) (g_qa1 : n0 ≤ qa1) (A_qa3 : Arv Z h0 qa3 qk4 .byte (16 : Int32) [.int 123, .int qi5, .int qi6, .int qi7, .int 42, .int 125, .int 0, .int 0, .int 0, .int 0, .int 0, .int 0, .int 0, .int 0, .int 0, .int 0] (.int 0)) (ne_qa3_qa1 : qa3 ≠ qa1) (F_qa1_value : Fld Z h0 qa1 "java/lang/String" "value" "[B" .null) :
    MF l Z Y39_ jdk_42_method_53_code 2 none (Rm 4 1 6 65) #[.ref qa1, .ref qa2] h0 (Q116 Z qa1 qi5 qi6 qi7 h0 n0) := by
 refine own_sF pn1 rfl (fun m => ef2 m qa1 qa2) ?_
 intro p e s m below meth c s₁ Bd hZ hh hx hby hml hown hnm X0 e0 pre0
 have N0 := Fr.nil n0
 obtain ⟨_, T1, L1, X1, hQ1, st1⟩ := own_cI 1 6 [] 3 #[rv qa1, rv qa2] X0 hx hZ hown (w225_ hw) (w226_ hw) (w6_ hw) (w227_ hw) (rm115 l Z a0 hw G1 qa1 qa2 qa3 qk4 qi5 qi6 qi7 h0 n0 X00 O2 P5 E_qa2 F_qa2_value F_qa2_count F_qa2_coder E_qa1 F_qa1_coder g_qa1 A_qa3 ne_qa3_qa1 F_qa1_value) pd30 hml.symm (hb hby d30_3) e0 rfl rfl rfl rfl rfl (by decide)
 obtain ⟨b2, c3_, rfl, N1q, K1q, w4, w5, w6, w7, w8⟩ := hQ1
 have N1 := Fr.app N0 N1q
 have K9 := (Keep.refl h0 [qa1]).trans K1q (allS (Or.inl (mI 0 rfl)) all0)
 have sz_b2 : h0.size ≤ b2 := w4
 have E10_ := E_qa1.keep K1q
 refine own_lvN X1 Bd rfl ⟨b2, c3_, rfl, N1, K9, sz_b2, E10_, w6, w7, w8⟩ rfl (fun fs hr => pre0 _ (by
  show Sx p e below s₁ m 0 #[rv qa1, rv qa2] [] _
  refine zb X0 Bd d30_0 rfl rfl ?_
  refine zb X0 Bd d30_1 rfl rfl ?_
  refine XS.aconstNull X0.here hx rfl (hb hby d30_2) ?_
  refine st1 _ ?_
  exact X1.returnOut hx Bd.returns (hb hby d30_6) hr))
-- java/lang/StringBuilder.toString()Ljava/lang/String;
def Q117 (Z : State) (qi4 : Int32) (qi5 : Int32) (qi6 : Int32) (h0 : Heap) (n0 : Nat) (v : Option Value) (h : Heap) (L : List Loc) : Prop := ∃ b1 : Addr, ∃ b12 : Addr, ∃ c13_ : ClassId, v = some (.ref b1) ∧ Fr n0 L ∧ Keep h0 h [] ∧ h0.size ≤ b1 ∧ h0.size ≤ b12 ∧ b1 ≠ b12 ∧ Exa Z h b1 "java/lang/String" ∧ Fld Z h b1 "java/lang/String" "coder" "B" (.int 0) ∧ Fld Z h b1 "java/lang/String" "value" "[B" (.ref b12) ∧ Arv Z h b12 c13_ .byte (6 : Int32) [.int 123, .int qi4, .int qi5, .int qi6, .int 42, .int 125] (.int 0)
theorem rm117 (l : Launch) (Z : State) (a0 : Array Value) (hw : HW a0 Z) (G1 : Int32) (qa1 : Addr) (qa2 : Addr) (qk3 : ClassId) (qi4 : Int32) (qi5 : Int32) (qi6 : Int32) (h0 : Heap) (n0 : Nat) (X00 : Old Z n0 h0) (O2 : Sta Z Z.heap "java/lang/String" "COMPACT_STRINGS" "Z" (.int G1)) (P5 : ¬ (G1 = (0 : Int32))) (E_qa1 : Exa Z h0 qa1 "java/lang/StringBuilder") (F_qa1_value : Fld Z h0 qa1 "java/lang/AbstractStringBuilder" "value" "[B" (.ref qa2)) (F_qa1_count : Fld Z h0 qa1 "java/lang/AbstractStringBuilder" "count" "I" (.int 6)) (F_qa1_coder : Fld Z h0 qa1 "java/lang/AbstractStringBuilder" "coder" "B" (.int 0)) (A_qa2 : Arv Z h0 qa2 qk3 .byte (16 : Int32) [.int 123, .int qi4, .int qi5, .int qi6, .int 42, .int 125, .int 0, .int 0, .int 0, .int 0, .int 0, .int 0, .int 0, .int 0, .int 0, .int 0] (.int 0)) :
    MF l Z Y40_ jdk_67_method_42_code 1 (some (.object "java/lang/String")) (Rm 5 2 10 79) #[.ref qa1] h0 (Q117 Z qi4 qi5 qi6 h0 n0) := by
 refine own_sF pn6 rfl (fun m => ef8 m qa1) ?_
 intro p e s m below meth c s₁ Bd hZ hh hx hby hml hown hnm X0 e0 pre0
 have N0 := Fr.nil n0
 obtain ⟨T1, h1, X1, e1, E1, A1, D1, -, st1⟩ := newO X0 hx hZ hown (w221_ hw) (w5_ hw) (w6_ hw) e0 (g := (mkF m 0 #[rv qa1] [])) rfl (hb hby d29_0) (lE rfl) (lE rfl)
 obtain ⟨b1, g1⟩ : ∃ z, z = h0.size := ⟨_, rfl⟩
 rw [← g1] at A1 D1 st1
 replace X1 : Stand p l e (Rm 5 2 10 79) s m #[.ref qa1] below meth c T1 _ 1 4 := X1
 have K2 := (Keep.refl h0 []).ext E1
 have F3_ : Fld Z h1 b1 "java/lang/String" "value" "[B" .null := D1 (Or.inr (w20_ hw)) (ty := (.array .byte)) (by decide)
 have F4_ : Fld Z h1 b1 "java/lang/String" "coder" "B" (.int 0) := D1 (Or.inr (w21_ hw)) (ty := .byte) (by decide)
 have E6_ := E_qa1.ext E1
 have F7_ := F_qa1_value.ext E1
 have F8_ := F_qa1_count.ext E1
 have F9_ := F_qa1_coder.ext E1
 have g_b1 : n0 ≤ b1 := Nat.le_trans (Nat.le_trans (Nat.le_of_eq X00.1.symm) X00.2.1) (Nat.le_of_eq g1.symm)
 have A10_ := A_qa2.ext E1
 have O11 := X00.ext E1
 obtain ⟨_, T5, L5, X5, hQ5, st5⟩ := own_cI 2 10 [.ref b1] 5 #[rv qa1] X1 hx hZ hown (w222_ hw) (w223_ hw) (w6_ hw) (w224_ hw) (rm116 l Z a0 hw G1 b1 qa1 qa2 qk3 qi4 qi5 qi6 h1 n0 O11 O2 P5 E6_ F7_ F8_ F9_ A1 F4_ g_b1 A10_ (Nat.ne_of_lt (Nat.lt_of_lt_of_le A_qa2.lt (Nat.le_of_eq g1.symm))) F3_) pd31 hml.symm (hb hby d29_5) e1 rfl rfl rfl rfl rfl (by decide)
 obtain ⟨b12, c13_, rfl, N5q, K5q, w14, w15, w16, w17, w18⟩ := hQ5
 have N5 := Fr.app N0 N5q
 have sz_b1 : h0.size ≤ b1 := (Nat.le_of_eq g1.symm)
 have K19 := K2.trans K5q (allS (Or.inr sz_b1) all0)
 have sz_b12 : h0.size ≤ b12 := Nat.le_trans K2.1 w14
 have E20_ := A1.keep K5q
 refine own_lvF X5 Bd (.ref b1) rfl ⟨b1, b12, c13_, rfl, N5, K19, sz_b1, sz_b12, (Nat.ne_of_lt (Nat.lt_of_lt_of_le A1.lt w14)), E20_, w16, w17, w18⟩ rfl (fun fs hr => pre0 _ (by
  show Sx p e below s₁ m 0 #[rv qa1] [] _
  refine st1 _ ?_
  refine XS.dup X1.here hx rfl (hb hby d29_3) rfl rfl ?_
  refine zb X1 Bd d29_4 rfl rfl ?_
  refine st5 _ ?_
  exact retOut X5 hx Bd.returns rfl (Or.inr (Or.inr (Or.inr (Or.inr ⟨rfl, rfl, rfl⟩)))) (hb hby d29_8) hr))
-- com/example/echoes_to_canon/echoestocanon/UrlKeys$Value.toString()Ljava/lang/String;
def Q118 (Z : State) (qi4 : Int32) (qi5 : Int32) (qi6 : Int32) (h0 : Heap) (n0 : Nat) (v : Option Value) (h : Heap) (L : List Loc) : Prop := ∃ b109 : Addr, ∃ b110 : Addr, ∃ c111_ : ClassId, v = some (.ref b109) ∧ Fr n0 L ∧ Keep h0 h [] ∧ h0.size ≤ b109 ∧ h0.size ≤ b110 ∧ b109 ≠ b110 ∧ Exa Z h b109 "java/lang/String" ∧ Fld Z h b109 "java/lang/String" "coder" "B" (.int 0) ∧ Fld Z h b109 "java/lang/String" "value" "[B" (.ref b110) ∧ Arv Z h b110 c111_ .byte (6 : Int32) [.int 123, (.int ((qi4).toInt8.toInt32)), (.int ((qi5).toInt8.toInt32)), (.int ((qi6).toInt8.toInt32)), .int 42, .int 125] (.int 0)
theorem rm118 (l : Launch) (Z : State) (a0 : Array Value) (hw : HW a0 Z) (G1 : Int32) (qa1 : Addr) (qa2 : Addr) (qa3 : Addr) (qi4 : Int32) (qi5 : Int32) (qi6 : Int32) (qk7 : ClassId) (h0 : Heap) (n0 : Nat) (X00 : Old Z n0 h0) (O2 : Sta Z Z.heap "java/lang/String" "COMPACT_STRINGS" "Z" (.int G1)) (P5 : ¬ (G1 = (0 : Int32))) (F_qa1_variable : Fld Z h0 qa1 "com/example/echoes_to_canon/echoestocanon/UrlKeys$Value" "variable" "Ljava/lang/String;" (.ref qa2)) (F_qa1_run : Fld Z h0 qa1 "com/example/echoes_to_canon/echoestocanon/UrlKeys$Value" "run" "Z" (.int 1)) (E_qa2 : Exa Z h0 qa2 "java/lang/String") (F_qa2_coder : Fld Z h0 qa2 "java/lang/String" "coder" "B" (.int 0)) (F_qa2_value : Fld Z h0 qa2 "java/lang/String" "value" "[B" (.ref qa3)) (hp_qa2 : ∀ c ∈ ([qi4, qi5, qi6] : List Int32), ¬ c < 0 ∧ ¬ (255 : Int32) < c) (A_qa3 : Arv Z h0 qa3 qk7 .byte (3 : Int32) ((([qi4, qi5, qi6] : List Int32).map (fun c => c.toInt8.toInt32)).map Value.int) (.int 0)) :
    MW l Z consts_1 Y41_ prog_15_method_18_code 1 (some (.object "java/lang/String")) (Rm 6 8 50 91) #[.ref qa1] h0 (Q118 Z qi4 qi5 qi6 h0 n0) := by
 refine own_sW pn4 rfl (fun m => ef8 m qa1) ?_
 intro p e s m below meth c s₁ Bd hZ hh hx hby hml hown hnm X0 e0 pre0 hC0 hS0 hk0 hR0
 have N0 := Fr.nil n0
 have hEL := own_EW hw
 have hwS := own_wS hw
 obtain ⟨T1, X1, e1, st1⟩ := getF X0 hx hZ hown (host := "") (Or.inl (w117_ hw)) Via.refl e0 F_qa1_variable (g := (mkF m 1 #[rv qa1] [.ref qa1])) rfl rfl (hb hby d19_1)
 obtain ⟨T2, X2, e2, st2⟩ := getF X1 hx hZ hown (host := "") (Or.inl (w119_ hw)) Via.refl e1 F_qa1_run (g := (mkF m 13 #[rv qa1] [.ref qa1])) rfl rfl (hb hby d19_13)
 obtain ⟨T3, h3, X3, e3, E3, A3, D3, -, st3⟩ := newO X2 hx hZ hown (w158_ hw) (w159_ hw) (w160_ hw) e2 (g := (mkF m 19 #[rv qa1] [])) rfl (hb hby d19_19) (lE rfl) (lE rfl)
 obtain ⟨b3, g3⟩ : ∃ z, z = h0.size := ⟨_, rfl⟩
 rw [← g3] at A3 D3 st3
 replace X3 : Stand p l e (Rm 6 8 50 91) (s.setVm s.vm) m #[.ref qa1] below meth c T3 _ 1 4 := X3
 have K4 := (Keep.refl h0 []).ext E3
 have C5 : CHv Z consts_1 s.vm h3 := CHv.ext E3 hC0
 have R6 : CHr Z consts_1 s.vm h0 s.vm h3 := hR0.trans (CHr.ext E3 hC0)
 have F7_ : Fld Z h3 b3 "java/lang/AbstractStringBuilder" "value" "[B" .null := D3 (Or.inl (w173_ hw)) (ty := (.array .byte)) (by decide)
 have F8_ : Fld Z h3 b3 "java/lang/AbstractStringBuilder" "coder" "B" (.int 0) := D3 (Or.inl (w175_ hw)) (ty := .byte) (by decide)
 have F9_ : Fld Z h3 b3 "java/lang/AbstractStringBuilder" "count" "I" (.int 0) := D3 (Or.inl (w189_ hw)) (ty := .int) (by decide)
 have g_b3 : n0 ≤ b3 := Nat.le_trans (Nat.le_trans (Nat.le_of_eq X00.1.symm) X00.2.1) (Nat.le_of_eq g3.symm)
 have O11 := X00.ext E3
 obtain ⟨_, T10, L10, X10, hQ10, st10⟩ := own_cI 2 20 [.ref b3] 23 #[rv qa1] X3 hx hZ hown (w161_ hw) (w162_ hw) (w160_ hw) (w163_ hw) (rm22 l Z a0 hw G1 b3 h3 n0 O11 O2 P5 A3 F7_ g_b3 F8_ F9_) pd19 hml.symm (hb hby d19_23) e3 rfl rfl rfl rfl rfl (by decide)
 obtain ⟨b12, c13_, rfl, N10q, K10q, w14, w15, w16, w17, w18, w19⟩ := hQ10
 have N10 := Fr.app N0 N10q
 have sz_b3 : h0.size ≤ b3 := (Nat.le_of_eq g3.symm)
 have K20 := K4.trans K10q (allS (Or.inr sz_b3) all0)
 have C21 : CHv Z consts_1 s.vm T10.heap := CHv.keep K10q (sfS (Safe.exa hZ.alike A3 (by decide) (by decide)) sf0) C5
 have R22 : CHr Z consts_1 s.vm h0 s.vm T10.heap := R6.trans (CHr.keep K10q (sfS (Safe.exa hZ.alike A3 (by decide) (by decide)) sf0) C5)
 have hk24' : _ ≤ T10.heap.size := (Nat.le_trans (Nat.le_trans hk0 E3.1) K10q.1)
 obtain ⟨b23, T23, h23, k23, t23, c23, X23, e23, E23, hS23, hk23, hZ23, ho23, Ex23, Fc23, Fv23, Av23, lb23, lt23, CR23, -, sf23, st23⟩ := ldcCH (text := "{") (EL := consts_1) X10 hx hZ hown (w176_ hw) hwS rfl hS0 hk24' hEL (by decide) C21 (vs := [.int 123]) (z := (1 : Int32)) ⟨by decide, by decide⟩ (by decide) (by decide) (g := (mkF m 26 #[rv qa1] [.ref b3])) rfl (hb hby d19_26) (n := 4) (by decide) (lE rfl) (lE rfl) (lE rfl)
 have K25 := K20.ext E23
 have R27 := R22.trans CR23
 replace X23 : Stand p l e (Rm 6 8 50 91) (s.setVm T23.vm) m #[.ref qa1] below meth c T23 _ 4 28 := X23
 have hp29 : ∀ c ∈ ([123] : List Int32), ¬ c < 0 ∧ ¬ (255 : Int32) < c := (List.forall_mem_cons.mpr ⟨(by decide), (fun _ q => nomatch q)⟩)
 have F30_ := w18.ext E23
 have F31_ := w16.ext E23
 have A32_ := w19.ext E23
 have F33_ := w17.ext E23
 have E34_ := A3.keep K10q
 have E35_ := E34_.ext E23
 have g_b12 : n0 ≤ b12 := Nat.le_trans (Nat.le_trans (Nat.le_of_eq O11.1.symm) O11.2.1) w14
 have O36 := O11.keep K10q (allS g_b3 all0)
 have O37 := O36.ext E23
 obtain ⟨_, T28, L28, X28, hQ28, st28⟩ := own_cV 4 28 [] 28 #[rv qa1] X23 hx hZ23 ho23 E35_ (w177_ hw) (w178_ hw) (notFace_of_selects (args := #[]) (mvT hZ23 (w180_ hw))) (w180_ hw) (w179_ hw) (w160_ hw) (w181_ hw) (rm29 l Z a0 hw G1 b3 b23 t23 c23 b12 c13_ h23 n0 O37 O2 P5 Ex23 Fc23 Fv23 hp29 Av23 F30_ F31_ A32_ F33_ E35_ g_b12 (Nat.ne_of_lt (Nat.lt_of_lt_of_le A3.lt w14)) g_b3) pd25 hml.symm (hb hby d19_28) e23 rfl rfl rfl rfl (by decide)
 obtain ⟨rfl, N28q, K28q, w38, w39, w40, w41, w42⟩ := hQ28
 have N28 := Fr.app N10 N28q
 have sz_b12 : h0.size ≤ b12 := Nat.le_trans K4.1 w14
 have K43 := K25.trans K28q (allS (Or.inr sz_b3) (allS (Or.inr sz_b12) all0))
 have f45 : Safe Z consts_1 s.vm T10.heap b12 := Safe.keep K10q (sfS (Safe.exa hZ.alike A3 (by decide) (by decide)) sf0) C5 (Safe.new w14)
 have f46 : Safe Z consts_1 T23.vm h23 b12 := CR23.safe w19.lt f45
 have C44 : CHv Z consts_1 T23.vm T28.heap := CHv.keep K28q (sfS (Safe.exa hZ23.alike E35_ (by decide) (by decide)) (sfS f46 sf0)) CR23.1
 have R47 : CHr Z consts_1 s.vm h0 T23.vm T28.heap := R27.trans (CHr.keep K28q (sfS (Safe.exa hZ23.alike E35_ (by decide) (by decide)) (sfS f46 sf0)) CR23.1)
 have F49_ := F_qa1_variable.ext E3
 have F50_ := F49_.keep K10q (ninS (Nat.ne_of_lt (Nat.lt_of_lt_of_le F_qa1_variable.lt (Nat.le_of_eq g3.symm))) nin0)
 have F51_ := F50_.ext E23
 have F52_ := F51_.keep K28q (ninS (Nat.ne_of_lt (Nat.lt_of_lt_of_le F_qa1_variable.lt (Nat.le_of_eq g3.symm))) (ninS (Nat.ne_of_lt (Nat.lt_of_lt_of_le (Nat.lt_of_lt_of_le F_qa1_variable.lt E3.1) w14)) nin0))
 obtain ⟨T48, X48, e48, st48⟩ := getF X28 hx hZ23 ho23 (host := "") (Or.inl (w117_ hw)) Via.refl rfl F52_ (g := (mkF m 32 #[rv qa1] [.ref qa1, .ref b3])) rfl rfl (hb hby d19_32)
 have E54_ := E_qa2.ext E3
 have E55_ := E54_.keep K10q
 have E56_ := E55_.ext E23
 have E57_ := E56_.keep K28q
 have F58_ := F_qa2_coder.ext E3
 have F59_ := F58_.keep K10q (ninS (Nat.ne_of_lt (Nat.lt_of_lt_of_le E_qa2.lt (Nat.le_of_eq g3.symm))) nin0)
 have F60_ := F59_.ext E23
 have F61_ := F60_.keep K28q (ninS (Nat.ne_of_lt (Nat.lt_of_lt_of_le E_qa2.lt (Nat.le_of_eq g3.symm))) (ninS (Nat.ne_of_lt (Nat.lt_of_lt_of_le (Nat.lt_of_lt_of_le E_qa2.lt E3.1) w14)) nin0))
 have F62_ := F_qa2_value.ext E3
 have F63_ := F62_.keep K10q (ninS (Nat.ne_of_lt (Nat.lt_of_lt_of_le E_qa2.lt (Nat.le_of_eq g3.symm))) nin0)
 have F64_ := F63_.ext E23
 have F65_ := F64_.keep K28q (ninS (Nat.ne_of_lt (Nat.lt_of_lt_of_le E_qa2.lt (Nat.le_of_eq g3.symm))) (ninS (Nat.ne_of_lt (Nat.lt_of_lt_of_le (Nat.lt_of_lt_of_le E_qa2.lt E3.1) w14)) nin0))
 have A66_ := A_qa3.ext E3
 have A67_ := A66_.keep K10q (ninS (Nat.ne_of_lt (Nat.lt_of_lt_of_le A_qa3.lt (Nat.le_of_eq g3.symm))) nin0)
 have A68_ := A67_.ext E23
 have A69_ := A68_.keep K28q (ninS (Nat.ne_of_lt (Nat.lt_of_lt_of_le A_qa3.lt (Nat.le_of_eq g3.symm))) (ninS (Nat.ne_of_lt (Nat.lt_of_lt_of_le (Nat.lt_of_lt_of_le A_qa3.lt E3.1) w14)) nin0))
 have E70_ := E35_.keep K28q
 have O71 := O37.keep K28q (allS g_b3 (allS g_b12 all0))
 obtain ⟨_, T53, L53, X53, hQ53, st53⟩ := own_cV 4 28 [] 35 #[rv qa1] X48 hx hZ23 ho23 E70_ (w177_ hw) (w178_ hw) (notFace_of_selects (args := #[]) (mvT hZ23 (w180_ hw))) (w180_ hw) (w179_ hw) (w160_ hw) (w181_ hw) (rm103 l Z a0 hw G1 b3 qa2 qa3 qi4 qi5 qi6 qk7 b12 c13_ T28.heap n0 O71 O2 P5 E57_ F61_ F65_ hp_qa2 A69_ w39 w40 w42 w41 E70_ g_b12 (Nat.ne_of_lt (Nat.lt_of_lt_of_le A3.lt w14)) g_b3) pd25 hml.symm (hb hby d19_35) e48 rfl rfl rfl rfl (by decide)
 obtain ⟨rfl, N53q, K53q, w72, w73, w74, w75, w76⟩ := hQ53
 have N53 := Fr.app N28 N53q
 have K77 := K43.trans K53q (allS (Or.inr sz_b3) (allS (Or.inr sz_b12) all0))
 have f79 : Safe Z consts_1 T23.vm T28.heap b12 := Safe.keep K28q (sfS (Safe.exa hZ23.alike E35_ (by decide) (by decide)) (sfS f46 sf0)) CR23.1 f46
 have C78 : CHv Z consts_1 T23.vm T53.heap := CHv.keep K53q (sfS (Safe.exa hZ23.alike E70_ (by decide) (by decide)) (sfS f79 sf0)) C44
 have R80 : CHr Z consts_1 s.vm h0 T23.vm T53.heap := R47.trans (CHr.keep K53q (sfS (Safe.exa hZ23.alike E70_ (by decide) (by decide)) (sfS f79 sf0)) C44)
 have hk82' : _ ≤ T53.heap.size := (Nat.le_trans (Nat.le_trans hk23 K28q.1) K53q.1)
 obtain ⟨b81, T81, h81, k81, t81, c81, X81, e81, E81, hS81, hk81, hZ81, ho81, Ex81, Fc81, Fv81, Av81, lb81, lt81, CR81, -, sf81, st81⟩ := ldcCH (text := "*}") (EL := consts_1) X53 hx hZ23 ho23 (w215_ hw) hwS rfl hS23 hk82' hEL (by decide) C78 (vs := [.int 42, .int 125]) (z := (2 : Int32)) ⟨by decide, by decide⟩ (by decide) (by decide) (g := (mkF m 38 #[rv qa1] [.ref b3])) rfl (hb hby d19_38) (n := 8) (by decide) (lE rfl) (lE rfl) (lE rfl)
 have K83 := K77.ext E81
 have R85 := R80.trans CR81
 replace X81 : Stand p l e (Rm 6 8 50 91) (s.setVm T81.vm) m #[.ref qa1] below meth c T81 _ 6 40 := X81
 have hp87 : ∀ c ∈ ([42, 125] : List Int32), ¬ c < 0 ∧ ¬ (255 : Int32) < c := (List.forall_mem_cons.mpr ⟨(by decide), (List.forall_mem_cons.mpr ⟨(by decide), (fun _ q => nomatch q)⟩)⟩)
 have F88_ := w73.ext E81
 have F89_ := w74.ext E81
 have A90_ := w76.ext E81
 have F91_ := w75.ext E81
 have E92_ := E70_.keep K53q
 have E93_ := E92_.ext E81
 have O94 := O71.keep K53q (allS g_b3 (allS g_b12 all0))
 have O95 := O94.ext E81
 obtain ⟨_, T86, L86, X86, hQ86, st86⟩ := own_cV 6 40 [] 40 #[rv qa1] X81 hx hZ81 ho81 E93_ (w177_ hw) (w178_ hw) (notFace_of_selects (args := #[]) (mvT hZ81 (w180_ hw))) (w180_ hw) (w179_ hw) (w160_ hw) (w181_ hw) (rm108 l Z a0 hw G1 b3 b81 t81 c81 b12 c13_ ((qi4).toInt8.toInt32) ((qi5).toInt8.toInt32) ((qi6).toInt8.toInt32) h81 n0 O95 O2 P5 Ex81 Fc81 Fv81 hp87 Av81 F88_ F89_ A90_ F91_ E93_ g_b12 (Nat.ne_of_lt (Nat.lt_of_lt_of_le A3.lt w14)) g_b3) pd25 hml.symm (hb hby d19_40) e81 rfl rfl rfl rfl (by decide)
 obtain ⟨rfl, N86q, K86q, w96, w97, w98, w99, w100⟩ := hQ86
 have N86 := Fr.app N53 N86q
 have K101 := K83.trans K86q (allS (Or.inr sz_b3) (allS (Or.inr sz_b12) all0))
 have f103 : Safe Z consts_1 T23.vm T53.heap b12 := Safe.keep K53q (sfS (Safe.exa hZ23.alike E70_ (by decide) (by decide)) (sfS f79 sf0)) C44 f79
 have f104 : Safe Z consts_1 T81.vm h81 b12 := CR81.safe (Nat.lt_of_lt_of_le w19.lt (Nat.le_trans (Nat.le_trans E23.1 K28q.1) K53q.1)) f103
 have C102 : CHv Z consts_1 T81.vm T86.heap := CHv.keep K86q (sfS (Safe.exa hZ81.alike E93_ (by decide) (by decide)) (sfS f104 sf0)) CR81.1
 have R105 : CHr Z consts_1 s.vm h0 T81.vm T86.heap := R85.trans (CHr.keep K86q (sfS (Safe.exa hZ81.alike E93_ (by decide) (by decide)) (sfS f104 sf0)) CR81.1)
 have E107_ := E93_.keep K86q
 have O108 := O95.keep K86q (allS g_b3 (allS g_b12 all0))
 obtain ⟨_, T106, L106, X106, hQ106, st106⟩ := own_cV 8 50 [] 43 #[rv qa1] X86 hx hZ81 ho81 E107_ (w216_ hw) (w217_ hw) (notFace_of_selects (args := #[]) (mvT hZ81 (w219_ hw))) (w219_ hw) (w218_ hw) (w160_ hw) (w220_ hw) (rm117 l Z a0 hw G1 b3 b12 c13_ ((qi4).toInt8.toInt32) ((qi5).toInt8.toInt32) ((qi6).toInt8.toInt32) T86.heap n0 O108 O2 P5 E107_ w98 w97 w99 w100) pd15 hml.symm (hb hby d19_43) rfl rfl rfl rfl rfl (by decide)
 obtain ⟨b109, b110, c111_, rfl, N106q, K106q, w112, w113, w114, w115, w116, w117, w118⟩ := hQ106
 have N106 := Fr.app N86 N106q
 have K119 := K101.trans K106q (fun x q => nomatch q)
 have C120 : CHv Z consts_1 T81.vm T106.heap := CHv.keep K106q sf0 C102
 have R121 : CHr Z consts_1 s.vm h0 T81.vm T106.heap := R105.trans (CHr.keep K106q sf0 C102)
 have sz_b109 : h0.size ≤ b109 := Nat.le_trans K101.1 w112
 have sz_b110 : h0.size ≤ b110 := Nat.le_trans K101.1 w113
 have hk122' : _ ≤ T106.heap.size := (Nat.le_trans (Nat.le_trans hk81 K86q.1) K106q.1)
 refine own_lvW X106 Bd.notSynchronized hS81 hk122' (v := (some (.ref b109))) (fun h => by rw [Bd.returns] at h; cases h) rfl hh ⟨b109, b110, c111_, rfl, N106, K119, sz_b109, sz_b110, w114, w115, w116, w117, w118⟩ (R121.trans (CHv.at X106 hZ81 hEL C120)) (lE rfl) (lE rfl) (fun fs hr => pre0 _ (by
  show Sx p e below s₁ m 0 #[rv qa1] [] _
  refine zb X0 Bd d19_0 rfl rfl ?_
  refine st1 _ ?_
  refine XS.ifnonnullYes X1.here hx rfl (pc0 := 4) (pc' := 12) rfl (hb hby d19_4) rfl (by decide) (by decide) ?_
  refine zb X1 Bd d19_12 rfl rfl ?_
  refine st2 _ ?_
  refine zo X2 Bd d19_16 (XT.i0_eq_f ((by decide) : ¬ ((1 : Int32) = (0 : Int32)))) ?_
  refine st3 _ ?_
  refine XS.dup X3.here hx rfl (hb hby d19_22) rfl rfl ?_
  refine st10 _ ?_
  refine st23 _ ?_
  refine st28 _ ?_
  refine zb X28 Bd d19_31 rfl rfl ?_
  refine st48 _ ?_
  refine st53 _ ?_
  refine st81 _ ?_
  refine st86 _ ?_
  refine st106 _ ?_
  exact retOut X106 hx Bd.returns rfl (Or.inr (Or.inr (Or.inr (Or.inr ⟨rfl, rfl, rfl⟩)))) (hb hby d19_46) hr))
def Q0 (n0 : Nat) (v : Option Value) (h : Heap) (L : List Loc) : Prop := v = some (.int 1) ∧ Fr n0 L
theorem rm0 (l : Launch) (Z : State) (a0 : Array Value) (hw : ∀ d ∈ tables_1, d.before a0 Z = true) (ws : List Jvm.Cond) (G1 : Int32) (G3 : Value) (p1 : Int32) (p2 : Int32) (p3 : Int32) (p4 : Int32) (p5 : Int32) (h0 : Heap) (n0 : Nat) (X00 : Old Z n0 h0) (O2 : Sta Z Z.heap "java/lang/String" "COMPACT_STRINGS" "Z" (.int G1)) (P5 : ¬ (G1 = (0 : Int32))) (O4 : Sta Z Z.heap "jdk/internal/util/Preconditions" "SIOOBE_FORMATTER" "Ljava/util/function/BiFunction;" G3) (rG3 : G3.isRef = true) :
    MetFree l x (head1 (Jvm.Cond.code x code maxLocals ret :: ws) room_1) (fun a U => a = #[.int p1, .int p2, .int p3, .int p4, .int p5] ∧ Z.Warmed39 U.vm ∧ U.heap = h0 ∧ CHv Z consts_1 U.vm h0) (fun _ _ _ _ _ => True) (fun _ U o U' => ∃ v L, o = .returned v ∧ Q0 n0 v U'.heap L ∧ CHr Z consts_1 U.vm U.heap U'.vm U'.heap ∧ ReturnedEndW U o U' L room_1.cells room_1.slots) := by
 refine MetFree.of_bodySF (plainFor_of_name pn0) hisR ?_
 intro p e s m args below meth c s₁ Bd hml0 hP hK
 obtain ⟨rfl, hZ, hh, hC0⟩ := hP
 have hx := Bd.exec
 have hby := Bd.bytes
 have hml : c.maxLocals = 15 := hml0
 have hown : s.vm.findClass "com/example/echoes_to_canon/echoestocanon/UrlKeysRestPinLaw" = some m.cls := findClass_of_methodNamed Bd.named
 have hnm := (name_of_methodNamed Bd.named Bd.method).1
 have X0 : Stand p l e room_1 (s.setVm s.vm) m #[.int p1, .int p2, .int p3, .int p4, .int p5] below meth c s₁ [] 0 0 := Stand.of_body Bd
 have e0 : s₁.heap = h0 := by rw [← hh, Bd.state]; rfl
 have N0 := Fr.nil n0
 have pre0 : ∀ t, Steps p.tables e below (s₁.setTop (mkF m 0 #[iv p1, iv p2, iv p3, iv p4, iv p5, .unset, .unset, .unset, .unset, .unset, .unset, .unset, .unset, .unset, .unset] [])) t → Steps p.tables e below (s₁.setTop (entryFrame m #[.int p1, .int p2, .int p3, .int p4, .int p5] maxLocals)) t := fun t k => castTop (ef0 m p1 p2 p3 p4 p5) k
 obtain ⟨en, hen⟩ : ∃ f, f = (entryFrame m #[.int p1, .int p2, .int p3, .int p4, .int p5] maxLocals) := ⟨_, rfl⟩
 rw [← hen] at pre0 ⊢
 have hS0 : s.Since s.vm h0.size := (State.WarmedH.refl s).since _
 have hk0 : h0.size ≤ h0.size := Nat.le_refl _
 have hR0 : CHr Z consts_1 s.vm h0 s.vm h0 := CHr.refl hC0
 have hEL := own_EW hw
 have hwS := own_wS hw
 have pr2 : Pr p e below s₁ m 37 #[iv p1, iv p2, iv p3, iv p4, iv p5, iv (p1 &&& (3 : Int32)), iv (ab0_ p2), iv (ab1_ p3), iv (ab2_ p4), .unset, .unset, .unset, .unset, .unset, .unset] [(.int (ab2_ p4)), (.int (ab1_ p3)), (.int (ab0_ p2)), (.int (p1 &&& (3 : Int32)))] s₁ en := fun t k => pre0 t (by
  show Sx p e below s₁ m 0 #[iv p1, iv p2, iv p3, iv p4, iv p5, .unset, .unset, .unset, .unset, .unset, .unset, .unset, .unset, .unset, .unset] [] _
  refine zj X0 Bd at_0 rfl ?_
  refine zc X0 Bd at_1 ?_
  refine XS.iand X0.here hx rfl (hb hby at_2) rfl ?_
  refine zs X0 Bd at_3 (l' := #[iv p1, iv p2, iv p3, iv p4, iv p5, iv (p1 &&& (3 : Int32)), .unset, .unset, .unset, .unset, .unset, .unset, .unset, .unset, .unset]) rfl ?_
  refine zj X0 Bd at_5 rfl ?_
  refine XS.sipush X0.here hx rfl (hb hby at_6) ?_
  refine XS.iand X0.here hx rfl (hb hby at_9) rfl ?_
  refine XS.i2c X0.here hx rfl (hb hby at_10) rfl ?_
  refine zs X0 Bd at_11 (l' := #[iv p1, iv p2, iv p3, iv p4, iv p5, iv (p1 &&& (3 : Int32)), iv (ab0_ p2), .unset, .unset, .unset, .unset, .unset, .unset, .unset, .unset]) rfl ?_
  refine zj X0 Bd at_13 rfl ?_
  refine XS.sipush X0.here hx rfl (hb hby at_14) ?_
  refine XS.iand X0.here hx rfl (hb hby at_17) rfl ?_
  refine XS.i2c X0.here hx rfl (hb hby at_18) rfl ?_
  refine zs X0 Bd at_19 (l' := #[iv p1, iv p2, iv p3, iv p4, iv p5, iv (p1 &&& (3 : Int32)), iv (ab0_ p2), iv (ab1_ p3), .unset, .unset, .unset, .unset, .unset, .unset, .unset]) rfl ?_
  refine zj X0 Bd at_21 rfl ?_
  refine XS.sipush X0.here hx rfl (hb hby at_22) ?_
  refine XS.iand X0.here hx rfl (hb hby at_25) rfl ?_
  refine XS.i2c X0.here hx rfl (hb hby at_26) rfl ?_
  refine zs X0 Bd at_27 (l' := #[iv p1, iv p2, iv p3, iv p4, iv p5, iv (p1 &&& (3 : Int32)), iv (ab0_ p2), iv (ab1_ p3), iv (ab2_ p4), .unset, .unset, .unset, .unset, .unset, .unset]) rfl ?_
  refine zi X0 Bd at_29 rfl ?_
  refine zi X0 Bd at_31 rfl ?_
  refine zi X0 Bd at_33 rfl ?_
  refine zi X0 Bd at_35 rfl ?_
  exact k)
 by_cases hc3 : (p1 &&& (3 : Int32)) = (0 : Int32)
 ·
  skip
  obtain ⟨_, T4, L4, X4, hQ4, hS4, hZ4, ho4, CR4, st4⟩ := own_cbS 0 0 6 12 6 12 (callSS X0 hx (y := Y2_) hown (mvT hZ (w0_ hw)) (mvT hZ (w1_ hw)) (mvT hZ (w2_ hw)) (mvT hZ (w3_ hw)) (by decide) (backOfSH (W := 0) (EL := consts_1) (s := s) (rm3 l Z a0 hw  (p1 &&& (3 : Int32)) (ab0_ p2) (ab1_ p3) (ab2_ p4) h0 n0 X00 hc3) hZ (w3_ hw) (w2_ hw) (lE rfl) (lE rfl) hEL hC0) (g := (mkF m 37 #[iv p1, iv p2, iv p3, iv p4, iv p5, iv (p1 &&& (3 : Int32)), iv (ab0_ p2), iv (ab1_ p3), iv (ab2_ p4), .unset, .unset, .unset, .unset, .unset, .unset] [(.int (ab2_ p4)), (.int (ab1_ p3)), (.int (ab0_ p2)), (.int (p1 &&& (3 : Int32)))])) rfl hml.symm (argsL := [(.int (p1 &&& (3 : Int32))), (.int (ab0_ p2)), (.int (ab1_ p3)), (.int (ab2_ p4))]) (rest := []) (lenOf pd2 rfl) rfl (own_hw rfl) (hb hby at_37) (fun _ _ => ⟨rfl, e0, (lE rfl : 0 + 6 ≤ _), (lE rfl : 0 + 12 ≤ _)⟩)) rfl rfl hS0 (by rw [e0]; exact hk0) hZ hown
  obtain ⟨b5, b6, c7_, rfl, N4q, K4q, w8, w9, w10, w11, w12⟩ := hQ4
  have N4 := Fr.app N0 N4q
  have hk4 : T4.heap.size ≤ T4.heap.size := Nat.le_refl _
  have K13 := (Keep.refl h0 []).trans K4q (fun x q => nomatch q)
  have R15 := hR0.trans CR4
  have O17 := X00.keep K4q all0
  obtain ⟨_, T16, L16, X16, hQ16, st16⟩ := own_cS 9 22 [] 50 #[iv p1, iv p2, iv p3, iv p4, iv p5, iv (p1 &&& (3 : Int32)), iv (ab0_ p2), iv (ab1_ p3), iv (ab2_ p4), rv b5, .unset, .unset, .unset, .unset, .unset] X4 hx hZ4 ho4 (w26_ hw) (w27_ hw) (w2_ hw) (w28_ hw) (rm4 l Z a0 hw G1 (p1 &&& (3 : Int32)) (ab0_ p2) (ab1_ p3) (ab2_ p4) T4.heap n0 O17 O2 P5 hc3) pd2 hml.symm (hb hby at_50) rfl rfl rfl rfl rfl (by decide)
  obtain ⟨b18, b19, c20_, rfl, N16q, K16q, w21, w22, w23, w24, w25, w26, w27⟩ := hQ16
  have N16 := Fr.app N4 N16q
  have K28 := K13.trans K16q (fun x q => nomatch q)
  have C29 : CHv Z consts_1 T4.vm T16.heap := CHv.keep K16q sf0 CR4.1
  have R30 : CHr Z consts_1 s.vm h0 T4.vm T16.heap := R15.trans (CHr.keep K16q sf0 CR4.1)
  have O32 := O17.keep K16q all0
  obtain ⟨_, T31, L31, X31, hQ31, st31⟩ := own_cS 11 27 [] 65 #[iv p1, iv p2, iv p3, iv p4, iv p5, iv (p1 &&& (3 : Int32)), iv (ab0_ p2), iv (ab1_ p3), iv (ab2_ p4), rv b5, rv b18, iv (ab3_ p5), .unset, .unset, .unset] X16 hx hZ4 ho4 (w40_ hw) (w41_ hw) (w6_ hw) (w42_ hw) (rm8 l Z a0 hw G1 (ab3_ p5) T16.heap n0 O32 O2 P5 (own_lat7 p5).2) pd6 hml.symm (hb hby at_65) rfl rfl rfl rfl rfl (by decide)
  obtain ⟨b33, b34, c35_, rfl, N31q, K31q, w36, w37, w38, w39, w40, w41, w42⟩ := hQ31
  have N31 := Fr.app N16 N31q
  have K43 := K28.trans K31q (fun x q => nomatch q)
  have C44 : CHv Z consts_1 T4.vm T31.heap := CHv.keep K31q sf0 C29
  have R45 : CHr Z consts_1 s.vm h0 T4.vm T31.heap := R30.trans (CHr.keep K31q sf0 C29)
  have hp47 : ∀ c ∈ ([(ab3_ p5)] : List Int32), ¬ c < 0 ∧ ¬ (255 : Int32) < c := (List.forall_mem_cons.mpr ⟨(own_lat7 p5), (fun _ q => nomatch q)⟩)
  have O48 := O32.keep K31q all0
  obtain ⟨_, T46, L46, X46, hQ46, st46⟩ := own_cS 12 29 [] 72 #[iv p1, iv p2, iv p3, iv p4, iv p5, iv (p1 &&& (3 : Int32)), iv (ab0_ p2), iv (ab1_ p3), iv (ab2_ p4), rv b5, rv b18, iv (ab3_ p5), rv b33, .unset, .unset] X31 hx hZ4 ho4 (w54_ hw) (w55_ hw) (w56_ hw) (w57_ hw) (rm11 l Z a0 hw G1 G3 b33 b34 (ab3_ p5) c35_ T31.heap n0 O48 O2 P5 O4 rG3 w39 w41 w40 hp47 w42) pd10 hml.symm (hb hby at_72) rfl rfl rfl rfl rfl (by decide)
  obtain ⟨b49, rfl, N46q, K46q, w50, w51⟩ := hQ46
  have N46 := Fr.app N31 N46q
  have K52 := K43.trans K46q (fun x q => nomatch q)
  have C53 : CHv Z consts_1 T4.vm T46.heap := CHv.keep K46q sf0 C44
  have R54 : CHr Z consts_1 s.vm h0 T4.vm T46.heap := R45.trans (CHr.keep K46q sf0 C44)
  have E56_ := w9.keep K16q
  have E57_ := E56_.keep K31q
  have E58_ := E57_.keep K46q
  have O59 := O48.keep K46q all0
  have hk60' : _ ≤ T46.heap.size := (Nat.le_trans (Nat.le_trans (Nat.le_trans hk4 K16q.1) K31q.1) K46q.1)
  obtain ⟨_, T55, L55, X55, hQ55, hS55, hZ55, ho55, CR55, st55⟩ := own_cbS 12 29 3 24 15 53 (callSS X46 hx (y := Y14_) ho4 (mvT hZ4 (w99_ hw)) (mvT hZ4 (w100_ hw)) (mvT hZ4 (w101_ hw)) (mvT hZ4 (w102_ hw)) (by decide) (backOfSH (W := 0) (EL := consts_1) (s := s) (rm14 l Z a0 hw  b5 T46.heap n0 O59 E58_) hZ4 (w102_ hw) (w101_ hw) (lE rfl) (lE rfl) hEL C53) (g := (mkF m 79 #[iv p1, iv p2, iv p3, iv p4, iv p5, iv (p1 &&& (3 : Int32)), iv (ab0_ p2), iv (ab1_ p3), iv (ab2_ p4), rv b5, rv b18, iv (ab3_ p5), rv b33, rv b49, .unset] [.ref b5])) rfl hml.symm (argsL := [.ref b5]) (rest := []) (lenOf pd13 rfl) rfl (own_hw rfl) (hb hby at_79) (fun _ _ => ⟨rfl, rfl, (lE rfl : 12 + 3 ≤ _), (lE rfl : 29 + 24 ≤ _)⟩)) rfl rfl hS4 hk60' hZ4 ho4
  obtain ⟨b61, rfl, N55q, K55q, w62, w63, w64, w65, w66, w67⟩ := hQ55
  have N55 := Fr.app N46 N55q
  have hk55 : T55.heap.size ≤ T55.heap.size := Nat.le_refl _
  have K68 := K52.trans K55q (fun x q => nomatch q)
  have R70 := R54.trans CR55
  have O72 := O59.keep K55q all0
  obtain ⟨_, T71, L71, X71, hQ71, st71⟩ := own_cV 15 53 [] 86 #[iv p1, iv p2, iv p3, iv p4, iv p5, iv (p1 &&& (3 : Int32)), iv (ab0_ p2), iv (ab1_ p3), iv (ab2_ p4), rv b5, rv b18, iv (ab3_ p5), rv b33, rv b49, rv b61] X55 hx hZ55 ho55 w63 (w123_ hw) (w124_ hw) (notFace_of_selects (args := #[]) (mvT hZ55 (w126_ hw))) (w126_ hw) (w125_ hw) (w101_ hw) (w127_ hw) (rm15 l Z a0 hw  b61 b5 T55.heap n0 O72 w65) pd14 hml.symm (hb hby at_86) rfl rfl rfl rfl rfl (by decide)
  obtain ⟨rfl, N71q, e71q⟩ := hQ71
  have N71 := Fr.app N55 N71q
  obtain ⟨_, T73, L73, X73, hQ73, st73⟩ := own_cV 15 53 [] 94 #[iv p1, iv p2, iv p3, iv p4, iv p5, iv (p1 &&& (3 : Int32)), iv (ab0_ p2), iv (ab1_ p3), iv (ab2_ p4), rv b5, rv b18, iv (ab3_ p5), rv b33, rv b49, rv b61] X71 hx hZ55 ho55 w63 (w128_ hw) (w129_ hw) (notFace_of_selects (args := #[]) (mvT hZ55 (w131_ hw))) (w131_ hw) (w130_ hw) (w101_ hw) (w132_ hw) (rm16 l Z a0 hw  b61 T55.heap n0 O72 w66) pd14 hml.symm (hb hby at_94) e71q rfl rfl rfl rfl (by decide)
  obtain ⟨rfl, N73q, e73q⟩ := hQ73
  have N73 := Fr.app N71 N73q
  obtain ⟨_, T74, L74, X74, hQ74, st74⟩ := own_cV 15 53 [] 102 #[iv p1, iv p2, iv p3, iv p4, iv p5, iv (p1 &&& (3 : Int32)), iv (ab0_ p2), iv (ab1_ p3), iv (ab2_ p4), rv b5, rv b18, iv (ab3_ p5), rv b33, rv b49, rv b61] X73 hx hZ55 ho55 w63 (w133_ hw) (w134_ hw) (notFace_of_selects (args := #[]) (mvT hZ55 (w136_ hw))) (w136_ hw) (w135_ hw) (w101_ hw) (w137_ hw) (rm17 l Z a0 hw  b61 T55.heap n0 O72 w64) pd15 hml.symm (hb hby at_102) e73q rfl rfl rfl rfl (by decide)
  obtain ⟨rfl, N74q, e74q⟩ := hQ74
  have N74 := Fr.app N73 N74q
  obtain ⟨_, T75, L75, X75, hQ75, st75⟩ := own_cV 15 53 [.ref b5] 112 #[iv p1, iv p2, iv p3, iv p4, iv p5, iv (p1 &&& (3 : Int32)), iv (ab0_ p2), iv (ab1_ p3), iv (ab2_ p4), rv b5, rv b18, iv (ab3_ p5), rv b33, rv b49, rv b61] X74 hx hZ55 ho55 w63 (w138_ hw) (w139_ hw) (notFace_of_selects (args := #[]) (mvT hZ55 (w141_ hw))) (w141_ hw) (w140_ hw) (w101_ hw) (w142_ hw) (rm18 l Z a0 hw  b61 b5 T55.heap n0 O72 w65) pd15 hml.symm (hb hby at_112) e74q rfl rfl rfl rfl (by decide)
  obtain ⟨rfl, N75q, e75q⟩ := hQ75
  have N75 := Fr.app N74 N75q
  have E77_ := E58_.keep K55q
  obtain ⟨_, T76, L76, X76, hQ76, st76⟩ := own_cV 15 53 [] 115 #[iv p1, iv p2, iv p3, iv p4, iv p5, iv (p1 &&& (3 : Int32)), iv (ab0_ p2), iv (ab1_ p3), iv (ab2_ p4), rv b5, rv b18, iv (ab3_ p5), rv b33, rv b49, rv b61] X75 hx hZ55 ho55 E77_ (w143_ hw) (w144_ hw) (notFace_of_selects (args := #[]) (mvT hZ55 (w146_ hw))) (w146_ hw) (w145_ hw) (w6_ hw) (w147_ hw) (rm19 l Z a0 hw  b5 T55.heap n0 O72 ) pd16 hml.symm (hb hby at_115) e75q rfl rfl rfl rfl (by decide)
  obtain ⟨rfl, N76q, e76q⟩ := hQ76
  have N76 := Fr.app N75 N76q
  obtain ⟨_, T78, L78, X78, hQ78, st78⟩ := own_cV 15 53 [] 123 #[iv p1, iv p2, iv p3, iv p4, iv p5, iv (p1 &&& (3 : Int32)), iv (ab0_ p2), iv (ab1_ p3), iv (ab2_ p4), rv b5, rv b18, iv (ab3_ p5), rv b33, rv b49, rv b61] X76 hx hZ55 ho55 w63 (w148_ hw) (w149_ hw) (notFace_of_selects (args := #[]) (mvT hZ55 (w151_ hw))) (w151_ hw) (w150_ hw) (w101_ hw) (w152_ hw) (rm20 l Z a0 hw  b61 T55.heap n0 O72 w67) pd17 hml.symm (hb hby at_123) e76q rfl rfl rfl rfl (by decide)
  obtain ⟨rfl, N78q, e78q⟩ := hQ78
  have N78 := Fr.app N76 N78q
  have F80_ := w11.keep K16q nin0
  have F81_ := F80_.keep K31q nin0
  have F82_ := F81_.keep K46q nin0
  have F83_ := F82_.keep K55q nin0
  have hp84 : ∀ c ∈ ([] : List Int32), ¬ c < 0 ∧ ¬ (255 : Int32) < c := (fun _ q => nomatch q)
  have F85_ := w10.keep K16q nin0
  have F86_ := F85_.keep K31q nin0
  have F87_ := F86_.keep K46q nin0
  have F88_ := F87_.keep K55q nin0
  have A89_ := w12.keep K16q nin0
  have A90_ := A89_.keep K31q nin0
  have A91_ := A90_.keep K46q nin0
  have A92_ := A91_.keep K55q nin0
  obtain ⟨cq79, kq79, q79a, q79b, q79c⟩ := isOf hZ55 e78q w63
  obtain ⟨_, T79, L79, X79, hQ79, hS79, hZ79, ho79, CR79, st79⟩ := own_cbS 15 53 8 47 23 100 (X78.virtualBackS hx (y := Y41_) (z := Y41_) ho55 (mvT hZ55 (w153_ hw)) (mvT hZ55 (w154_ hw)) (notFace_of_selects (args := #[]) (mvT hZ55 (w156_ hw))) (mvT hZ55 (w156_ hw)) (mvT hZ55 (w155_ hw)) (by decide) (backOfSH (W := 1) (EL := consts_1) (s := s) (rm51 l Z a0 hw G1 b61 b5 b6 c7_ T55.heap n0 O72 O2 P5 w65 w66 E77_ F83_ F88_ A92_) hZ55 (w157_ hw) (w101_ hw) (lE rfl) (lE rfl) hEL CR55.1) q79a q79c (g := (mkF m 133 #[iv p1, iv p2, iv p3, iv p4, iv p5, iv (p1 &&& (3 : Int32)), iv (ab0_ p2), iv (ab1_ p3), iv (ab2_ p4), rv b5, rv b18, iv (ab3_ p5), rv b33, rv b49, rv b61] [.ref b61, .ref b18])) rfl hml.symm (Steps.refl _) (argsL := []) (rest := [.ref b18]) (lenOf pd15 rfl) rfl (own_hw rfl) (hb hby at_133) (fun _ _ => ⟨rfl, e78q, (lE rfl : 15 + 8 ≤ _), (lE rfl : 53 + 47 ≤ _)⟩)) rfl rfl hS55 (by rw [e78q]; exact hk55) hZ55 ho55
  obtain ⟨b93, b94, c95_, rfl, N79q, K79q, w96, w97, w98, w99, w100, w101, w102⟩ := hQ79
  have N79 := Fr.app N78 N79q
  have hk79 : T79.heap.size ≤ T79.heap.size := Nat.le_refl _
  have K103 := K68.trans K79q (fun x q => nomatch q)
  have R105 := R70.trans CR79
  have hp107 : ∀ c ∈ ([123, 42, 125] : List Int32), ¬ c < 0 ∧ ¬ (255 : Int32) < c := (List.forall_mem_cons.mpr ⟨(by decide), (List.forall_mem_cons.mpr ⟨(by decide), (List.forall_mem_cons.mpr ⟨(by decide), (fun _ q => nomatch q)⟩)⟩)⟩)
  have hp108 : ∀ c ∈ ([123, 42, 125] : List Int32), ¬ c < 0 ∧ ¬ (255 : Int32) < c := (List.forall_mem_cons.mpr ⟨(by decide), (List.forall_mem_cons.mpr ⟨(by decide), (List.forall_mem_cons.mpr ⟨(by decide), (fun _ q => nomatch q)⟩)⟩)⟩)
  have E109_ := w24.keep K31q
  have E110_ := E109_.keep K46q
  have E111_ := E110_.keep K55q
  have E112_ := E111_.keep K79q
  have F113_ := w26.keep K31q nin0
  have F114_ := F113_.keep K46q nin0
  have F115_ := F114_.keep K55q nin0
  have F116_ := F115_.keep K79q nin0
  have F117_ := w25.keep K31q nin0
  have F118_ := F117_.keep K46q nin0
  have F119_ := F118_.keep K55q nin0
  have F120_ := F119_.keep K79q nin0
  have A121_ := w27.keep K31q nin0
  have A122_ := A121_.keep K46q nin0
  have A123_ := A122_.keep K55q nin0
  have A124_ := A123_.keep K79q nin0
  have hcd125 : StrChars.Road.CodA ([123, 42, 125] : List Int32) 0 (3 : Int32) ((([123, 42, 125] : List Int32).map (fun c => c.toInt8.toInt32)).map Value.int) := StrChars.Road.codOf (n := 3) rfl (fun x hx => (hp107 x hx).2)
  have hbd125 : ∀ x ∈ ([123, 42, 125] : List Int32), ¬ x < 0 ∧ ¬ (65535 : Int32) < x := own_up _ hp107
  have hcd126 : StrChars.Road.CodA ([123, 42, 125] : List Int32) 0 (3 : Int32) [.int 123, .int 42, .int 125] := StrChars.Road.codOf (n := 3) rfl (fun x hx => (hp108 x hx).2)
  have hbd126 : ∀ x ∈ ([123, 42, 125] : List Int32), ¬ x < 0 ∧ ¬ (65535 : Int32) < x := own_up _ hp108
  have O127 := O72.keep K79q all0
  obtain ⟨cq106, kq106, q106a, q106b, q106c⟩ := isOf hZ79 rfl E112_
  obtain ⟨_, T106, L106, X106, hQ106, st106⟩ := own_cb0 23 100 0 0 23 100 (X79.virtualBack hx (y := Y19_) (z := Y19_) ho79 (mvT hZ79 (w143_ hw)) (mvT hZ79 (w144_ hw)) (notFace_of_selects (args := #[]) (mvT hZ79 (w146_ hw))) (mvT hZ79 (w146_ hw)) (mvT hZ79 (w145_ hw)) (by decide) (StrChars.Road.eqW (s := s.setVm T79.vm) (W := 0) hZ79 (own_wq hw) (kI := 4) (w5_ hw) E112_ F116_ F120_ A124_ hcd125 hbd125 (lE rfl) w99 w101 w100 w102 hcd126 hbd126 (lE rfl) (O2.ext O127.2) P5 (lE rfl) (lE rfl)) q106a q106c (g := (mkF m 136 #[iv p1, iv p2, iv p3, iv p4, iv p5, iv (p1 &&& (3 : Int32)), iv (ab0_ p2), iv (ab1_ p3), iv (ab2_ p4), rv b5, rv b18, iv (ab3_ p5), rv b33, rv b49, rv b61] [.ref b93, .ref b18])) rfl hml.symm (Steps.refl _) (argsL := [.ref b93]) (rest := []) (lenOf pd16 rfl) rfl (own_hw rfl) (hb hby at_136) (fun _ _ => ⟨rfl, rfl, (lE rfl : 23 + 0 ≤ _), (lE rfl : 100 + 0 ≤ _)⟩)) rfl rfl
  dsimp only [Pt.U, Pt.locs, Pt.cells, Pt.slots] at hQ106
  obtain ⟨hv106, rfl, e106q⟩ := hQ106
  rcases hv106 with ⟨rfl, -⟩ | ⟨-, hq106⟩
  rotate_left
  exact absurd (rfl : ([123, 42, 125] : List Int32) = ([123, 42, 125] : List Int32)) hq106
  have N106 := Fr.app N79 (Fr.nil n0)
  have F129_ := w66.keep K79q nin0
  have F130_ := w67.keep K79q nin0
  have E131_ := w63.keep K79q
  obtain ⟨_, T128, L128, X128, hQ128, st128⟩ := own_cV 23 100 [.ref b33] 150 #[iv p1, iv p2, iv p3, iv p4, iv p5, iv (p1 &&& (3 : Int32)), iv (ab0_ p2), iv (ab1_ p3), iv (ab2_ p4), rv b5, rv b18, iv (ab3_ p5), rv b33, rv b49, rv b61] X106 hx hZ79 ho79 E131_ (w264_ hw) (w265_ hw) (notFace_of_selects (args := #[]) (mvT hZ79 (w267_ hw))) (w267_ hw) (w266_ hw) (w101_ hw) (w268_ hw) (rm53 l Z a0 hw  b61 b33 b49 T79.heap n0 O127 F129_ F130_ E131_) pd33 hml.symm (hb hby at_150) e106q rfl rfl rfl rfl (by decide)
  obtain ⟨rfl, N128q, e128q⟩ := hQ128
  have N128 := Fr.app N106 N128q
  have E133_ := w39.keep K46q
  have E134_ := E133_.keep K55q
  have E135_ := E134_.keep K79q
  obtain ⟨_, T132, L132, X132, hQ132, st132⟩ := own_cV 23 100 [] 153 #[iv p1, iv p2, iv p3, iv p4, iv p5, iv (p1 &&& (3 : Int32)), iv (ab0_ p2), iv (ab1_ p3), iv (ab2_ p4), rv b5, rv b18, iv (ab3_ p5), rv b33, rv b49, rv b61] X128 hx hZ79 ho79 E135_ (w143_ hw) (w144_ hw) (notFace_of_selects (args := #[]) (mvT hZ79 (w146_ hw))) (w146_ hw) (w145_ hw) (w6_ hw) (w147_ hw) (rm19 l Z a0 hw  b33 T79.heap n0 O127 ) pd16 hml.symm (hb hby at_153) e128q rfl rfl rfl rfl (by decide)
  obtain ⟨rfl, N132q, e132q⟩ := hQ132
  have N132 := Fr.app N128 N132q
  refine own_lvW X132 Bd.notSynchronized hS79 hk79 (v := (some (.int 1))) (fun h => by rw [Bd.returns] at h; cases h) e132q hh ⟨rfl, N132⟩ (R105.trans (CHv.at X132 hZ79 hEL CR79.1)) (lE rfl) (lE rfl) (fun fs hr => pr2 _ (by
   show Sx p e below s₁ m 37 #[iv p1, iv p2, iv p3, iv p4, iv p5, iv (p1 &&& (3 : Int32)), iv (ab0_ p2), iv (ab1_ p3), iv (ab2_ p4), .unset, .unset, .unset, .unset, .unset, .unset] [(.int (ab2_ p4)), (.int (ab1_ p3)), (.int (ab0_ p2)), (.int (p1 &&& (3 : Int32)))] _
   refine st4.trans ?_
   refine XS.astore X4.here hx rfl (hb hby at_40) rfl rfl (l' := #[iv p1, iv p2, iv p3, iv p4, iv p5, iv (p1 &&& (3 : Int32)), iv (ab0_ p2), iv (ab1_ p3), iv (ab2_ p4), rv b5, .unset, .unset, .unset, .unset, .unset]) rfl ?_
   refine zi X4 Bd at_42 rfl ?_
   refine zi X4 Bd at_44 rfl ?_
   refine zi X4 Bd at_46 rfl ?_
   refine zi X4 Bd at_48 rfl ?_
   refine st16 _ ?_
   refine XS.astore X16.here hx rfl (hb hby at_53) rfl rfl (l' := #[iv p1, iv p2, iv p3, iv p4, iv p5, iv (p1 &&& (3 : Int32)), iv (ab0_ p2), iv (ab1_ p3), iv (ab2_ p4), rv b5, rv b18, .unset, .unset, .unset, .unset]) rfl ?_
   refine zi X16 Bd at_55 rfl ?_
   refine zd X16 Bd at_57 ?_
   refine XS.iand X16.here hx rfl (hb hby at_59) rfl ?_
   refine XS.i2c X16.here hx rfl (hb hby at_60) rfl ?_
   refine zs X16 Bd at_61 (l' := #[iv p1, iv p2, iv p3, iv p4, iv p5, iv (p1 &&& (3 : Int32)), iv (ab0_ p2), iv (ab1_ p3), iv (ab2_ p4), rv b5, rv b18, iv (ab3_ p5), .unset, .unset, .unset]) rfl ?_
   refine zi X16 Bd at_63 rfl ?_
   refine st31 _ ?_
   refine XS.astore X31.here hx rfl (hb hby at_68) rfl rfl (l' := #[iv p1, iv p2, iv p3, iv p4, iv p5, iv (p1 &&& (3 : Int32)), iv (ab0_ p2), iv (ab1_ p3), iv (ab2_ p4), rv b5, rv b18, iv (ab3_ p5), rv b33, .unset, .unset]) rfl ?_
   refine za X31 Bd at_70 rfl rfl ?_
   refine st46 _ ?_
   refine XS.astore X46.here hx rfl (hb hby at_75) rfl rfl (l' := #[iv p1, iv p2, iv p3, iv p4, iv p5, iv (p1 &&& (3 : Int32)), iv (ab0_ p2), iv (ab1_ p3), iv (ab2_ p4), rv b5, rv b18, iv (ab3_ p5), rv b33, rv b49, .unset]) rfl ?_
   refine za X46 Bd at_77 rfl rfl ?_
   refine st55.trans ?_
   refine XS.astore X55.here hx rfl (hb hby at_82) rfl rfl (l' := #[iv p1, iv p2, iv p3, iv p4, iv p5, iv (p1 &&& (3 : Int32)), iv (ab0_ p2), iv (ab1_ p3), iv (ab2_ p4), rv b5, rv b18, iv (ab3_ p5), rv b33, rv b49, rv b61]) rfl ?_
   refine za X55 Bd at_84 rfl rfl ?_
   refine st71 _ ?_
   refine zo X71 Bd at_89 (XT.i0_eq_f ((by decide) : ¬ ((1 : Int32) = (0 : Int32)))) ?_
   show Sx p e below T71 m 92 #[iv p1, iv p2, iv p3, iv p4, iv p5, iv (p1 &&& (3 : Int32)), iv (ab0_ p2), iv (ab1_ p3), iv (ab2_ p4), rv b5, rv b18, iv (ab3_ p5), rv b33, rv b49, rv b61] [] _
   refine za X71 Bd at_92 rfl rfl ?_
   refine st73 _ ?_
   refine zo X73 Bd at_97 (XT.i0_eq_f ((by decide) : ¬ ((1 : Int32) = (0 : Int32)))) ?_
   refine za X73 Bd at_100 rfl rfl ?_
   refine st74 _ ?_
   refine XS.ifnonnullNo X74.here hx rfl (hb hby at_105) rfl ?_
   refine za X74 Bd at_108 rfl rfl ?_
   refine za X74 Bd at_110 rfl rfl ?_
   refine st75 _ ?_
   refine st76 _ ?_
   refine zo X76 Bd at_118 (XT.i0_eq_f ((by decide) : ¬ ((1 : Int32) = (0 : Int32)))) ?_
   refine za X76 Bd at_121 rfl rfl ?_
   refine st78 _ ?_
   refine XS.ifnonnullNo X78.here hx rfl (hb hby at_126) rfl ?_
   refine za X78 Bd at_129 rfl rfl ?_
   refine za X78 Bd at_131 rfl rfl ?_
   refine st79.trans ?_
   refine st106.trans ?_
   refine zo X106 Bd at_139 (XT.i0_eq_f ((by decide) : ¬ ((1 : Int32) = (0 : Int32)))) ?_
   refine za X106 Bd at_142 rfl rfl ?_
   refine za X106 Bd at_144 rfl rfl ?_
   refine za X106 Bd at_146 rfl rfl ?_
   refine za X106 Bd at_148 rfl rfl ?_
   refine st128 _ ?_
   refine st132 _ ?_
   show Sx p e below T132 m 156 #[iv p1, iv p2, iv p3, iv p4, iv p5, iv (p1 &&& (3 : Int32)), iv (ab0_ p2), iv (ab1_ p3), iv (ab2_ p4), rv b5, rv b18, iv (ab3_ p5), rv b33, rv b49, rv b61] [.int 1] _
   refine zo X132 Bd at_156 (XT.i0_eq_f ((by decide) : ¬ ((1 : Int32) = (0 : Int32)))) ?_
   refine zc X132 Bd at_159 ?_
   refine zg (pc' := 164) X132 Bd at_160 rfl ?_
   exact retN X132 hx (t := .boolean) Bd.returns (by simp) (hb hby at_164) hr))
 ·
  skip
  by_cases hc137 : (p1 &&& (3 : Int32)) = (1 : Int32)
  ·
   skip
   obtain ⟨_, T138, L138, X138, hQ138, st138⟩ := own_cS 3 6 [] 37 #[iv p1, iv p2, iv p3, iv p4, iv p5, iv (p1 &&& (3 : Int32)), iv (ab0_ p2), iv (ab1_ p3), iv (ab2_ p4), .unset, .unset, .unset, .unset, .unset, .unset] X0 hx hZ hown (w0_ hw) (w1_ hw) (w2_ hw) (w3_ hw) (rm54 l Z a0 hw G1 (p1 &&& (3 : Int32)) (ab0_ p2) (ab1_ p3) (ab2_ p4) h0 n0 X00 O2 P5 hc3 hc137 (own_lat p2)) pd2 hml.symm (hb hby at_37) e0 rfl rfl rfl rfl (by decide)
   obtain ⟨b139, b140, c141_, rfl, N138q, K138q, w142, w143, w144, w145, w146, w147, w148⟩ := hQ138
   have N138 := Fr.app N0 N138q
   have K149 := (Keep.refl h0 []).trans K138q (fun x q => nomatch q)
   have C150 : CHv Z consts_1 s.vm T138.heap := CHv.keep K138q sf0 hC0
   have R151 : CHr Z consts_1 s.vm h0 s.vm T138.heap := hR0.trans (CHr.keep K138q sf0 hC0)
   have O153 := X00.keep K138q all0
   obtain ⟨_, T152, L152, X152, hQ152, st152⟩ := own_cS 6 18 [] 50 #[iv p1, iv p2, iv p3, iv p4, iv p5, iv (p1 &&& (3 : Int32)), iv (ab0_ p2), iv (ab1_ p3), iv (ab2_ p4), rv b139, .unset, .unset, .unset, .unset, .unset] X138 hx hZ hown (w26_ hw) (w27_ hw) (w2_ hw) (w28_ hw) (rm55 l Z a0 hw G1 (p1 &&& (3 : Int32)) (ab0_ p2) (ab1_ p3) (ab2_ p4) T138.heap n0 O153 O2 P5 hc3 hc137 (own_lat p2)) pd2 hml.symm (hb hby at_50) rfl rfl rfl rfl rfl (by decide)
   obtain ⟨b154, b155, c156_, rfl, N152q, K152q, w157, w158, w159, w160, w161, w162, w163⟩ := hQ152
   have N152 := Fr.app N138 N152q
   have K164 := K149.trans K152q (fun x q => nomatch q)
   have C165 : CHv Z consts_1 s.vm T152.heap := CHv.keep K152q sf0 C150
   have R166 : CHr Z consts_1 s.vm h0 s.vm T152.heap := R151.trans (CHr.keep K152q sf0 C150)
   have O168 := O153.keep K152q all0
   obtain ⟨_, T167, L167, X167, hQ167, st167⟩ := own_cS 8 23 [] 65 #[iv p1, iv p2, iv p3, iv p4, iv p5, iv (p1 &&& (3 : Int32)), iv (ab0_ p2), iv (ab1_ p3), iv (ab2_ p4), rv b139, rv b154, iv (ab3_ p5), .unset, .unset, .unset] X152 hx hZ hown (w40_ hw) (w41_ hw) (w6_ hw) (w42_ hw) (rm8 l Z a0 hw G1 (ab3_ p5) T152.heap n0 O168 O2 P5 (own_lat7 p5).2) pd6 hml.symm (hb hby at_65) rfl rfl rfl rfl rfl (by decide)
   obtain ⟨b169, b170, c171_, rfl, N167q, K167q, w172, w173, w174, w175, w176, w177, w178⟩ := hQ167
   have N167 := Fr.app N152 N167q
   have K179 := K164.trans K167q (fun x q => nomatch q)
   have C180 : CHv Z consts_1 s.vm T167.heap := CHv.keep K167q sf0 C165
   have R181 : CHr Z consts_1 s.vm h0 s.vm T167.heap := R166.trans (CHr.keep K167q sf0 C165)
   have hp183 : ∀ c ∈ ([(ab3_ p5)] : List Int32), ¬ c < 0 ∧ ¬ (255 : Int32) < c := (List.forall_mem_cons.mpr ⟨(own_lat7 p5), (fun _ q => nomatch q)⟩)
   have O184 := O168.keep K167q all0
   obtain ⟨_, T182, L182, X182, hQ182, st182⟩ := own_cS 9 25 [] 72 #[iv p1, iv p2, iv p3, iv p4, iv p5, iv (p1 &&& (3 : Int32)), iv (ab0_ p2), iv (ab1_ p3), iv (ab2_ p4), rv b139, rv b154, iv (ab3_ p5), rv b169, .unset, .unset] X167 hx hZ hown (w54_ hw) (w55_ hw) (w56_ hw) (w57_ hw) (rm11 l Z a0 hw G1 G3 b169 b170 (ab3_ p5) c171_ T167.heap n0 O184 O2 P5 O4 rG3 w175 w177 w176 hp183 w178) pd10 hml.symm (hb hby at_72) rfl rfl rfl rfl rfl (by decide)
   obtain ⟨b185, rfl, N182q, K182q, w186, w187⟩ := hQ182
   have N182 := Fr.app N167 N182q
   have K188 := K179.trans K182q (fun x q => nomatch q)
   have C189 : CHv Z consts_1 s.vm T182.heap := CHv.keep K182q sf0 C180
   have R190 : CHr Z consts_1 s.vm h0 s.vm T182.heap := R181.trans (CHr.keep K182q sf0 C180)
   have E192_ := w145.keep K152q
   have E193_ := E192_.keep K167q
   have E194_ := E193_.keep K182q
   have O195 := O184.keep K182q all0
   have hk196' : _ ≤ T182.heap.size := (Nat.le_trans (Nat.le_trans (Nat.le_trans (Nat.le_trans hk0 K138q.1) K152q.1) K167q.1) K182q.1)
   obtain ⟨_, T191, L191, X191, hQ191, hS191, hZ191, ho191, CR191, st191⟩ := own_cbS 9 25 3 24 12 49 (callSS X182 hx (y := Y14_) hown (mvT hZ (w99_ hw)) (mvT hZ (w100_ hw)) (mvT hZ (w101_ hw)) (mvT hZ (w102_ hw)) (by decide) (backOfSH (W := 0) (EL := consts_1) (s := s) (rm14 l Z a0 hw  b139 T182.heap n0 O195 E194_) hZ (w102_ hw) (w101_ hw) (lE rfl) (lE rfl) hEL C189) (g := (mkF m 79 #[iv p1, iv p2, iv p3, iv p4, iv p5, iv (p1 &&& (3 : Int32)), iv (ab0_ p2), iv (ab1_ p3), iv (ab2_ p4), rv b139, rv b154, iv (ab3_ p5), rv b169, rv b185, .unset] [.ref b139])) rfl hml.symm (argsL := [.ref b139]) (rest := []) (lenOf pd13 rfl) rfl (own_hw rfl) (hb hby at_79) (fun _ _ => ⟨rfl, rfl, (lE rfl : 9 + 3 ≤ _), (lE rfl : 25 + 24 ≤ _)⟩)) rfl rfl hS0 hk196' hZ hown
   obtain ⟨b197, rfl, N191q, K191q, w198, w199, w200, w201, w202, w203⟩ := hQ191
   have N191 := Fr.app N182 N191q
   have hk191 : T191.heap.size ≤ T191.heap.size := Nat.le_refl _
   have K204 := K188.trans K191q (fun x q => nomatch q)
   have R206 := R190.trans CR191
   have O208 := O195.keep K191q all0
   obtain ⟨_, T207, L207, X207, hQ207, st207⟩ := own_cV 12 49 [] 86 #[iv p1, iv p2, iv p3, iv p4, iv p5, iv (p1 &&& (3 : Int32)), iv (ab0_ p2), iv (ab1_ p3), iv (ab2_ p4), rv b139, rv b154, iv (ab3_ p5), rv b169, rv b185, rv b197] X191 hx hZ191 ho191 w199 (w123_ hw) (w124_ hw) (notFace_of_selects (args := #[]) (mvT hZ191 (w126_ hw))) (w126_ hw) (w125_ hw) (w101_ hw) (w127_ hw) (rm15 l Z a0 hw  b197 b139 T191.heap n0 O208 w201) pd14 hml.symm (hb hby at_86) rfl rfl rfl rfl rfl (by decide)
   obtain ⟨rfl, N207q, e207q⟩ := hQ207
   have N207 := Fr.app N191 N207q
   obtain ⟨_, T209, L209, X209, hQ209, st209⟩ := own_cV 12 49 [] 94 #[iv p1, iv p2, iv p3, iv p4, iv p5, iv (p1 &&& (3 : Int32)), iv (ab0_ p2), iv (ab1_ p3), iv (ab2_ p4), rv b139, rv b154, iv (ab3_ p5), rv b169, rv b185, rv b197] X207 hx hZ191 ho191 w199 (w128_ hw) (w129_ hw) (notFace_of_selects (args := #[]) (mvT hZ191 (w131_ hw))) (w131_ hw) (w130_ hw) (w101_ hw) (w132_ hw) (rm16 l Z a0 hw  b197 T191.heap n0 O208 w202) pd14 hml.symm (hb hby at_94) e207q rfl rfl rfl rfl (by decide)
   obtain ⟨rfl, N209q, e209q⟩ := hQ209
   have N209 := Fr.app N207 N209q
   obtain ⟨_, T210, L210, X210, hQ210, st210⟩ := own_cV 12 49 [] 102 #[iv p1, iv p2, iv p3, iv p4, iv p5, iv (p1 &&& (3 : Int32)), iv (ab0_ p2), iv (ab1_ p3), iv (ab2_ p4), rv b139, rv b154, iv (ab3_ p5), rv b169, rv b185, rv b197] X209 hx hZ191 ho191 w199 (w133_ hw) (w134_ hw) (notFace_of_selects (args := #[]) (mvT hZ191 (w136_ hw))) (w136_ hw) (w135_ hw) (w101_ hw) (w137_ hw) (rm17 l Z a0 hw  b197 T191.heap n0 O208 w200) pd15 hml.symm (hb hby at_102) e209q rfl rfl rfl rfl (by decide)
   obtain ⟨rfl, N210q, e210q⟩ := hQ210
   have N210 := Fr.app N209 N210q
   obtain ⟨_, T211, L211, X211, hQ211, st211⟩ := own_cV 12 49 [.ref b139] 112 #[iv p1, iv p2, iv p3, iv p4, iv p5, iv (p1 &&& (3 : Int32)), iv (ab0_ p2), iv (ab1_ p3), iv (ab2_ p4), rv b139, rv b154, iv (ab3_ p5), rv b169, rv b185, rv b197] X210 hx hZ191 ho191 w199 (w138_ hw) (w139_ hw) (notFace_of_selects (args := #[]) (mvT hZ191 (w141_ hw))) (w141_ hw) (w140_ hw) (w101_ hw) (w142_ hw) (rm18 l Z a0 hw  b197 b139 T191.heap n0 O208 w201) pd15 hml.symm (hb hby at_112) e210q rfl rfl rfl rfl (by decide)
   obtain ⟨rfl, N211q, e211q⟩ := hQ211
   have N211 := Fr.app N210 N211q
   have E213_ := E194_.keep K191q
   obtain ⟨_, T212, L212, X212, hQ212, st212⟩ := own_cV 12 49 [] 115 #[iv p1, iv p2, iv p3, iv p4, iv p5, iv (p1 &&& (3 : Int32)), iv (ab0_ p2), iv (ab1_ p3), iv (ab2_ p4), rv b139, rv b154, iv (ab3_ p5), rv b169, rv b185, rv b197] X211 hx hZ191 ho191 E213_ (w143_ hw) (w144_ hw) (notFace_of_selects (args := #[]) (mvT hZ191 (w146_ hw))) (w146_ hw) (w145_ hw) (w6_ hw) (w147_ hw) (rm19 l Z a0 hw  b139 T191.heap n0 O208 ) pd16 hml.symm (hb hby at_115) e211q rfl rfl rfl rfl (by decide)
   obtain ⟨rfl, N212q, e212q⟩ := hQ212
   have N212 := Fr.app N211 N212q
   obtain ⟨_, T214, L214, X214, hQ214, st214⟩ := own_cV 12 49 [] 123 #[iv p1, iv p2, iv p3, iv p4, iv p5, iv (p1 &&& (3 : Int32)), iv (ab0_ p2), iv (ab1_ p3), iv (ab2_ p4), rv b139, rv b154, iv (ab3_ p5), rv b169, rv b185, rv b197] X212 hx hZ191 ho191 w199 (w148_ hw) (w149_ hw) (notFace_of_selects (args := #[]) (mvT hZ191 (w151_ hw))) (w151_ hw) (w150_ hw) (w101_ hw) (w152_ hw) (rm20 l Z a0 hw  b197 T191.heap n0 O208 w203) pd17 hml.symm (hb hby at_123) e212q rfl rfl rfl rfl (by decide)
   obtain ⟨rfl, N214q, e214q⟩ := hQ214
   have N214 := Fr.app N212 N214q
   have F216_ := w146.keep K152q nin0
   have F217_ := F216_.keep K167q nin0
   have F218_ := F217_.keep K182q nin0
   have F219_ := F218_.keep K191q nin0
   have hp220 : ∀ c ∈ ([(ab0_ p2)] : List Int32), ¬ c < 0 ∧ ¬ (255 : Int32) < c := (List.forall_mem_cons.mpr ⟨(own_lat p2), (fun _ q => nomatch q)⟩)
   have F221_ := w147.keep K152q nin0
   have F222_ := F221_.keep K167q nin0
   have F223_ := F222_.keep K182q nin0
   have F224_ := F223_.keep K191q nin0
   have A225_ := w148.keep K152q nin0
   have A226_ := A225_.keep K167q nin0
   have A227_ := A226_.keep K182q nin0
   have A228_ := A227_.keep K191q nin0
   obtain ⟨cq215, kq215, q215a, q215b, q215c⟩ := isOf hZ191 e214q w199
   obtain ⟨_, T215, L215, X215, hQ215, hS215, hZ215, ho215, CR215, st215⟩ := own_cbS 12 49 8 48 20 97 (X214.virtualBackS hx (y := Y41_) (z := Y41_) ho191 (mvT hZ191 (w153_ hw)) (mvT hZ191 (w154_ hw)) (notFace_of_selects (args := #[]) (mvT hZ191 (w156_ hw))) (mvT hZ191 (w156_ hw)) (mvT hZ191 (w155_ hw)) (by decide) (backOfSH (W := 1) (EL := consts_1) (s := s) (rm75 l Z a0 hw G1 b197 b139 b140 (ab0_ p2) c141_ T191.heap n0 O208 O2 P5 w201 w202 E213_ F219_ F224_ hp220 A228_) hZ191 (w157_ hw) (w101_ hw) (lE rfl) (lE rfl) hEL CR191.1) q215a q215c (g := (mkF m 133 #[iv p1, iv p2, iv p3, iv p4, iv p5, iv (p1 &&& (3 : Int32)), iv (ab0_ p2), iv (ab1_ p3), iv (ab2_ p4), rv b139, rv b154, iv (ab3_ p5), rv b169, rv b185, rv b197] [.ref b197, .ref b154])) rfl hml.symm (Steps.refl _) (argsL := []) (rest := [.ref b154]) (lenOf pd15 rfl) rfl (own_hw rfl) (hb hby at_133) (fun _ _ => ⟨rfl, e214q, (lE rfl : 12 + 8 ≤ _), (lE rfl : 49 + 48 ≤ _)⟩)) rfl rfl hS191 (by rw [e214q]; exact hk191) hZ191 ho191
   obtain ⟨b229, b230, c231_, rfl, N215q, K215q, w232, w233, w234, w235, w236, w237, w238⟩ := hQ215
   have N215 := Fr.app N214 N215q
   have hk215 : T215.heap.size ≤ T215.heap.size := Nat.le_refl _
   have K239 := K204.trans K215q (fun x q => nomatch q)
   have R241 := R206.trans CR215
   have hp243 : ∀ c ∈ ([123, (ab0_ p2), 42, 125] : List Int32), ¬ c < 0 ∧ ¬ (255 : Int32) < c := (List.forall_mem_cons.mpr ⟨(by decide), (List.forall_mem_cons.mpr ⟨(own_lat p2), (List.forall_mem_cons.mpr ⟨(by decide), (List.forall_mem_cons.mpr ⟨(by decide), (fun _ q => nomatch q)⟩)⟩)⟩)⟩)
   have hp244 : ∀ c ∈ ([123, (ab0_ p2), 42, 125] : List Int32), ¬ c < 0 ∧ ¬ (255 : Int32) < c := (List.forall_mem_cons.mpr ⟨(by decide), (List.forall_mem_cons.mpr ⟨(own_lat p2), (List.forall_mem_cons.mpr ⟨(by decide), (List.forall_mem_cons.mpr ⟨(by decide), (fun _ q => nomatch q)⟩)⟩)⟩)⟩)
   have E245_ := w160.keep K167q
   have E246_ := E245_.keep K182q
   have E247_ := E246_.keep K191q
   have E248_ := E247_.keep K215q
   have F249_ := w162.keep K167q nin0
   have F250_ := F249_.keep K182q nin0
   have F251_ := F250_.keep K191q nin0
   have F252_ := F251_.keep K215q nin0
   have F253_ := w161.keep K167q nin0
   have F254_ := F253_.keep K182q nin0
   have F255_ := F254_.keep K191q nin0
   have F256_ := F255_.keep K215q nin0
   have A257_ := w163.keep K167q nin0
   have A258_ := A257_.keep K182q nin0
   have A259_ := A258_.keep K191q nin0
   have A260_ := A259_.keep K215q nin0
   have hcd261 : StrChars.Road.CodA ([123, (ab0_ p2), 42, 125] : List Int32) 0 (4 : Int32) ((([123, (ab0_ p2), 42, 125] : List Int32).map (fun c => c.toInt8.toInt32)).map Value.int) := StrChars.Road.codOf (n := 4) rfl (fun x hx => (hp243 x hx).2)
   have hbd261 : ∀ x ∈ ([123, (ab0_ p2), 42, 125] : List Int32), ¬ x < 0 ∧ ¬ (65535 : Int32) < x := own_up _ hp243
   have hcd262 : StrChars.Road.CodA ([123, (ab0_ p2), 42, 125] : List Int32) 0 (4 : Int32) [.int 123, (.int (((ab0_ p2)).toInt8.toInt32)), .int 42, .int 125] := StrChars.Road.codOf (n := 4) rfl (fun x hx => (hp244 x hx).2)
   have hbd262 : ∀ x ∈ ([123, (ab0_ p2), 42, 125] : List Int32), ¬ x < 0 ∧ ¬ (65535 : Int32) < x := own_up _ hp244
   have O263 := O208.keep K215q all0
   obtain ⟨cq242, kq242, q242a, q242b, q242c⟩ := isOf hZ215 rfl E248_
   obtain ⟨_, T242, L242, X242, hQ242, st242⟩ := own_cb0 20 97 0 0 20 97 (X215.virtualBack hx (y := Y19_) (z := Y19_) ho215 (mvT hZ215 (w143_ hw)) (mvT hZ215 (w144_ hw)) (notFace_of_selects (args := #[]) (mvT hZ215 (w146_ hw))) (mvT hZ215 (w146_ hw)) (mvT hZ215 (w145_ hw)) (by decide) (StrChars.Road.eqW (s := s.setVm T215.vm) (W := 0) hZ215 (own_wq hw) (kI := 4) (w5_ hw) E248_ F252_ F256_ A260_ hcd261 hbd261 (lE rfl) w235 w237 w236 w238 hcd262 hbd262 (lE rfl) (O2.ext O263.2) P5 (lE rfl) (lE rfl)) q242a q242c (g := (mkF m 136 #[iv p1, iv p2, iv p3, iv p4, iv p5, iv (p1 &&& (3 : Int32)), iv (ab0_ p2), iv (ab1_ p3), iv (ab2_ p4), rv b139, rv b154, iv (ab3_ p5), rv b169, rv b185, rv b197] [.ref b229, .ref b154])) rfl hml.symm (Steps.refl _) (argsL := [.ref b229]) (rest := []) (lenOf pd16 rfl) rfl (own_hw rfl) (hb hby at_136) (fun _ _ => ⟨rfl, rfl, (lE rfl : 20 + 0 ≤ _), (lE rfl : 97 + 0 ≤ _)⟩)) rfl rfl
   dsimp only [Pt.U, Pt.locs, Pt.cells, Pt.slots] at hQ242
   obtain ⟨hv242, rfl, e242q⟩ := hQ242
   rcases hv242 with ⟨rfl, -⟩ | ⟨-, hq242⟩
   rotate_left
   exact absurd (rfl : ([123, (ab0_ p2), 42, 125] : List Int32) = ([123, (ab0_ p2), 42, 125] : List Int32)) hq242
   have N242 := Fr.app N215 (Fr.nil n0)
   have F265_ := w202.keep K215q nin0
   have F266_ := w203.keep K215q nin0
   have E267_ := w199.keep K215q
   obtain ⟨_, T264, L264, X264, hQ264, st264⟩ := own_cV 20 97 [.ref b169] 150 #[iv p1, iv p2, iv p3, iv p4, iv p5, iv (p1 &&& (3 : Int32)), iv (ab0_ p2), iv (ab1_ p3), iv (ab2_ p4), rv b139, rv b154, iv (ab3_ p5), rv b169, rv b185, rv b197] X242 hx hZ215 ho215 E267_ (w264_ hw) (w265_ hw) (notFace_of_selects (args := #[]) (mvT hZ215 (w267_ hw))) (w267_ hw) (w266_ hw) (w101_ hw) (w268_ hw) (rm53 l Z a0 hw  b197 b169 b185 T215.heap n0 O263 F265_ F266_ E267_) pd33 hml.symm (hb hby at_150) e242q rfl rfl rfl rfl (by decide)
   obtain ⟨rfl, N264q, e264q⟩ := hQ264
   have N264 := Fr.app N242 N264q
   have E269_ := w175.keep K182q
   have E270_ := E269_.keep K191q
   have E271_ := E270_.keep K215q
   obtain ⟨_, T268, L268, X268, hQ268, st268⟩ := own_cV 20 97 [] 153 #[iv p1, iv p2, iv p3, iv p4, iv p5, iv (p1 &&& (3 : Int32)), iv (ab0_ p2), iv (ab1_ p3), iv (ab2_ p4), rv b139, rv b154, iv (ab3_ p5), rv b169, rv b185, rv b197] X264 hx hZ215 ho215 E271_ (w143_ hw) (w144_ hw) (notFace_of_selects (args := #[]) (mvT hZ215 (w146_ hw))) (w146_ hw) (w145_ hw) (w6_ hw) (w147_ hw) (rm19 l Z a0 hw  b169 T215.heap n0 O263 ) pd16 hml.symm (hb hby at_153) e264q rfl rfl rfl rfl (by decide)
   obtain ⟨rfl, N268q, e268q⟩ := hQ268
   have N268 := Fr.app N264 N268q
   refine own_lvW X268 Bd.notSynchronized hS215 hk215 (v := (some (.int 1))) (fun h => by rw [Bd.returns] at h; cases h) e268q hh ⟨rfl, N268⟩ (R241.trans (CHv.at X268 hZ215 hEL CR215.1)) (lE rfl) (lE rfl) (fun fs hr => pr2 _ (by
    show Sx p e below s₁ m 37 #[iv p1, iv p2, iv p3, iv p4, iv p5, iv (p1 &&& (3 : Int32)), iv (ab0_ p2), iv (ab1_ p3), iv (ab2_ p4), .unset, .unset, .unset, .unset, .unset, .unset] [(.int (ab2_ p4)), (.int (ab1_ p3)), (.int (ab0_ p2)), (.int (p1 &&& (3 : Int32)))] _
    refine st138 _ ?_
    refine XS.astore X138.here hx rfl (hb hby at_40) rfl rfl (l' := #[iv p1, iv p2, iv p3, iv p4, iv p5, iv (p1 &&& (3 : Int32)), iv (ab0_ p2), iv (ab1_ p3), iv (ab2_ p4), rv b139, .unset, .unset, .unset, .unset, .unset]) rfl ?_
    refine zi X138 Bd at_42 rfl ?_
    refine zi X138 Bd at_44 rfl ?_
    refine zi X138 Bd at_46 rfl ?_
    refine zi X138 Bd at_48 rfl ?_
    refine st152 _ ?_
    refine XS.astore X152.here hx rfl (hb hby at_53) rfl rfl (l' := #[iv p1, iv p2, iv p3, iv p4, iv p5, iv (p1 &&& (3 : Int32)), iv (ab0_ p2), iv (ab1_ p3), iv (ab2_ p4), rv b139, rv b154, .unset, .unset, .unset, .unset]) rfl ?_
    refine zi X152 Bd at_55 rfl ?_
    refine zd X152 Bd at_57 ?_
    refine XS.iand X152.here hx rfl (hb hby at_59) rfl ?_
    refine XS.i2c X152.here hx rfl (hb hby at_60) rfl ?_
    refine zs X152 Bd at_61 (l' := #[iv p1, iv p2, iv p3, iv p4, iv p5, iv (p1 &&& (3 : Int32)), iv (ab0_ p2), iv (ab1_ p3), iv (ab2_ p4), rv b139, rv b154, iv (ab3_ p5), .unset, .unset, .unset]) rfl ?_
    refine zi X152 Bd at_63 rfl ?_
    refine st167 _ ?_
    refine XS.astore X167.here hx rfl (hb hby at_68) rfl rfl (l' := #[iv p1, iv p2, iv p3, iv p4, iv p5, iv (p1 &&& (3 : Int32)), iv (ab0_ p2), iv (ab1_ p3), iv (ab2_ p4), rv b139, rv b154, iv (ab3_ p5), rv b169, .unset, .unset]) rfl ?_
    refine za X167 Bd at_70 rfl rfl ?_
    refine st182 _ ?_
    refine XS.astore X182.here hx rfl (hb hby at_75) rfl rfl (l' := #[iv p1, iv p2, iv p3, iv p4, iv p5, iv (p1 &&& (3 : Int32)), iv (ab0_ p2), iv (ab1_ p3), iv (ab2_ p4), rv b139, rv b154, iv (ab3_ p5), rv b169, rv b185, .unset]) rfl ?_
    refine za X182 Bd at_77 rfl rfl ?_
    refine st191.trans ?_
    refine XS.astore X191.here hx rfl (hb hby at_82) rfl rfl (l' := #[iv p1, iv p2, iv p3, iv p4, iv p5, iv (p1 &&& (3 : Int32)), iv (ab0_ p2), iv (ab1_ p3), iv (ab2_ p4), rv b139, rv b154, iv (ab3_ p5), rv b169, rv b185, rv b197]) rfl ?_
    refine za X191 Bd at_84 rfl rfl ?_
    refine st207 _ ?_
    refine zo X207 Bd at_89 (XT.i0_eq_f ((by decide) : ¬ ((1 : Int32) = (0 : Int32)))) ?_
    show Sx p e below T207 m 92 #[iv p1, iv p2, iv p3, iv p4, iv p5, iv (p1 &&& (3 : Int32)), iv (ab0_ p2), iv (ab1_ p3), iv (ab2_ p4), rv b139, rv b154, iv (ab3_ p5), rv b169, rv b185, rv b197] [] _
    refine za X207 Bd at_92 rfl rfl ?_
    refine st209 _ ?_
    refine zo X209 Bd at_97 (XT.i0_eq_f ((by decide) : ¬ ((1 : Int32) = (0 : Int32)))) ?_
    refine za X209 Bd at_100 rfl rfl ?_
    refine st210 _ ?_
    refine XS.ifnonnullNo X210.here hx rfl (hb hby at_105) rfl ?_
    refine za X210 Bd at_108 rfl rfl ?_
    refine za X210 Bd at_110 rfl rfl ?_
    refine st211 _ ?_
    refine st212 _ ?_
    refine zo X212 Bd at_118 (XT.i0_eq_f ((by decide) : ¬ ((1 : Int32) = (0 : Int32)))) ?_
    refine za X212 Bd at_121 rfl rfl ?_
    refine st214 _ ?_
    refine XS.ifnonnullNo X214.here hx rfl (hb hby at_126) rfl ?_
    refine za X214 Bd at_129 rfl rfl ?_
    refine za X214 Bd at_131 rfl rfl ?_
    refine st215.trans ?_
    refine st242.trans ?_
    refine zo X242 Bd at_139 (XT.i0_eq_f ((by decide) : ¬ ((1 : Int32) = (0 : Int32)))) ?_
    refine za X242 Bd at_142 rfl rfl ?_
    refine za X242 Bd at_144 rfl rfl ?_
    refine za X242 Bd at_146 rfl rfl ?_
    refine za X242 Bd at_148 rfl rfl ?_
    refine st264 _ ?_
    refine st268 _ ?_
    show Sx p e below T268 m 156 #[iv p1, iv p2, iv p3, iv p4, iv p5, iv (p1 &&& (3 : Int32)), iv (ab0_ p2), iv (ab1_ p3), iv (ab2_ p4), rv b139, rv b154, iv (ab3_ p5), rv b169, rv b185, rv b197] [.int 1] _
    refine zo X268 Bd at_156 (XT.i0_eq_f ((by decide) : ¬ ((1 : Int32) = (0 : Int32)))) ?_
    refine zc X268 Bd at_159 ?_
    refine zg (pc' := 164) X268 Bd at_160 rfl ?_
    exact retN X268 hx (t := .boolean) Bd.returns (by simp) (hb hby at_164) hr))
  ·
   skip
   by_cases hc273 : (p1 &&& (3 : Int32)) = (2 : Int32)
   ·
    skip
    obtain ⟨_, T274, L274, X274, hQ274, st274⟩ := own_cS 3 8 [] 37 #[iv p1, iv p2, iv p3, iv p4, iv p5, iv (p1 &&& (3 : Int32)), iv (ab0_ p2), iv (ab1_ p3), iv (ab2_ p4), .unset, .unset, .unset, .unset, .unset, .unset] X0 hx hZ hown (w0_ hw) (w1_ hw) (w2_ hw) (w3_ hw) (rm76 l Z a0 hw G1 (p1 &&& (3 : Int32)) (ab0_ p2) (ab1_ p3) (ab2_ p4) h0 n0 X00 O2 P5 hc3 hc137 hc273 (own_lat p2) (own_lat p3)) pd2 hml.symm (hb hby at_37) e0 rfl rfl rfl rfl (by decide)
    obtain ⟨b275, b276, c277_, rfl, N274q, K274q, w278, w279, w280, w281, w282, w283, w284⟩ := hQ274
    have N274 := Fr.app N0 N274q
    have K285 := (Keep.refl h0 []).trans K274q (fun x q => nomatch q)
    have C286 : CHv Z consts_1 s.vm T274.heap := CHv.keep K274q sf0 hC0
    have R287 : CHr Z consts_1 s.vm h0 s.vm T274.heap := hR0.trans (CHr.keep K274q sf0 hC0)
    have O289 := X00.keep K274q all0
    obtain ⟨_, T288, L288, X288, hQ288, st288⟩ := own_cS 6 22 [] 50 #[iv p1, iv p2, iv p3, iv p4, iv p5, iv (p1 &&& (3 : Int32)), iv (ab0_ p2), iv (ab1_ p3), iv (ab2_ p4), rv b275, .unset, .unset, .unset, .unset, .unset] X274 hx hZ hown (w26_ hw) (w27_ hw) (w2_ hw) (w28_ hw) (rm77 l Z a0 hw G1 (p1 &&& (3 : Int32)) (ab0_ p2) (ab1_ p3) (ab2_ p4) T274.heap n0 O289 O2 P5 hc3 hc137 hc273 (own_lat p2) (own_lat p3)) pd2 hml.symm (hb hby at_50) rfl rfl rfl rfl rfl (by decide)
    obtain ⟨b290, b291, c292_, rfl, N288q, K288q, w293, w294, w295, w296, w297, w298, w299⟩ := hQ288
    have N288 := Fr.app N274 N288q
    have K300 := K285.trans K288q (fun x q => nomatch q)
    have C301 : CHv Z consts_1 s.vm T288.heap := CHv.keep K288q sf0 C286
    have R302 : CHr Z consts_1 s.vm h0 s.vm T288.heap := R287.trans (CHr.keep K288q sf0 C286)
    have O304 := O289.keep K288q all0
    obtain ⟨_, T303, L303, X303, hQ303, st303⟩ := own_cS 8 27 [] 65 #[iv p1, iv p2, iv p3, iv p4, iv p5, iv (p1 &&& (3 : Int32)), iv (ab0_ p2), iv (ab1_ p3), iv (ab2_ p4), rv b275, rv b290, iv (ab3_ p5), .unset, .unset, .unset] X288 hx hZ hown (w40_ hw) (w41_ hw) (w6_ hw) (w42_ hw) (rm8 l Z a0 hw G1 (ab3_ p5) T288.heap n0 O304 O2 P5 (own_lat7 p5).2) pd6 hml.symm (hb hby at_65) rfl rfl rfl rfl rfl (by decide)
    obtain ⟨b305, b306, c307_, rfl, N303q, K303q, w308, w309, w310, w311, w312, w313, w314⟩ := hQ303
    have N303 := Fr.app N288 N303q
    have K315 := K300.trans K303q (fun x q => nomatch q)
    have C316 : CHv Z consts_1 s.vm T303.heap := CHv.keep K303q sf0 C301
    have R317 : CHr Z consts_1 s.vm h0 s.vm T303.heap := R302.trans (CHr.keep K303q sf0 C301)
    have hp319 : ∀ c ∈ ([(ab3_ p5)] : List Int32), ¬ c < 0 ∧ ¬ (255 : Int32) < c := (List.forall_mem_cons.mpr ⟨(own_lat7 p5), (fun _ q => nomatch q)⟩)
    have O320 := O304.keep K303q all0
    obtain ⟨_, T318, L318, X318, hQ318, st318⟩ := own_cS 9 29 [] 72 #[iv p1, iv p2, iv p3, iv p4, iv p5, iv (p1 &&& (3 : Int32)), iv (ab0_ p2), iv (ab1_ p3), iv (ab2_ p4), rv b275, rv b290, iv (ab3_ p5), rv b305, .unset, .unset] X303 hx hZ hown (w54_ hw) (w55_ hw) (w56_ hw) (w57_ hw) (rm11 l Z a0 hw G1 G3 b305 b306 (ab3_ p5) c307_ T303.heap n0 O320 O2 P5 O4 rG3 w311 w313 w312 hp319 w314) pd10 hml.symm (hb hby at_72) rfl rfl rfl rfl rfl (by decide)
    obtain ⟨b321, rfl, N318q, K318q, w322, w323⟩ := hQ318
    have N318 := Fr.app N303 N318q
    have K324 := K315.trans K318q (fun x q => nomatch q)
    have C325 : CHv Z consts_1 s.vm T318.heap := CHv.keep K318q sf0 C316
    have R326 : CHr Z consts_1 s.vm h0 s.vm T318.heap := R317.trans (CHr.keep K318q sf0 C316)
    have E328_ := w281.keep K288q
    have E329_ := E328_.keep K303q
    have E330_ := E329_.keep K318q
    have O331 := O320.keep K318q all0
    have hk332' : _ ≤ T318.heap.size := (Nat.le_trans (Nat.le_trans (Nat.le_trans (Nat.le_trans hk0 K274q.1) K288q.1) K303q.1) K318q.1)
    obtain ⟨_, T327, L327, X327, hQ327, hS327, hZ327, ho327, CR327, st327⟩ := own_cbS 9 29 3 24 12 53 (callSS X318 hx (y := Y14_) hown (mvT hZ (w99_ hw)) (mvT hZ (w100_ hw)) (mvT hZ (w101_ hw)) (mvT hZ (w102_ hw)) (by decide) (backOfSH (W := 0) (EL := consts_1) (s := s) (rm14 l Z a0 hw  b275 T318.heap n0 O331 E330_) hZ (w102_ hw) (w101_ hw) (lE rfl) (lE rfl) hEL C325) (g := (mkF m 79 #[iv p1, iv p2, iv p3, iv p4, iv p5, iv (p1 &&& (3 : Int32)), iv (ab0_ p2), iv (ab1_ p3), iv (ab2_ p4), rv b275, rv b290, iv (ab3_ p5), rv b305, rv b321, .unset] [.ref b275])) rfl hml.symm (argsL := [.ref b275]) (rest := []) (lenOf pd13 rfl) rfl (own_hw rfl) (hb hby at_79) (fun _ _ => ⟨rfl, rfl, (lE rfl : 9 + 3 ≤ _), (lE rfl : 29 + 24 ≤ _)⟩)) rfl rfl hS0 hk332' hZ hown
    obtain ⟨b333, rfl, N327q, K327q, w334, w335, w336, w337, w338, w339⟩ := hQ327
    have N327 := Fr.app N318 N327q
    have hk327 : T327.heap.size ≤ T327.heap.size := Nat.le_refl _
    have K340 := K324.trans K327q (fun x q => nomatch q)
    have R342 := R326.trans CR327
    have O344 := O331.keep K327q all0
    obtain ⟨_, T343, L343, X343, hQ343, st343⟩ := own_cV 12 53 [] 86 #[iv p1, iv p2, iv p3, iv p4, iv p5, iv (p1 &&& (3 : Int32)), iv (ab0_ p2), iv (ab1_ p3), iv (ab2_ p4), rv b275, rv b290, iv (ab3_ p5), rv b305, rv b321, rv b333] X327 hx hZ327 ho327 w335 (w123_ hw) (w124_ hw) (notFace_of_selects (args := #[]) (mvT hZ327 (w126_ hw))) (w126_ hw) (w125_ hw) (w101_ hw) (w127_ hw) (rm15 l Z a0 hw  b333 b275 T327.heap n0 O344 w337) pd14 hml.symm (hb hby at_86) rfl rfl rfl rfl rfl (by decide)
    obtain ⟨rfl, N343q, e343q⟩ := hQ343
    have N343 := Fr.app N327 N343q
    obtain ⟨_, T345, L345, X345, hQ345, st345⟩ := own_cV 12 53 [] 94 #[iv p1, iv p2, iv p3, iv p4, iv p5, iv (p1 &&& (3 : Int32)), iv (ab0_ p2), iv (ab1_ p3), iv (ab2_ p4), rv b275, rv b290, iv (ab3_ p5), rv b305, rv b321, rv b333] X343 hx hZ327 ho327 w335 (w128_ hw) (w129_ hw) (notFace_of_selects (args := #[]) (mvT hZ327 (w131_ hw))) (w131_ hw) (w130_ hw) (w101_ hw) (w132_ hw) (rm16 l Z a0 hw  b333 T327.heap n0 O344 w338) pd14 hml.symm (hb hby at_94) e343q rfl rfl rfl rfl (by decide)
    obtain ⟨rfl, N345q, e345q⟩ := hQ345
    have N345 := Fr.app N343 N345q
    obtain ⟨_, T346, L346, X346, hQ346, st346⟩ := own_cV 12 53 [] 102 #[iv p1, iv p2, iv p3, iv p4, iv p5, iv (p1 &&& (3 : Int32)), iv (ab0_ p2), iv (ab1_ p3), iv (ab2_ p4), rv b275, rv b290, iv (ab3_ p5), rv b305, rv b321, rv b333] X345 hx hZ327 ho327 w335 (w133_ hw) (w134_ hw) (notFace_of_selects (args := #[]) (mvT hZ327 (w136_ hw))) (w136_ hw) (w135_ hw) (w101_ hw) (w137_ hw) (rm17 l Z a0 hw  b333 T327.heap n0 O344 w336) pd15 hml.symm (hb hby at_102) e345q rfl rfl rfl rfl (by decide)
    obtain ⟨rfl, N346q, e346q⟩ := hQ346
    have N346 := Fr.app N345 N346q
    obtain ⟨_, T347, L347, X347, hQ347, st347⟩ := own_cV 12 53 [.ref b275] 112 #[iv p1, iv p2, iv p3, iv p4, iv p5, iv (p1 &&& (3 : Int32)), iv (ab0_ p2), iv (ab1_ p3), iv (ab2_ p4), rv b275, rv b290, iv (ab3_ p5), rv b305, rv b321, rv b333] X346 hx hZ327 ho327 w335 (w138_ hw) (w139_ hw) (notFace_of_selects (args := #[]) (mvT hZ327 (w141_ hw))) (w141_ hw) (w140_ hw) (w101_ hw) (w142_ hw) (rm18 l Z a0 hw  b333 b275 T327.heap n0 O344 w337) pd15 hml.symm (hb hby at_112) e346q rfl rfl rfl rfl (by decide)
    obtain ⟨rfl, N347q, e347q⟩ := hQ347
    have N347 := Fr.app N346 N347q
    have E349_ := E330_.keep K327q
    obtain ⟨_, T348, L348, X348, hQ348, st348⟩ := own_cV 12 53 [] 115 #[iv p1, iv p2, iv p3, iv p4, iv p5, iv (p1 &&& (3 : Int32)), iv (ab0_ p2), iv (ab1_ p3), iv (ab2_ p4), rv b275, rv b290, iv (ab3_ p5), rv b305, rv b321, rv b333] X347 hx hZ327 ho327 E349_ (w143_ hw) (w144_ hw) (notFace_of_selects (args := #[]) (mvT hZ327 (w146_ hw))) (w146_ hw) (w145_ hw) (w6_ hw) (w147_ hw) (rm19 l Z a0 hw  b275 T327.heap n0 O344 ) pd16 hml.symm (hb hby at_115) e347q rfl rfl rfl rfl (by decide)
    obtain ⟨rfl, N348q, e348q⟩ := hQ348
    have N348 := Fr.app N347 N348q
    obtain ⟨_, T350, L350, X350, hQ350, st350⟩ := own_cV 12 53 [] 123 #[iv p1, iv p2, iv p3, iv p4, iv p5, iv (p1 &&& (3 : Int32)), iv (ab0_ p2), iv (ab1_ p3), iv (ab2_ p4), rv b275, rv b290, iv (ab3_ p5), rv b305, rv b321, rv b333] X348 hx hZ327 ho327 w335 (w148_ hw) (w149_ hw) (notFace_of_selects (args := #[]) (mvT hZ327 (w151_ hw))) (w151_ hw) (w150_ hw) (w101_ hw) (w152_ hw) (rm20 l Z a0 hw  b333 T327.heap n0 O344 w339) pd17 hml.symm (hb hby at_123) e348q rfl rfl rfl rfl (by decide)
    obtain ⟨rfl, N350q, e350q⟩ := hQ350
    have N350 := Fr.app N348 N350q
    have F352_ := w282.keep K288q nin0
    have F353_ := F352_.keep K303q nin0
    have F354_ := F353_.keep K318q nin0
    have F355_ := F354_.keep K327q nin0
    have hp356 : ∀ c ∈ ([(ab0_ p2), (ab1_ p3)] : List Int32), ¬ c < 0 ∧ ¬ (255 : Int32) < c := (List.forall_mem_cons.mpr ⟨(own_lat p2), (List.forall_mem_cons.mpr ⟨(own_lat p3), (fun _ q => nomatch q)⟩)⟩)
    have F357_ := w283.keep K288q nin0
    have F358_ := F357_.keep K303q nin0
    have F359_ := F358_.keep K318q nin0
    have F360_ := F359_.keep K327q nin0
    have A361_ := w284.keep K288q nin0
    have A362_ := A361_.keep K303q nin0
    have A363_ := A362_.keep K318q nin0
    have A364_ := A363_.keep K327q nin0
    obtain ⟨cq351, kq351, q351a, q351b, q351c⟩ := isOf hZ327 e350q w335
    obtain ⟨_, T351, L351, X351, hQ351, hS351, hZ351, ho351, CR351, st351⟩ := own_cbS 12 53 8 49 20 102 (X350.virtualBackS hx (y := Y41_) (z := Y41_) ho327 (mvT hZ327 (w153_ hw)) (mvT hZ327 (w154_ hw)) (notFace_of_selects (args := #[]) (mvT hZ327 (w156_ hw))) (mvT hZ327 (w156_ hw)) (mvT hZ327 (w155_ hw)) (by decide) (backOfSH (W := 1) (EL := consts_1) (s := s) (rm96 l Z a0 hw G1 b333 b275 b276 (ab0_ p2) (ab1_ p3) c277_ T327.heap n0 O344 O2 P5 w337 w338 E349_ F355_ F360_ hp356 A364_) hZ327 (w157_ hw) (w101_ hw) (lE rfl) (lE rfl) hEL CR327.1) q351a q351c (g := (mkF m 133 #[iv p1, iv p2, iv p3, iv p4, iv p5, iv (p1 &&& (3 : Int32)), iv (ab0_ p2), iv (ab1_ p3), iv (ab2_ p4), rv b275, rv b290, iv (ab3_ p5), rv b305, rv b321, rv b333] [.ref b333, .ref b290])) rfl hml.symm (Steps.refl _) (argsL := []) (rest := [.ref b290]) (lenOf pd15 rfl) rfl (own_hw rfl) (hb hby at_133) (fun _ _ => ⟨rfl, e350q, (lE rfl : 12 + 8 ≤ _), (lE rfl : 53 + 49 ≤ _)⟩)) rfl rfl hS327 (by rw [e350q]; exact hk327) hZ327 ho327
    obtain ⟨b365, b366, c367_, rfl, N351q, K351q, w368, w369, w370, w371, w372, w373, w374⟩ := hQ351
    have N351 := Fr.app N350 N351q
    have hk351 : T351.heap.size ≤ T351.heap.size := Nat.le_refl _
    have K375 := K340.trans K351q (fun x q => nomatch q)
    have R377 := R342.trans CR351
    have hp379 : ∀ c ∈ ([123, (ab0_ p2), (ab1_ p3), 42, 125] : List Int32), ¬ c < 0 ∧ ¬ (255 : Int32) < c := (List.forall_mem_cons.mpr ⟨(by decide), (List.forall_mem_cons.mpr ⟨(own_lat p2), (List.forall_mem_cons.mpr ⟨(own_lat p3), (List.forall_mem_cons.mpr ⟨(by decide), (List.forall_mem_cons.mpr ⟨(by decide), (fun _ q => nomatch q)⟩)⟩)⟩)⟩)⟩)
    have hp380 : ∀ c ∈ ([123, (ab0_ p2), (ab1_ p3), 42, 125] : List Int32), ¬ c < 0 ∧ ¬ (255 : Int32) < c := (List.forall_mem_cons.mpr ⟨(by decide), (List.forall_mem_cons.mpr ⟨(own_lat p2), (List.forall_mem_cons.mpr ⟨(own_lat p3), (List.forall_mem_cons.mpr ⟨(by decide), (List.forall_mem_cons.mpr ⟨(by decide), (fun _ q => nomatch q)⟩)⟩)⟩)⟩)⟩)
    have E381_ := w296.keep K303q
    have E382_ := E381_.keep K318q
    have E383_ := E382_.keep K327q
    have E384_ := E383_.keep K351q
    have F385_ := w298.keep K303q nin0
    have F386_ := F385_.keep K318q nin0
    have F387_ := F386_.keep K327q nin0
    have F388_ := F387_.keep K351q nin0
    have F389_ := w297.keep K303q nin0
    have F390_ := F389_.keep K318q nin0
    have F391_ := F390_.keep K327q nin0
    have F392_ := F391_.keep K351q nin0
    have A393_ := w299.keep K303q nin0
    have A394_ := A393_.keep K318q nin0
    have A395_ := A394_.keep K327q nin0
    have A396_ := A395_.keep K351q nin0
    have hcd397 : StrChars.Road.CodA ([123, (ab0_ p2), (ab1_ p3), 42, 125] : List Int32) 0 (5 : Int32) ((([123, (ab0_ p2), (ab1_ p3), 42, 125] : List Int32).map (fun c => c.toInt8.toInt32)).map Value.int) := StrChars.Road.codOf (n := 5) rfl (fun x hx => (hp379 x hx).2)
    have hbd397 : ∀ x ∈ ([123, (ab0_ p2), (ab1_ p3), 42, 125] : List Int32), ¬ x < 0 ∧ ¬ (65535 : Int32) < x := own_up _ hp379
    have hcd398 : StrChars.Road.CodA ([123, (ab0_ p2), (ab1_ p3), 42, 125] : List Int32) 0 (5 : Int32) [.int 123, (.int (((ab0_ p2)).toInt8.toInt32)), (.int (((ab1_ p3)).toInt8.toInt32)), .int 42, .int 125] := StrChars.Road.codOf (n := 5) rfl (fun x hx => (hp380 x hx).2)
    have hbd398 : ∀ x ∈ ([123, (ab0_ p2), (ab1_ p3), 42, 125] : List Int32), ¬ x < 0 ∧ ¬ (65535 : Int32) < x := own_up _ hp380
    have O399 := O344.keep K351q all0
    obtain ⟨cq378, kq378, q378a, q378b, q378c⟩ := isOf hZ351 rfl E384_
    obtain ⟨_, T378, L378, X378, hQ378, st378⟩ := own_cb0 20 102 0 0 20 102 (X351.virtualBack hx (y := Y19_) (z := Y19_) ho351 (mvT hZ351 (w143_ hw)) (mvT hZ351 (w144_ hw)) (notFace_of_selects (args := #[]) (mvT hZ351 (w146_ hw))) (mvT hZ351 (w146_ hw)) (mvT hZ351 (w145_ hw)) (by decide) (StrChars.Road.eqW (s := s.setVm T351.vm) (W := 0) hZ351 (own_wq hw) (kI := 4) (w5_ hw) E384_ F388_ F392_ A396_ hcd397 hbd397 (lE rfl) w371 w373 w372 w374 hcd398 hbd398 (lE rfl) (O2.ext O399.2) P5 (lE rfl) (lE rfl)) q378a q378c (g := (mkF m 136 #[iv p1, iv p2, iv p3, iv p4, iv p5, iv (p1 &&& (3 : Int32)), iv (ab0_ p2), iv (ab1_ p3), iv (ab2_ p4), rv b275, rv b290, iv (ab3_ p5), rv b305, rv b321, rv b333] [.ref b365, .ref b290])) rfl hml.symm (Steps.refl _) (argsL := [.ref b365]) (rest := []) (lenOf pd16 rfl) rfl (own_hw rfl) (hb hby at_136) (fun _ _ => ⟨rfl, rfl, (lE rfl : 20 + 0 ≤ _), (lE rfl : 102 + 0 ≤ _)⟩)) rfl rfl
    dsimp only [Pt.U, Pt.locs, Pt.cells, Pt.slots] at hQ378
    obtain ⟨hv378, rfl, e378q⟩ := hQ378
    rcases hv378 with ⟨rfl, -⟩ | ⟨-, hq378⟩
    rotate_left
    exact absurd (rfl : ([123, (ab0_ p2), (ab1_ p3), 42, 125] : List Int32) = ([123, (ab0_ p2), (ab1_ p3), 42, 125] : List Int32)) hq378
    have N378 := Fr.app N351 (Fr.nil n0)
    have F401_ := w338.keep K351q nin0
    have F402_ := w339.keep K351q nin0
    have E403_ := w335.keep K351q
    obtain ⟨_, T400, L400, X400, hQ400, st400⟩ := own_cV 20 102 [.ref b305] 150 #[iv p1, iv p2, iv p3, iv p4, iv p5, iv (p1 &&& (3 : Int32)), iv (ab0_ p2), iv (ab1_ p3), iv (ab2_ p4), rv b275, rv b290, iv (ab3_ p5), rv b305, rv b321, rv b333] X378 hx hZ351 ho351 E403_ (w264_ hw) (w265_ hw) (notFace_of_selects (args := #[]) (mvT hZ351 (w267_ hw))) (w267_ hw) (w266_ hw) (w101_ hw) (w268_ hw) (rm53 l Z a0 hw  b333 b305 b321 T351.heap n0 O399 F401_ F402_ E403_) pd33 hml.symm (hb hby at_150) e378q rfl rfl rfl rfl (by decide)
    obtain ⟨rfl, N400q, e400q⟩ := hQ400
    have N400 := Fr.app N378 N400q
    have E405_ := w311.keep K318q
    have E406_ := E405_.keep K327q
    have E407_ := E406_.keep K351q
    obtain ⟨_, T404, L404, X404, hQ404, st404⟩ := own_cV 20 102 [] 153 #[iv p1, iv p2, iv p3, iv p4, iv p5, iv (p1 &&& (3 : Int32)), iv (ab0_ p2), iv (ab1_ p3), iv (ab2_ p4), rv b275, rv b290, iv (ab3_ p5), rv b305, rv b321, rv b333] X400 hx hZ351 ho351 E407_ (w143_ hw) (w144_ hw) (notFace_of_selects (args := #[]) (mvT hZ351 (w146_ hw))) (w146_ hw) (w145_ hw) (w6_ hw) (w147_ hw) (rm19 l Z a0 hw  b305 T351.heap n0 O399 ) pd16 hml.symm (hb hby at_153) e400q rfl rfl rfl rfl (by decide)
    obtain ⟨rfl, N404q, e404q⟩ := hQ404
    have N404 := Fr.app N400 N404q
    refine own_lvW X404 Bd.notSynchronized hS351 hk351 (v := (some (.int 1))) (fun h => by rw [Bd.returns] at h; cases h) e404q hh ⟨rfl, N404⟩ (R377.trans (CHv.at X404 hZ351 hEL CR351.1)) (lE rfl) (lE rfl) (fun fs hr => pr2 _ (by
     show Sx p e below s₁ m 37 #[iv p1, iv p2, iv p3, iv p4, iv p5, iv (p1 &&& (3 : Int32)), iv (ab0_ p2), iv (ab1_ p3), iv (ab2_ p4), .unset, .unset, .unset, .unset, .unset, .unset] [(.int (ab2_ p4)), (.int (ab1_ p3)), (.int (ab0_ p2)), (.int (p1 &&& (3 : Int32)))] _
     refine st274 _ ?_
     refine XS.astore X274.here hx rfl (hb hby at_40) rfl rfl (l' := #[iv p1, iv p2, iv p3, iv p4, iv p5, iv (p1 &&& (3 : Int32)), iv (ab0_ p2), iv (ab1_ p3), iv (ab2_ p4), rv b275, .unset, .unset, .unset, .unset, .unset]) rfl ?_
     refine zi X274 Bd at_42 rfl ?_
     refine zi X274 Bd at_44 rfl ?_
     refine zi X274 Bd at_46 rfl ?_
     refine zi X274 Bd at_48 rfl ?_
     refine st288 _ ?_
     refine XS.astore X288.here hx rfl (hb hby at_53) rfl rfl (l' := #[iv p1, iv p2, iv p3, iv p4, iv p5, iv (p1 &&& (3 : Int32)), iv (ab0_ p2), iv (ab1_ p3), iv (ab2_ p4), rv b275, rv b290, .unset, .unset, .unset, .unset]) rfl ?_
     refine zi X288 Bd at_55 rfl ?_
     refine zd X288 Bd at_57 ?_
     refine XS.iand X288.here hx rfl (hb hby at_59) rfl ?_
     refine XS.i2c X288.here hx rfl (hb hby at_60) rfl ?_
     refine zs X288 Bd at_61 (l' := #[iv p1, iv p2, iv p3, iv p4, iv p5, iv (p1 &&& (3 : Int32)), iv (ab0_ p2), iv (ab1_ p3), iv (ab2_ p4), rv b275, rv b290, iv (ab3_ p5), .unset, .unset, .unset]) rfl ?_
     refine zi X288 Bd at_63 rfl ?_
     refine st303 _ ?_
     refine XS.astore X303.here hx rfl (hb hby at_68) rfl rfl (l' := #[iv p1, iv p2, iv p3, iv p4, iv p5, iv (p1 &&& (3 : Int32)), iv (ab0_ p2), iv (ab1_ p3), iv (ab2_ p4), rv b275, rv b290, iv (ab3_ p5), rv b305, .unset, .unset]) rfl ?_
     refine za X303 Bd at_70 rfl rfl ?_
     refine st318 _ ?_
     refine XS.astore X318.here hx rfl (hb hby at_75) rfl rfl (l' := #[iv p1, iv p2, iv p3, iv p4, iv p5, iv (p1 &&& (3 : Int32)), iv (ab0_ p2), iv (ab1_ p3), iv (ab2_ p4), rv b275, rv b290, iv (ab3_ p5), rv b305, rv b321, .unset]) rfl ?_
     refine za X318 Bd at_77 rfl rfl ?_
     refine st327.trans ?_
     refine XS.astore X327.here hx rfl (hb hby at_82) rfl rfl (l' := #[iv p1, iv p2, iv p3, iv p4, iv p5, iv (p1 &&& (3 : Int32)), iv (ab0_ p2), iv (ab1_ p3), iv (ab2_ p4), rv b275, rv b290, iv (ab3_ p5), rv b305, rv b321, rv b333]) rfl ?_
     refine za X327 Bd at_84 rfl rfl ?_
     refine st343 _ ?_
     refine zo X343 Bd at_89 (XT.i0_eq_f ((by decide) : ¬ ((1 : Int32) = (0 : Int32)))) ?_
     show Sx p e below T343 m 92 #[iv p1, iv p2, iv p3, iv p4, iv p5, iv (p1 &&& (3 : Int32)), iv (ab0_ p2), iv (ab1_ p3), iv (ab2_ p4), rv b275, rv b290, iv (ab3_ p5), rv b305, rv b321, rv b333] [] _
     refine za X343 Bd at_92 rfl rfl ?_
     refine st345 _ ?_
     refine zo X345 Bd at_97 (XT.i0_eq_f ((by decide) : ¬ ((1 : Int32) = (0 : Int32)))) ?_
     refine za X345 Bd at_100 rfl rfl ?_
     refine st346 _ ?_
     refine XS.ifnonnullNo X346.here hx rfl (hb hby at_105) rfl ?_
     refine za X346 Bd at_108 rfl rfl ?_
     refine za X346 Bd at_110 rfl rfl ?_
     refine st347 _ ?_
     refine st348 _ ?_
     refine zo X348 Bd at_118 (XT.i0_eq_f ((by decide) : ¬ ((1 : Int32) = (0 : Int32)))) ?_
     refine za X348 Bd at_121 rfl rfl ?_
     refine st350 _ ?_
     refine XS.ifnonnullNo X350.here hx rfl (hb hby at_126) rfl ?_
     refine za X350 Bd at_129 rfl rfl ?_
     refine za X350 Bd at_131 rfl rfl ?_
     refine st351.trans ?_
     refine st378.trans ?_
     refine zo X378 Bd at_139 (XT.i0_eq_f ((by decide) : ¬ ((1 : Int32) = (0 : Int32)))) ?_
     refine za X378 Bd at_142 rfl rfl ?_
     refine za X378 Bd at_144 rfl rfl ?_
     refine za X378 Bd at_146 rfl rfl ?_
     refine za X378 Bd at_148 rfl rfl ?_
     refine st400 _ ?_
     refine st404 _ ?_
     show Sx p e below T404 m 156 #[iv p1, iv p2, iv p3, iv p4, iv p5, iv (p1 &&& (3 : Int32)), iv (ab0_ p2), iv (ab1_ p3), iv (ab2_ p4), rv b275, rv b290, iv (ab3_ p5), rv b305, rv b321, rv b333] [.int 1] _
     refine zo X404 Bd at_156 (XT.i0_eq_f ((by decide) : ¬ ((1 : Int32) = (0 : Int32)))) ?_
     refine zc X404 Bd at_159 ?_
     refine zg (pc' := 164) X404 Bd at_160 rfl ?_
     exact retN X404 hx (t := .boolean) Bd.returns (by simp) (hb hby at_164) hr))
   ·
    skip
    obtain ⟨_, T408, L408, X408, hQ408, st408⟩ := own_cS 3 10 [] 37 #[iv p1, iv p2, iv p3, iv p4, iv p5, iv (p1 &&& (3 : Int32)), iv (ab0_ p2), iv (ab1_ p3), iv (ab2_ p4), .unset, .unset, .unset, .unset, .unset, .unset] X0 hx hZ hown (w0_ hw) (w1_ hw) (w2_ hw) (w3_ hw) (rm97 l Z a0 hw G1 (p1 &&& (3 : Int32)) (ab0_ p2) (ab1_ p3) (ab2_ p4) h0 n0 X00 O2 P5 hc3 hc137 hc273 (own_lat p2) (own_lat p3) (own_lat p4)) pd2 hml.symm (hb hby at_37) e0 rfl rfl rfl rfl (by decide)
    obtain ⟨b409, b410, c411_, rfl, N408q, K408q, w412, w413, w414, w415, w416, w417, w418⟩ := hQ408
    have N408 := Fr.app N0 N408q
    have K419 := (Keep.refl h0 []).trans K408q (fun x q => nomatch q)
    have C420 : CHv Z consts_1 s.vm T408.heap := CHv.keep K408q sf0 hC0
    have R421 : CHr Z consts_1 s.vm h0 s.vm T408.heap := hR0.trans (CHr.keep K408q sf0 hC0)
    have O423 := X00.keep K408q all0
    obtain ⟨_, T422, L422, X422, hQ422, st422⟩ := own_cS 6 26 [] 50 #[iv p1, iv p2, iv p3, iv p4, iv p5, iv (p1 &&& (3 : Int32)), iv (ab0_ p2), iv (ab1_ p3), iv (ab2_ p4), rv b409, .unset, .unset, .unset, .unset, .unset] X408 hx hZ hown (w26_ hw) (w27_ hw) (w2_ hw) (w28_ hw) (rm98 l Z a0 hw G1 (p1 &&& (3 : Int32)) (ab0_ p2) (ab1_ p3) (ab2_ p4) T408.heap n0 O423 O2 P5 hc3 hc137 hc273 (own_lat p2) (own_lat p3) (own_lat p4)) pd2 hml.symm (hb hby at_50) rfl rfl rfl rfl rfl (by decide)
    obtain ⟨b424, b425, c426_, rfl, N422q, K422q, w427, w428, w429, w430, w431, w432, w433⟩ := hQ422
    have N422 := Fr.app N408 N422q
    have K434 := K419.trans K422q (fun x q => nomatch q)
    have C435 : CHv Z consts_1 s.vm T422.heap := CHv.keep K422q sf0 C420
    have R436 : CHr Z consts_1 s.vm h0 s.vm T422.heap := R421.trans (CHr.keep K422q sf0 C420)
    have O438 := O423.keep K422q all0
    obtain ⟨_, T437, L437, X437, hQ437, st437⟩ := own_cS 8 31 [] 65 #[iv p1, iv p2, iv p3, iv p4, iv p5, iv (p1 &&& (3 : Int32)), iv (ab0_ p2), iv (ab1_ p3), iv (ab2_ p4), rv b409, rv b424, iv (ab3_ p5), .unset, .unset, .unset] X422 hx hZ hown (w40_ hw) (w41_ hw) (w6_ hw) (w42_ hw) (rm8 l Z a0 hw G1 (ab3_ p5) T422.heap n0 O438 O2 P5 (own_lat7 p5).2) pd6 hml.symm (hb hby at_65) rfl rfl rfl rfl rfl (by decide)
    obtain ⟨b439, b440, c441_, rfl, N437q, K437q, w442, w443, w444, w445, w446, w447, w448⟩ := hQ437
    have N437 := Fr.app N422 N437q
    have K449 := K434.trans K437q (fun x q => nomatch q)
    have C450 : CHv Z consts_1 s.vm T437.heap := CHv.keep K437q sf0 C435
    have R451 : CHr Z consts_1 s.vm h0 s.vm T437.heap := R436.trans (CHr.keep K437q sf0 C435)
    have hp453 : ∀ c ∈ ([(ab3_ p5)] : List Int32), ¬ c < 0 ∧ ¬ (255 : Int32) < c := (List.forall_mem_cons.mpr ⟨(own_lat7 p5), (fun _ q => nomatch q)⟩)
    have O454 := O438.keep K437q all0
    obtain ⟨_, T452, L452, X452, hQ452, st452⟩ := own_cS 9 33 [] 72 #[iv p1, iv p2, iv p3, iv p4, iv p5, iv (p1 &&& (3 : Int32)), iv (ab0_ p2), iv (ab1_ p3), iv (ab2_ p4), rv b409, rv b424, iv (ab3_ p5), rv b439, .unset, .unset] X437 hx hZ hown (w54_ hw) (w55_ hw) (w56_ hw) (w57_ hw) (rm11 l Z a0 hw G1 G3 b439 b440 (ab3_ p5) c441_ T437.heap n0 O454 O2 P5 O4 rG3 w445 w447 w446 hp453 w448) pd10 hml.symm (hb hby at_72) rfl rfl rfl rfl rfl (by decide)
    obtain ⟨b455, rfl, N452q, K452q, w456, w457⟩ := hQ452
    have N452 := Fr.app N437 N452q
    have K458 := K449.trans K452q (fun x q => nomatch q)
    have C459 : CHv Z consts_1 s.vm T452.heap := CHv.keep K452q sf0 C450
    have R460 : CHr Z consts_1 s.vm h0 s.vm T452.heap := R451.trans (CHr.keep K452q sf0 C450)
    have E462_ := w415.keep K422q
    have E463_ := E462_.keep K437q
    have E464_ := E463_.keep K452q
    have O465 := O454.keep K452q all0
    have hk466' : _ ≤ T452.heap.size := (Nat.le_trans (Nat.le_trans (Nat.le_trans (Nat.le_trans hk0 K408q.1) K422q.1) K437q.1) K452q.1)
    obtain ⟨_, T461, L461, X461, hQ461, hS461, hZ461, ho461, CR461, st461⟩ := own_cbS 9 33 3 24 12 57 (callSS X452 hx (y := Y14_) hown (mvT hZ (w99_ hw)) (mvT hZ (w100_ hw)) (mvT hZ (w101_ hw)) (mvT hZ (w102_ hw)) (by decide) (backOfSH (W := 0) (EL := consts_1) (s := s) (rm14 l Z a0 hw  b409 T452.heap n0 O465 E464_) hZ (w102_ hw) (w101_ hw) (lE rfl) (lE rfl) hEL C459) (g := (mkF m 79 #[iv p1, iv p2, iv p3, iv p4, iv p5, iv (p1 &&& (3 : Int32)), iv (ab0_ p2), iv (ab1_ p3), iv (ab2_ p4), rv b409, rv b424, iv (ab3_ p5), rv b439, rv b455, .unset] [.ref b409])) rfl hml.symm (argsL := [.ref b409]) (rest := []) (lenOf pd13 rfl) rfl (own_hw rfl) (hb hby at_79) (fun _ _ => ⟨rfl, rfl, (lE rfl : 9 + 3 ≤ _), (lE rfl : 33 + 24 ≤ _)⟩)) rfl rfl hS0 hk466' hZ hown
    obtain ⟨b467, rfl, N461q, K461q, w468, w469, w470, w471, w472, w473⟩ := hQ461
    have N461 := Fr.app N452 N461q
    have hk461 : T461.heap.size ≤ T461.heap.size := Nat.le_refl _
    have K474 := K458.trans K461q (fun x q => nomatch q)
    have R476 := R460.trans CR461
    have O478 := O465.keep K461q all0
    obtain ⟨_, T477, L477, X477, hQ477, st477⟩ := own_cV 12 57 [] 86 #[iv p1, iv p2, iv p3, iv p4, iv p5, iv (p1 &&& (3 : Int32)), iv (ab0_ p2), iv (ab1_ p3), iv (ab2_ p4), rv b409, rv b424, iv (ab3_ p5), rv b439, rv b455, rv b467] X461 hx hZ461 ho461 w469 (w123_ hw) (w124_ hw) (notFace_of_selects (args := #[]) (mvT hZ461 (w126_ hw))) (w126_ hw) (w125_ hw) (w101_ hw) (w127_ hw) (rm15 l Z a0 hw  b467 b409 T461.heap n0 O478 w471) pd14 hml.symm (hb hby at_86) rfl rfl rfl rfl rfl (by decide)
    obtain ⟨rfl, N477q, e477q⟩ := hQ477
    have N477 := Fr.app N461 N477q
    obtain ⟨_, T479, L479, X479, hQ479, st479⟩ := own_cV 12 57 [] 94 #[iv p1, iv p2, iv p3, iv p4, iv p5, iv (p1 &&& (3 : Int32)), iv (ab0_ p2), iv (ab1_ p3), iv (ab2_ p4), rv b409, rv b424, iv (ab3_ p5), rv b439, rv b455, rv b467] X477 hx hZ461 ho461 w469 (w128_ hw) (w129_ hw) (notFace_of_selects (args := #[]) (mvT hZ461 (w131_ hw))) (w131_ hw) (w130_ hw) (w101_ hw) (w132_ hw) (rm16 l Z a0 hw  b467 T461.heap n0 O478 w472) pd14 hml.symm (hb hby at_94) e477q rfl rfl rfl rfl (by decide)
    obtain ⟨rfl, N479q, e479q⟩ := hQ479
    have N479 := Fr.app N477 N479q
    obtain ⟨_, T480, L480, X480, hQ480, st480⟩ := own_cV 12 57 [] 102 #[iv p1, iv p2, iv p3, iv p4, iv p5, iv (p1 &&& (3 : Int32)), iv (ab0_ p2), iv (ab1_ p3), iv (ab2_ p4), rv b409, rv b424, iv (ab3_ p5), rv b439, rv b455, rv b467] X479 hx hZ461 ho461 w469 (w133_ hw) (w134_ hw) (notFace_of_selects (args := #[]) (mvT hZ461 (w136_ hw))) (w136_ hw) (w135_ hw) (w101_ hw) (w137_ hw) (rm17 l Z a0 hw  b467 T461.heap n0 O478 w470) pd15 hml.symm (hb hby at_102) e479q rfl rfl rfl rfl (by decide)
    obtain ⟨rfl, N480q, e480q⟩ := hQ480
    have N480 := Fr.app N479 N480q
    obtain ⟨_, T481, L481, X481, hQ481, st481⟩ := own_cV 12 57 [.ref b409] 112 #[iv p1, iv p2, iv p3, iv p4, iv p5, iv (p1 &&& (3 : Int32)), iv (ab0_ p2), iv (ab1_ p3), iv (ab2_ p4), rv b409, rv b424, iv (ab3_ p5), rv b439, rv b455, rv b467] X480 hx hZ461 ho461 w469 (w138_ hw) (w139_ hw) (notFace_of_selects (args := #[]) (mvT hZ461 (w141_ hw))) (w141_ hw) (w140_ hw) (w101_ hw) (w142_ hw) (rm18 l Z a0 hw  b467 b409 T461.heap n0 O478 w471) pd15 hml.symm (hb hby at_112) e480q rfl rfl rfl rfl (by decide)
    obtain ⟨rfl, N481q, e481q⟩ := hQ481
    have N481 := Fr.app N480 N481q
    have E483_ := E464_.keep K461q
    obtain ⟨_, T482, L482, X482, hQ482, st482⟩ := own_cV 12 57 [] 115 #[iv p1, iv p2, iv p3, iv p4, iv p5, iv (p1 &&& (3 : Int32)), iv (ab0_ p2), iv (ab1_ p3), iv (ab2_ p4), rv b409, rv b424, iv (ab3_ p5), rv b439, rv b455, rv b467] X481 hx hZ461 ho461 E483_ (w143_ hw) (w144_ hw) (notFace_of_selects (args := #[]) (mvT hZ461 (w146_ hw))) (w146_ hw) (w145_ hw) (w6_ hw) (w147_ hw) (rm19 l Z a0 hw  b409 T461.heap n0 O478 ) pd16 hml.symm (hb hby at_115) e481q rfl rfl rfl rfl (by decide)
    obtain ⟨rfl, N482q, e482q⟩ := hQ482
    have N482 := Fr.app N481 N482q
    obtain ⟨_, T484, L484, X484, hQ484, st484⟩ := own_cV 12 57 [] 123 #[iv p1, iv p2, iv p3, iv p4, iv p5, iv (p1 &&& (3 : Int32)), iv (ab0_ p2), iv (ab1_ p3), iv (ab2_ p4), rv b409, rv b424, iv (ab3_ p5), rv b439, rv b455, rv b467] X482 hx hZ461 ho461 w469 (w148_ hw) (w149_ hw) (notFace_of_selects (args := #[]) (mvT hZ461 (w151_ hw))) (w151_ hw) (w150_ hw) (w101_ hw) (w152_ hw) (rm20 l Z a0 hw  b467 T461.heap n0 O478 w473) pd17 hml.symm (hb hby at_123) e482q rfl rfl rfl rfl (by decide)
    obtain ⟨rfl, N484q, e484q⟩ := hQ484
    have N484 := Fr.app N482 N484q
    have F486_ := w416.keep K422q nin0
    have F487_ := F486_.keep K437q nin0
    have F488_ := F487_.keep K452q nin0
    have F489_ := F488_.keep K461q nin0
    have hp490 : ∀ c ∈ ([(ab0_ p2), (ab1_ p3), (ab2_ p4)] : List Int32), ¬ c < 0 ∧ ¬ (255 : Int32) < c := (List.forall_mem_cons.mpr ⟨(own_lat p2), (List.forall_mem_cons.mpr ⟨(own_lat p3), (List.forall_mem_cons.mpr ⟨(own_lat p4), (fun _ q => nomatch q)⟩)⟩)⟩)
    have F491_ := w417.keep K422q nin0
    have F492_ := F491_.keep K437q nin0
    have F493_ := F492_.keep K452q nin0
    have F494_ := F493_.keep K461q nin0
    have A495_ := w418.keep K422q nin0
    have A496_ := A495_.keep K437q nin0
    have A497_ := A496_.keep K452q nin0
    have A498_ := A497_.keep K461q nin0
    obtain ⟨cq485, kq485, q485a, q485b, q485c⟩ := isOf hZ461 e484q w469
    obtain ⟨_, T485, L485, X485, hQ485, hS485, hZ485, ho485, CR485, st485⟩ := own_cbS 12 57 8 50 20 107 (X484.virtualBackS hx (y := Y41_) (z := Y41_) ho461 (mvT hZ461 (w153_ hw)) (mvT hZ461 (w154_ hw)) (notFace_of_selects (args := #[]) (mvT hZ461 (w156_ hw))) (mvT hZ461 (w156_ hw)) (mvT hZ461 (w155_ hw)) (by decide) (backOfSH (W := 1) (EL := consts_1) (s := s) (rm118 l Z a0 hw G1 b467 b409 b410 (ab0_ p2) (ab1_ p3) (ab2_ p4) c411_ T461.heap n0 O478 O2 P5 w471 w472 E483_ F489_ F494_ hp490 A498_) hZ461 (w157_ hw) (w101_ hw) (lE rfl) (lE rfl) hEL CR461.1) q485a q485c (g := (mkF m 133 #[iv p1, iv p2, iv p3, iv p4, iv p5, iv (p1 &&& (3 : Int32)), iv (ab0_ p2), iv (ab1_ p3), iv (ab2_ p4), rv b409, rv b424, iv (ab3_ p5), rv b439, rv b455, rv b467] [.ref b467, .ref b424])) rfl hml.symm (Steps.refl _) (argsL := []) (rest := [.ref b424]) (lenOf pd15 rfl) rfl (own_hw rfl) (hb hby at_133) (fun _ _ => ⟨rfl, e484q, (lE rfl : 12 + 8 ≤ _), (lE rfl : 57 + 50 ≤ _)⟩)) rfl rfl hS461 (by rw [e484q]; exact hk461) hZ461 ho461
    obtain ⟨b499, b500, c501_, rfl, N485q, K485q, w502, w503, w504, w505, w506, w507, w508⟩ := hQ485
    have N485 := Fr.app N484 N485q
    have hk485 : T485.heap.size ≤ T485.heap.size := Nat.le_refl _
    have K509 := K474.trans K485q (fun x q => nomatch q)
    have R511 := R476.trans CR485
    have hp513 : ∀ c ∈ ([123, (ab0_ p2), (ab1_ p3), (ab2_ p4), 42, 125] : List Int32), ¬ c < 0 ∧ ¬ (255 : Int32) < c := (List.forall_mem_cons.mpr ⟨(by decide), (List.forall_mem_cons.mpr ⟨(own_lat p2), (List.forall_mem_cons.mpr ⟨(own_lat p3), (List.forall_mem_cons.mpr ⟨(own_lat p4), (List.forall_mem_cons.mpr ⟨(by decide), (List.forall_mem_cons.mpr ⟨(by decide), (fun _ q => nomatch q)⟩)⟩)⟩)⟩)⟩)⟩)
    have hp514 : ∀ c ∈ ([123, (ab0_ p2), (ab1_ p3), (ab2_ p4), 42, 125] : List Int32), ¬ c < 0 ∧ ¬ (255 : Int32) < c := (List.forall_mem_cons.mpr ⟨(by decide), (List.forall_mem_cons.mpr ⟨(own_lat p2), (List.forall_mem_cons.mpr ⟨(own_lat p3), (List.forall_mem_cons.mpr ⟨(own_lat p4), (List.forall_mem_cons.mpr ⟨(by decide), (List.forall_mem_cons.mpr ⟨(by decide), (fun _ q => nomatch q)⟩)⟩)⟩)⟩)⟩)⟩)
    have E515_ := w430.keep K437q
    have E516_ := E515_.keep K452q
    have E517_ := E516_.keep K461q
    have E518_ := E517_.keep K485q
    have F519_ := w432.keep K437q nin0
    have F520_ := F519_.keep K452q nin0
    have F521_ := F520_.keep K461q nin0
    have F522_ := F521_.keep K485q nin0
    have F523_ := w431.keep K437q nin0
    have F524_ := F523_.keep K452q nin0
    have F525_ := F524_.keep K461q nin0
    have F526_ := F525_.keep K485q nin0
    have A527_ := w433.keep K437q nin0
    have A528_ := A527_.keep K452q nin0
    have A529_ := A528_.keep K461q nin0
    have A530_ := A529_.keep K485q nin0
    have hcd531 : StrChars.Road.CodA ([123, (ab0_ p2), (ab1_ p3), (ab2_ p4), 42, 125] : List Int32) 0 (6 : Int32) ((([123, (ab0_ p2), (ab1_ p3), (ab2_ p4), 42, 125] : List Int32).map (fun c => c.toInt8.toInt32)).map Value.int) := StrChars.Road.codOf (n := 6) rfl (fun x hx => (hp513 x hx).2)
    have hbd531 : ∀ x ∈ ([123, (ab0_ p2), (ab1_ p3), (ab2_ p4), 42, 125] : List Int32), ¬ x < 0 ∧ ¬ (65535 : Int32) < x := own_up _ hp513
    have hcd532 : StrChars.Road.CodA ([123, (ab0_ p2), (ab1_ p3), (ab2_ p4), 42, 125] : List Int32) 0 (6 : Int32) [.int 123, (.int (((ab0_ p2)).toInt8.toInt32)), (.int (((ab1_ p3)).toInt8.toInt32)), (.int (((ab2_ p4)).toInt8.toInt32)), .int 42, .int 125] := StrChars.Road.codOf (n := 6) rfl (fun x hx => (hp514 x hx).2)
    have hbd532 : ∀ x ∈ ([123, (ab0_ p2), (ab1_ p3), (ab2_ p4), 42, 125] : List Int32), ¬ x < 0 ∧ ¬ (65535 : Int32) < x := own_up _ hp514
    have O533 := O478.keep K485q all0
    obtain ⟨cq512, kq512, q512a, q512b, q512c⟩ := isOf hZ485 rfl E518_
    obtain ⟨_, T512, L512, X512, hQ512, st512⟩ := own_cb0 20 107 0 0 20 107 (X485.virtualBack hx (y := Y19_) (z := Y19_) ho485 (mvT hZ485 (w143_ hw)) (mvT hZ485 (w144_ hw)) (notFace_of_selects (args := #[]) (mvT hZ485 (w146_ hw))) (mvT hZ485 (w146_ hw)) (mvT hZ485 (w145_ hw)) (by decide) (StrChars.Road.eqW (s := s.setVm T485.vm) (W := 0) hZ485 (own_wq hw) (kI := 4) (w5_ hw) E518_ F522_ F526_ A530_ hcd531 hbd531 (lE rfl) w505 w507 w506 w508 hcd532 hbd532 (lE rfl) (O2.ext O533.2) P5 (lE rfl) (lE rfl)) q512a q512c (g := (mkF m 136 #[iv p1, iv p2, iv p3, iv p4, iv p5, iv (p1 &&& (3 : Int32)), iv (ab0_ p2), iv (ab1_ p3), iv (ab2_ p4), rv b409, rv b424, iv (ab3_ p5), rv b439, rv b455, rv b467] [.ref b499, .ref b424])) rfl hml.symm (Steps.refl _) (argsL := [.ref b499]) (rest := []) (lenOf pd16 rfl) rfl (own_hw rfl) (hb hby at_136) (fun _ _ => ⟨rfl, rfl, (lE rfl : 20 + 0 ≤ _), (lE rfl : 107 + 0 ≤ _)⟩)) rfl rfl
    dsimp only [Pt.U, Pt.locs, Pt.cells, Pt.slots] at hQ512
    obtain ⟨hv512, rfl, e512q⟩ := hQ512
    rcases hv512 with ⟨rfl, -⟩ | ⟨-, hq512⟩
    rotate_left
    exact absurd (rfl : ([123, (ab0_ p2), (ab1_ p3), (ab2_ p4), 42, 125] : List Int32) = ([123, (ab0_ p2), (ab1_ p3), (ab2_ p4), 42, 125] : List Int32)) hq512
    have N512 := Fr.app N485 (Fr.nil n0)
    have F535_ := w472.keep K485q nin0
    have F536_ := w473.keep K485q nin0
    have E537_ := w469.keep K485q
    obtain ⟨_, T534, L534, X534, hQ534, st534⟩ := own_cV 20 107 [.ref b439] 150 #[iv p1, iv p2, iv p3, iv p4, iv p5, iv (p1 &&& (3 : Int32)), iv (ab0_ p2), iv (ab1_ p3), iv (ab2_ p4), rv b409, rv b424, iv (ab3_ p5), rv b439, rv b455, rv b467] X512 hx hZ485 ho485 E537_ (w264_ hw) (w265_ hw) (notFace_of_selects (args := #[]) (mvT hZ485 (w267_ hw))) (w267_ hw) (w266_ hw) (w101_ hw) (w268_ hw) (rm53 l Z a0 hw  b467 b439 b455 T485.heap n0 O533 F535_ F536_ E537_) pd33 hml.symm (hb hby at_150) e512q rfl rfl rfl rfl (by decide)
    obtain ⟨rfl, N534q, e534q⟩ := hQ534
    have N534 := Fr.app N512 N534q
    have E539_ := w445.keep K452q
    have E540_ := E539_.keep K461q
    have E541_ := E540_.keep K485q
    obtain ⟨_, T538, L538, X538, hQ538, st538⟩ := own_cV 20 107 [] 153 #[iv p1, iv p2, iv p3, iv p4, iv p5, iv (p1 &&& (3 : Int32)), iv (ab0_ p2), iv (ab1_ p3), iv (ab2_ p4), rv b409, rv b424, iv (ab3_ p5), rv b439, rv b455, rv b467] X534 hx hZ485 ho485 E541_ (w143_ hw) (w144_ hw) (notFace_of_selects (args := #[]) (mvT hZ485 (w146_ hw))) (w146_ hw) (w145_ hw) (w6_ hw) (w147_ hw) (rm19 l Z a0 hw  b439 T485.heap n0 O533 ) pd16 hml.symm (hb hby at_153) e534q rfl rfl rfl rfl (by decide)
    obtain ⟨rfl, N538q, e538q⟩ := hQ538
    have N538 := Fr.app N534 N538q
    refine own_lvW X538 Bd.notSynchronized hS485 hk485 (v := (some (.int 1))) (fun h => by rw [Bd.returns] at h; cases h) e538q hh ⟨rfl, N538⟩ (R511.trans (CHv.at X538 hZ485 hEL CR485.1)) (lE rfl) (lE rfl) (fun fs hr => pr2 _ (by
     show Sx p e below s₁ m 37 #[iv p1, iv p2, iv p3, iv p4, iv p5, iv (p1 &&& (3 : Int32)), iv (ab0_ p2), iv (ab1_ p3), iv (ab2_ p4), .unset, .unset, .unset, .unset, .unset, .unset] [(.int (ab2_ p4)), (.int (ab1_ p3)), (.int (ab0_ p2)), (.int (p1 &&& (3 : Int32)))] _
     refine st408 _ ?_
     refine XS.astore X408.here hx rfl (hb hby at_40) rfl rfl (l' := #[iv p1, iv p2, iv p3, iv p4, iv p5, iv (p1 &&& (3 : Int32)), iv (ab0_ p2), iv (ab1_ p3), iv (ab2_ p4), rv b409, .unset, .unset, .unset, .unset, .unset]) rfl ?_
     refine zi X408 Bd at_42 rfl ?_
     refine zi X408 Bd at_44 rfl ?_
     refine zi X408 Bd at_46 rfl ?_
     refine zi X408 Bd at_48 rfl ?_
     refine st422 _ ?_
     refine XS.astore X422.here hx rfl (hb hby at_53) rfl rfl (l' := #[iv p1, iv p2, iv p3, iv p4, iv p5, iv (p1 &&& (3 : Int32)), iv (ab0_ p2), iv (ab1_ p3), iv (ab2_ p4), rv b409, rv b424, .unset, .unset, .unset, .unset]) rfl ?_
     refine zi X422 Bd at_55 rfl ?_
     refine zd X422 Bd at_57 ?_
     refine XS.iand X422.here hx rfl (hb hby at_59) rfl ?_
     refine XS.i2c X422.here hx rfl (hb hby at_60) rfl ?_
     refine zs X422 Bd at_61 (l' := #[iv p1, iv p2, iv p3, iv p4, iv p5, iv (p1 &&& (3 : Int32)), iv (ab0_ p2), iv (ab1_ p3), iv (ab2_ p4), rv b409, rv b424, iv (ab3_ p5), .unset, .unset, .unset]) rfl ?_
     refine zi X422 Bd at_63 rfl ?_
     refine st437 _ ?_
     refine XS.astore X437.here hx rfl (hb hby at_68) rfl rfl (l' := #[iv p1, iv p2, iv p3, iv p4, iv p5, iv (p1 &&& (3 : Int32)), iv (ab0_ p2), iv (ab1_ p3), iv (ab2_ p4), rv b409, rv b424, iv (ab3_ p5), rv b439, .unset, .unset]) rfl ?_
     refine za X437 Bd at_70 rfl rfl ?_
     refine st452 _ ?_
     refine XS.astore X452.here hx rfl (hb hby at_75) rfl rfl (l' := #[iv p1, iv p2, iv p3, iv p4, iv p5, iv (p1 &&& (3 : Int32)), iv (ab0_ p2), iv (ab1_ p3), iv (ab2_ p4), rv b409, rv b424, iv (ab3_ p5), rv b439, rv b455, .unset]) rfl ?_
     refine za X452 Bd at_77 rfl rfl ?_
     refine st461.trans ?_
     refine XS.astore X461.here hx rfl (hb hby at_82) rfl rfl (l' := #[iv p1, iv p2, iv p3, iv p4, iv p5, iv (p1 &&& (3 : Int32)), iv (ab0_ p2), iv (ab1_ p3), iv (ab2_ p4), rv b409, rv b424, iv (ab3_ p5), rv b439, rv b455, rv b467]) rfl ?_
     refine za X461 Bd at_84 rfl rfl ?_
     refine st477 _ ?_
     refine zo X477 Bd at_89 (XT.i0_eq_f ((by decide) : ¬ ((1 : Int32) = (0 : Int32)))) ?_
     show Sx p e below T477 m 92 #[iv p1, iv p2, iv p3, iv p4, iv p5, iv (p1 &&& (3 : Int32)), iv (ab0_ p2), iv (ab1_ p3), iv (ab2_ p4), rv b409, rv b424, iv (ab3_ p5), rv b439, rv b455, rv b467] [] _
     refine za X477 Bd at_92 rfl rfl ?_
     refine st479 _ ?_
     refine zo X479 Bd at_97 (XT.i0_eq_f ((by decide) : ¬ ((1 : Int32) = (0 : Int32)))) ?_
     refine za X479 Bd at_100 rfl rfl ?_
     refine st480 _ ?_
     refine XS.ifnonnullNo X480.here hx rfl (hb hby at_105) rfl ?_
     refine za X480 Bd at_108 rfl rfl ?_
     refine za X480 Bd at_110 rfl rfl ?_
     refine st481 _ ?_
     refine st482 _ ?_
     refine zo X482 Bd at_118 (XT.i0_eq_f ((by decide) : ¬ ((1 : Int32) = (0 : Int32)))) ?_
     refine za X482 Bd at_121 rfl rfl ?_
     refine st484 _ ?_
     refine XS.ifnonnullNo X484.here hx rfl (hb hby at_126) rfl ?_
     refine za X484 Bd at_129 rfl rfl ?_
     refine za X484 Bd at_131 rfl rfl ?_
     refine st485.trans ?_
     refine st512.trans ?_
     refine zo X512 Bd at_139 (XT.i0_eq_f ((by decide) : ¬ ((1 : Int32) = (0 : Int32)))) ?_
     refine za X512 Bd at_142 rfl rfl ?_
     refine za X512 Bd at_144 rfl rfl ?_
     refine za X512 Bd at_146 rfl rfl ?_
     refine za X512 Bd at_148 rfl rfl ?_
     refine st534 _ ?_
     refine st538 _ ?_
     show Sx p e below T538 m 156 #[iv p1, iv p2, iv p3, iv p4, iv p5, iv (p1 &&& (3 : Int32)), iv (ab0_ p2), iv (ab1_ p3), iv (ab2_ p4), rv b409, rv b424, iv (ab3_ p5), rv b439, rv b455, rv b467] [.int 1] _
     refine zo X538 Bd at_156 (XT.i0_eq_f ((by decide) : ¬ ((1 : Int32) = (0 : Int32)))) ?_
     refine zc X538 Bd at_159 ?_
     refine zg (pc' := 164) X538 Bd at_160 rfl ?_
     exact retN X538 hx (t := .boolean) Bd.returns (by simp) (hb hby at_164) hr))
theorem comes_1 {Post : Tables → Env → Array Value → State → Outcome → State → Prop} (hpost : ∀ tb e args s v u, (limb_1_1.after args s (.returned v) u = true ∧ limb_1_2.after args s (.returned v) u = true ∧ True) → ReturnedEndW s (.returned v) u (Jvm.fieldLocs frame_1_writes args s ++ Jvm.arrayLocs frame_1_arrays args s ++ Jvm.staticLocs frame_1_statics s) 48 4352 → Post tb e args s (.returned v) u) :
    ArmFor flags0 classFile x code maxLocals ret World_1 tables_1 room_1 Calls_1 rest_1 Pre_1 Post := by
  intro l hfl _ _ p e ha hc hk s m args below hf hA hF happ hP
  obtain ⟨hcalls, hrest, hpre⟩ := hP
  obtain ⟨-, -, -, hnamed, -, -, -, hat⟩ := (Spec.applies_iff hf).mp happ
  obtain ⟨hg, hn⟩ := and_e (Cond.before_iff.mp (show (Jvm.Cond.and given_1 narrow_1).before args s = true from hpre))
  obtain ⟨hg0, hg1⟩ := and_e hg
  obtain ⟨ha1, hg2⟩ := and_e hg1
  obtain ⟨ha2, hg3⟩ := and_e hg2
  obtain ⟨ha3, hg4⟩ := and_e hg3
  obtain ⟨ha4, hg5⟩ := and_e hg4
  obtain ⟨w1, w2, w3, w4, w5, rfl⟩ : ∃ w1 w2 w3 w4 w5 : Value, args = #[w1, w2, w3, w4, w5] := by
    have hs : args.size = 5 := by simpa [Cond.value, given_1] using hg0
    obtain ⟨L⟩ := args
    match L, hs with
    | [w1, w2, w3, w4, w5], _ => exact ⟨w1, w2, w3, w4, w5, rfl⟩
  have hw := fun d (hd : d ∈ tables_1) => atoms_spec (ws := Jvm.Cond.code x code maxLocals ret :: tables_1) hat d (List.mem_cons_of_mem _ hd)
  obtain ⟨hsets, hown0⟩ := atoms_of _ (rest_1_c_eq ▸ (show rest_1_c.before _ s = true from hrest))
  have hfit : Fit s := fun {y c} hc i hi => by
    obtain ⟨ha, rfl⟩ := Array.getElem?_eq_some_iff.mp hc
    have q := List.all_eq_true.mp ((Array.all_eq_true_iff_forall_mem.mp hF) _ (Array.getElem_mem ha)) i (List.mem_range.mpr hi)
    simpa [Array.getElem?_eq_getElem hi] using q
  obtain ⟨i1, ei1⟩ := is_v ha1
  obtain rfl : w1 = (.int i1) := Option.some.inj ei1
  obtain ⟨i2, ei2⟩ := is_v ha2
  obtain rfl : w2 = (.int i2) := Option.some.inj ei2
  obtain ⟨i3, ei3⟩ := is_v ha3
  obtain rfl : w3 = (.int i3) := Option.some.inj ei3
  obtain ⟨i4, ei4⟩ := is_v ha4
  obtain rfl : w4 = (.int i4) := Option.some.inj ei4
  obtain ⟨i5, ei5⟩ := is_v hg5
  obtain rfl : w5 = (.int i5) := Option.some.inj ei5
  have nCS := not_v (Cond.before_iff.mp (hsets _ (mI 2 rfl)))
  obtain ⟨G1, eCS⟩ := is_v (Cond.before_iff.mp (hsets _ (mI 1 rfl)))
  have O2 : Sta s s.heap "java/lang/String" "COMPACT_STRINGS" "Z" (.int G1) := Sta.start eCS (Or.inl (hsets _ (mI 0 rfl)))
  have P5 : ¬ (G1 = (0 : Int32)) := gotF (Cond.eq_ints eCS (Term.int_eval (0))) nCS
  obtain ⟨G3, eSF, rG3⟩ := isR_v (Cond.before_iff.mp (hsets _ (mI 8 rfl)))
  have O4 : Sta s s.heap "jdk/internal/util/Preconditions" "SIOOBE_FORMATTER" "Ljava/util/function/BiFunction;" G3 := Sta.start eSF (Or.inl (hsets _ (mI 7 rfl)))
  have hCH : CHv s consts_1 s.vm s.heap := CHv.start (own_EW hw) (fun p hp => hcalls.1 p hp) (hsets _ (mI 2 rfl)) (w19_ hw) (w5_ hw)
  obtain ⟨n, o, h1, h2, h3, _, L, rfl, ⟨rfl, N⟩, -, hq⟩ := rm0 l s _ hw tables_1 G1 G3 i1 i2 i3 i4 i5 s.heap s.heap.size (Old.start s) O2 P5 O4 rG3 p e ha hc hk s m _ below hf ((Spec.applies_iff_loose hf).mp happ).1 ⟨rfl, State.Warmed39.refl s, rfl, hCH⟩ trivial
  refine ⟨n, _, h1, h2, h3, hpost _ _ _ _ _ _ ⟨Cond.after_iff.mpr rfl, Cond.after_iff.mpr (eq_i res_at (Term.int_eval (1)) rfl), trivial⟩ ⟨hq.1, hq.2.1, hq.2.2.1, (hq.2.2.2.sift fun y hy => Or.inr (N y hy)).mono (by decide) (by decide)⟩⟩
theorem main_1_1 : Claimed_1_1 := comes_1 fun _ _ _ _ _ _ h hF => ⟨h.1, hF⟩
theorem main_1_2 : Claimed_1_2 := comes_1 fun _ _ _ _ _ _ h hF => ⟨h.2.1, hF⟩
end Jvm.Pilot.@@N@@
namespace Jvm.Pilot.@@N@@
open Jvm Jvm.ClassFile Sem Op Lib Jvm.Free Jvm.Stand Jvm.Pilot.@@N@@.Jvm.D
/-! MADE BY PROGRAM (witnessworld.py) out of the Statement's table words and the real class files: 28 classes; the members and pool entries that the words name. The judged class is class 1, her method 3. -/
namespace start1
open Jvm.ClassFile
def u (s : String) : CpInfo := .utf8 (stringToUtf16 s)
/-- a pool by its gaps: so many unusable entries, then the entry; so many at the end -/
def gap : Nat → List CpInfo → List CpInfo
  | 0, r => r
  | n + 1, r => .unusable :: gap n r
def poolList (es : List (Nat × CpInfo)) (last : Nat) : List CpInfo := es.foldr (fun e r => gap e.1 (e.2 :: r)) (gap last [])
def pool (es : List (Nat × CpInfo)) (last : Nat) : Array CpInfo := ⟨poolList es last⟩
def fileOf (pool : Array CpInfo) (this : Nat) (attrs : Array Attribute := #[]) (ms : Array MethodInfo := #[]) (fl : Nat := 33) (sup : Nat := 0) (ifs : Array Nat := #[]) (fds : Array FieldInfo := #[]) : ClassFile where
  minorVersion := 0
  majorVersion := 65
  constantPool := pool
  accessFlags := fl
  thisClass := this
  superClass := sup
  interfaces := ifs
  fields := fds
  methods := ms
  attributes := attrs
def plain (name : String) (sup : Option ClassId) : Class where
  name := name
  kind := .ordinary
  loader := none
  accessFlags := 33
  super := sup
  interfaces := #[]
  cf := none
  fields := #[]
  methods := #[]
  instanceTypes := #[]
  staticTypes := #[]
  resolved := #[]
  callSites := []
  init := .initialized
  statics := none
  mirror := none

def pool0 : Array CpInfo := pool [(5, u "<init>"), (0, u "()V"), (1, .class_ 10), (1, u "java/lang/Object")] 113

def k0c0 : Code := { maxStack := 0, maxLocals := 1, code := object_method_1_code, exceptionTable := #[], attributes := #[] }
def k0m0 : Method := { name := "<init>", desc := "()V", sig := { parameters := [], returnType := none }, accessFlags := 1, code := some k0c0 }
/-- java/lang/Object -/
def k0 : Class := { plain "java/lang/Object" none with
  accessFlags := 33
  interfaces := #[]
  cf := some (fileOf pool0 8 #[] #[⟨1, 5, 6, #[]⟩] 33 0 #[] #[])
  fields := #[]
  methods := #[k0m0]
  instanceTypes := #[]
  staticTypes := #[]
  resolved := Array.replicate 124 none
  statics := none }

def pool1 : Array CpInfo := pool [(2, .class_ 4), (1, u "java/lang/Object"), (0, u "<init>"), (0, u "()V"), (0, .class_ 8), (0, u "java/lang/String"), (0, .methodref 7 10), (0, .nameAndType 5 11), (0, u "([C)V"), (0, .methodref 13 14), (0, .class_ 15), (0, .nameAndType 16 17), (0, u "com/example/echoes_to_canon/echoestocanon/UrlKeysRestPinLaw"), (0, u "nameOf"), (0, u "(ICCC)Ljava/lang/String;"), (0, .methodref 13 19), (0, .nameAndType 20 17), (0, u "shownOf"), (0, .methodref 7 22), (0, .nameAndType 23 24), (0, u "valueOf"), (0, u "(C)Ljava/lang/String;"), (0, .methodref 26 27), (0, .class_ 28), (0, .nameAndType 29 30), (0, u "com/example/echoes_to_canon/echoestocanon/HttpUrl$CharClass"), (0, u "of"), (0, u "(Ljava/lang/String;)Lcom/example/echoes_to_canon/echoestocanon/HttpUrl$CharClass;"), (0, .methodref 32 33), (0, .class_ 34), (0, .nameAndType 35 36), (0, u "com/example/echoes_to_canon/echoestocanon/UrlKeys$Value"), (0, u "rest"), (0, u "(Ljava/lang/String;)Lcom/example/echoes_to_canon/echoestocanon/UrlKeys$Value;"), (0, .methodref 32 38), (0, .nameAndType 39 40), (0, u "isVariable"), (0, u "()Z"), (0, .methodref 32 42), (0, .nameAndType 43 40), (0, u "isRun"), (0, .methodref 32 45), (0, .nameAndType 46 47), (0, u "getText"), (0, u "()Ljava/lang/String;"), (0, .methodref 32 49), (0, .nameAndType 50 47), (0, u "getVariable"), (0, .methodref 7 52), (0, .nameAndType 53 54), (0, u "equals"), (0, u "(Ljava/lang/Object;)Z"), (0, .methodref 32 56), (0, .nameAndType 57 58), (0, u "getConversion"), (0, u "()Lcom/example/echoes_to_canon/echoestocanon/Conversion;"), (0, .methodref 32 60), (0, .nameAndType 61 47), (0, u "toString"), (0, .methodref 32 63), (0, .nameAndType 64 65), (0, u "copied"), (0, u "(Ljava/lang/String;Lcom/example/echoes_to_canon/echoestocanon/HttpUrl$CharClass;)Ljava/lang/String;"), (3, u "law"), (0, u "(IIIII)Z")] 9

def k1m0 : Method := { name := "<init>", desc := "()V", sig := { parameters := [], returnType := none }, accessFlags := 1, code := none }
def k1c1 : Code := { maxStack := 6, maxLocals := 4, code := method_2_code, exceptionTable := #[], attributes := #[] }
def k1m1 : Method := { name := "nameOf", desc := "(ICCC)Ljava/lang/String;", sig := { parameters := [.int, .char, .char, .char], returnType := some (.object "java/lang/String") }, accessFlags := 10, code := some k1c1 }
def k1c2 : Code := { maxStack := 6, maxLocals := 4, code := method_3_code, exceptionTable := #[], attributes := #[] }
def k1m2 : Method := { name := "shownOf", desc := "(ICCC)Ljava/lang/String;", sig := { parameters := [.int, .char, .char, .char], returnType := some (.object "java/lang/String") }, accessFlags := 10, code := some k1c2 }
def k1c3 : Code := { maxStack := 4, maxLocals := 15, code := code, exceptionTable := #[], attributes := #[] }
def k1m3 : Method := { name := "law", desc := "(IIIII)Z", sig := { parameters := [.int, .int, .int, .int, .int], returnType := some .boolean }, accessFlags := 9, code := some k1c3 }
/-- com/example/echoes_to_canon/echoestocanon/UrlKeysRestPinLaw -/
def k1 : Class := { plain "com/example/echoes_to_canon/echoestocanon/UrlKeysRestPinLaw" (some 0) with
  accessFlags := 49
  interfaces := #[]
  cf := some (fileOf pool1 13 #[] #[⟨1, 5, 6, #[]⟩, ⟨10, 16, 17, #[]⟩, ⟨10, 20, 17, #[]⟩, ⟨9, 69, 70, #[]⟩] 49 2 #[] #[])
  fields := #[]
  methods := #[k1m0, k1m1, k1m2, k1m3]
  instanceTypes := #[]
  staticTypes := #[]
  resolved := Array.replicate 80 none
  statics := none }

def pool2 : Array CpInfo := pool [(1, .class_ 2), (0, u "java/io/Serializable"), (0, .class_ 4), (0, u "java/lang/Object")] 2

/-- java/io/Serializable -/
def k2 : Class := { plain "java/io/Serializable" (some 0) with
  accessFlags := 1537
  interfaces := #[]
  cf := some (fileOf pool2 1 #[] #[] 1537 3 #[] #[])
  fields := #[]
  methods := #[]
  instanceTypes := #[]
  staticTypes := #[]
  resolved := Array.replicate 7 none
  statics := none }

def pool3 : Array CpInfo := pool [(1, .class_ 2), (0, u "java/lang/Comparable"), (0, .class_ 4), (0, u "java/lang/Object")] 7

/-- java/lang/Comparable -/
def k3 : Class := { plain "java/lang/Comparable" (some 0) with
  accessFlags := 1537
  interfaces := #[]
  cf := some (fileOf pool3 1 #[] #[] 1537 3 #[] #[])
  fields := #[]
  methods := #[]
  instanceTypes := #[]
  staticTypes := #[]
  resolved := Array.replicate 12 none
  statics := none }

def pool4 : Array CpInfo := pool [(2, .class_ 4), (1, u "java/lang/CharSequence"), (42, .class_ 48), (0, u "java/lang/CharSequence$1CodePointIterator"), (10, .class_ 60), (0, u "java/lang/CharSequence$1CharIterator"), (5, .class_ 67), (0, u "java/lang/Object")] 63

/-- java/lang/CharSequence -/
def k4 : Class := { plain "java/lang/CharSequence" (some 0) with
  accessFlags := 1537
  interfaces := #[]
  cf := some (fileOf pool4 2 #[.nestMembers #[47, 59]] #[] 1537 66 #[] #[])
  fields := #[]
  methods := #[]
  instanceTypes := #[]
  staticTypes := #[]
  resolved := Array.replicate 131 none
  statics := none }

def pool5 : Array CpInfo := pool [(1, .class_ 2), (0, u "java/lang/constant/Constable"), (0, .class_ 4), (0, u "java/lang/Object")] 6

/-- java/lang/constant/Constable -/
def k5 : Class := { plain "java/lang/constant/Constable" (some 0) with
  accessFlags := 1537
  interfaces := #[]
  cf := some (fileOf pool5 1 #[] #[] 1537 3 #[] #[])
  fields := #[]
  methods := #[]
  instanceTypes := #[]
  staticTypes := #[]
  resolved := Array.replicate 11 none
  statics := none }

def pool6 : Array CpInfo := pool [(1, .class_ 2), (0, u "java/lang/constant/ConstantDesc"), (0, .class_ 4), (0, u "java/lang/Object")] 32

/-- java/lang/constant/ConstantDesc -/
def k6 : Class := { plain "java/lang/constant/ConstantDesc" (some 0) with
  accessFlags := 1537
  interfaces := #[]
  cf := some (fileOf pool6 1 #[] #[] 1537 3 #[] #[])
  fields := #[]
  methods := #[]
  instanceTypes := #[]
  staticTypes := #[]
  resolved := Array.replicate 37 none
  statics := none }

def pool7 : Array CpInfo := pool [(1, .methodref 2 3), (0, .class_ 4), (0, .nameAndType 5 6), (0, u "java/lang/Object"), (0, u "<init>"), (0, u "()V"), (0, .string 8), (0, u ""), (0, .fieldref 10 11), (0, .class_ 12), (0, .nameAndType 13 14), (0, u "java/lang/String"), (0, u "value"), (0, u "[B"), (0, .fieldref 10 16), (0, .nameAndType 17 18), (0, u "coder"), (0, u "B"), (2, u "hash"), (0, u "I"), (2, u "hashIsZero"), (0, u "Z"), (0, .methodref 10 28), (0, .nameAndType 5 29), (0, u "([CIILjava/lang/Void;)V"), (8, .fieldref 10 39), (0, .nameAndType 40 26), (0, u "COMPACT_STRINGS"), (1, .class_ 44), (1, u "java/lang/StringUTF16"), (0, u "compress"), (1, .methodref 42 48), (0, .nameAndType 49 50), (0, u "coderFromArrayLen"), (0, u "([BI)B"), (2, u "toBytes"), (0, .methodref 55 56), (0, .class_ 57), (0, .nameAndType 58 59), (0, u "java/util/Arrays"), (0, u "copyOfRange"), (0, u "([BII)[B"), (47, .class_ 109), (1, u "java/lang/StringLatin1"), (32, u "()Z"), (34, .methodref 42 178), (0, .nameAndType 45 179), (0, u "([CII)[B"), (13, .class_ 195), (1, u "java/lang/System"), (13, .methodref 10 210), (0, .nameAndType 5 211), (0, u "([BB)V"), (0, .methodref 193 213), (0, .nameAndType 214 215), (0, u "arraycopy"), (0, u "(Ljava/lang/Object;ILjava/lang/Object;II)V"), (118, u "()I"), (0, .methodref 10 336), (0, .nameAndType 17 337), (0, u "()B"), (2, u "()[B"), (22, u "([BI)C"), (5, u "(C)Z"), (21, u "(II)V"), (35, u "(I)C"), (61, .methodref 10 490), (0, .nameAndType 5 491), (0, u "(Ljava/lang/AbstractStringBuilder;Ljava/lang/Void;)V"), (0, .methodref 10 493), (0, .nameAndType 494 142), (0, u "isLatin1"), (0, .methodref 107 496), (0, .nameAndType 497 363), (0, u "charAt"), (3, u "checkIndex"), (4, .nameAndType 507 334), (0, u "length"), (24, u "getBytes"), (8, .methodref 107 542), (0, .nameAndType 543 544), (0, u "equals"), (0, u "([B[B)Z"), (4, .methodref 550 506), (0, .class_ 551), (0, u "java/lang/AbstractStringBuilder"), (0, .methodref 550 553), (0, .nameAndType 554 340), (0, u "getValue"), (18, u "(Ljava/lang/Object;)Z"), (1, .class_ 576), (0, u "java/lang/CharSequence"), (22, u "CASE_INSENSITIVE_ORDER"), (0, u "Ljava/util/Comparator;"), (181, u "valueOf"), (0, u "(C)Ljava/lang/String;"), (37, u "([BIB)V"), (188, u "([C)V"), (4, .methodref 107 1016), (0, .nameAndType 1017 369), (0, u "canEncode"), (0, .methodref 107 1019), (0, .nameAndType 53 1020), (0, u "(C)[B"), (26, .methodref 550 493), (5, .fieldref 1054 1055), (0, .class_ 1056), (0, .nameAndType 1057 1058), (0, u "jdk/internal/util/Preconditions"), (0, u "SIOOBE_FORMATTER"), (0, u "Ljava/util/function/BiFunction;"), (0, .methodref 1054 1060), (0, .nameAndType 501 1061), (0, u "(IILjava/util/function/BiFunction;)I"), (39, u "serialPersistentFields"), (0, u "[Ljava/io/ObjectStreamField;"), (0, .class_ 1104), (0, u "java/lang/String$CaseInsensitiveComparator"), (1, .class_ 1107), (0, u "java/io/Serializable"), (0, .class_ 1109), (0, u "java/lang/Comparable"), (0, .class_ 1111), (0, u "java/lang/constant/Constable"), (0, .class_ 1113), (0, u "java/lang/constant/ConstantDesc"), (2, u "serialVersionUID"), (0, u "J"), (3, u "REPL"), (0, u "C"), (2, u "LATIN1"), (1, u "UTF16"), (105, u "(Ljava/lang/StringBuilder;)V")] 217

def k7m0 : Method := { name := "<init>", desc := "()V", sig := { parameters := [], returnType := none }, accessFlags := 1, code := none }
def k7c1 : Code := { maxStack := 5, maxLocals := 2, code := jdk_42_method_3_code, exceptionTable := #[], attributes := #[] }
def k7m1 : Method := { name := "<init>", desc := "([C)V", sig := { parameters := [(.array .char)], returnType := none }, accessFlags := 1, code := some k7c1 }
def k7c2 : Code := { maxStack := 3, maxLocals := 2, code := jdk_42_method_53_code, exceptionTable := #[], attributes := #[] }
def k7m2 : Method := { name := "<init>", desc := "(Ljava/lang/StringBuilder;)V", sig := { parameters := [(.object "java/lang/StringBuilder")], returnType := none }, accessFlags := 1, code := some k7c2 }
def k7c3 : Code := { maxStack := 2, maxLocals := 1, code := jdk_42_method_54_code, exceptionTable := #[], attributes := #[] }
def k7m3 : Method := { name := "length", desc := "()I", sig := { parameters := [], returnType := some .int }, accessFlags := 1, code := some k7c3 }
def k7c4 : Code := { maxStack := 2, maxLocals := 2, code := jdk_42_method_56_code, exceptionTable := #[], attributes := #[] }
def k7m4 : Method := { name := "charAt", desc := "(I)C", sig := { parameters := [.int], returnType := some .char }, accessFlags := 1, code := some k7c4 }
def k7c5 : Code := { maxStack := 2, maxLocals := 3, code := jdk_42_method_66_code, exceptionTable := #[], attributes := #[] }
def k7m5 : Method := { name := "equals", desc := "(Ljava/lang/Object;)Z", sig := { parameters := [(.object "java/lang/Object")], returnType := some .boolean }, accessFlags := 1, code := some k7c5 }
def k7c6 : Code := { maxStack := 4, maxLocals := 1, code := jdk_42_method_139_code, exceptionTable := #[], attributes := #[] }
def k7m6 : Method := { name := "valueOf", desc := "(C)Ljava/lang/String;", sig := { parameters := [.char], returnType := some (.object "java/lang/String") }, accessFlags := 9, code := some k7c6 }
def k7c7 : Code := { maxStack := 5, maxLocals := 4, code := jdk_42_method_147_code, exceptionTable := #[], attributes := #[] }
def k7m7 : Method := { name := "getBytes", desc := "([BIB)V", sig := { parameters := [(.array .byte), .int, .byte], returnType := none }, accessFlags := 0, code := some k7c7 }
def k7c8 : Code := { maxStack := 4, maxLocals := 6, code := jdk_42_method_149_code, exceptionTable := #[], attributes := #[] }
def k7m8 : Method := { name := "<init>", desc := "([CIILjava/lang/Void;)V", sig := { parameters := [(.array .char), .int, .int, (.object "java/lang/Void")], returnType := none }, accessFlags := 2, code := some k7c8 }
def k7c9 : Code := { maxStack := 5, maxLocals := 5, code := jdk_42_method_150_code, exceptionTable := #[], attributes := #[] }
def k7m9 : Method := { name := "<init>", desc := "(Ljava/lang/AbstractStringBuilder;Ljava/lang/Void;)V", sig := { parameters := [(.object "java/lang/AbstractStringBuilder"), (.object "java/lang/Void")], returnType := none }, accessFlags := 0, code := some k7c9 }
def k7c10 : Code := { maxStack := 2, maxLocals := 3, code := jdk_42_method_151_code, exceptionTable := #[], attributes := #[] }
def k7m10 : Method := { name := "<init>", desc := "([BB)V", sig := { parameters := [(.array .byte), .byte], returnType := none }, accessFlags := 0, code := some k7c10 }
def k7c11 : Code := { maxStack := 1, maxLocals := 1, code := jdk_42_method_152_code, exceptionTable := #[], attributes := #[] }
def k7m11 : Method := { name := "coder", desc := "()B", sig := { parameters := [], returnType := some .byte }, accessFlags := 0, code := some k7c11 }
def k7c12 : Code := { maxStack := 1, maxLocals := 1, code := jdk_42_method_154_code, exceptionTable := #[], attributes := #[] }
def k7m12 : Method := { name := "isLatin1", desc := "()Z", sig := { parameters := [], returnType := some .boolean }, accessFlags := 0, code := some k7c12 }
def k7c13 : Code := { maxStack := 3, maxLocals := 2, code := jdk_42_method_155_code, exceptionTable := #[], attributes := #[] }
def k7m13 : Method := { name := "checkIndex", desc := "(II)V", sig := { parameters := [.int, .int], returnType := none }, accessFlags := 8, code := some k7c13 }
/-- java/lang/String -/
def k7 : Class := { plain "java/lang/String" (some 0) with
  accessFlags := 49
  interfaces := #[2, 3, 4, 5, 6]
  cf := some (fileOf pool7 10 #[.nestMembers #[1103]] #[⟨1, 5, 6, #[]⟩, ⟨1, 5, 1010, #[]⟩, ⟨1, 5, 1233, #[]⟩, ⟨1, 507, 334, #[]⟩, ⟨1, 497, 427, #[]⟩, ⟨1, 543, 573, #[]⟩, ⟨9, 782, 783, #[]⟩, ⟨0, 532, 821, #[]⟩, ⟨2, 5, 29, #[]⟩, ⟨0, 5, 491, #[]⟩, ⟨0, 5, 211, #[]⟩, ⟨0, 17, 337, #[]⟩, ⟨0, 494, 142, #[]⟩, ⟨8, 501, 391, #[]⟩] 49 2 #[1106, 1108, 575, 1110, 1112] #[⟨18, 13, 14, #[]⟩, ⟨18, 17, 18, #[]⟩, ⟨2, 21, 22, #[]⟩, ⟨2, 25, 26, #[]⟩, ⟨26, 1116, 1117, #[]⟩, ⟨24, 40, 26, #[]⟩, ⟨26, 1101, 1102, #[]⟩, ⟨26, 1121, 1122, #[]⟩, ⟨25, 599, 600, #[]⟩, ⟨24, 1125, 18, #[]⟩, ⟨24, 1127, 18, #[]⟩])
  fields := #[⟨"value", (.array .byte), 18, 0, 0⟩, ⟨"coder", .byte, 18, 1, 0⟩, ⟨"hash", .int, 2, 2, 0⟩, ⟨"hashIsZero", .boolean, 2, 3, 0⟩, ⟨"serialVersionUID", .long, 26, 0, 0⟩, ⟨"COMPACT_STRINGS", .boolean, 24, 1, 0⟩, ⟨"serialPersistentFields", (.array (.object "java/io/ObjectStreamField")), 26, 2, 0⟩, ⟨"REPL", .char, 26, 3, 0⟩, ⟨"CASE_INSENSITIVE_ORDER", (.object "java/util/Comparator"), 25, 4, 0⟩, ⟨"LATIN1", .byte, 24, 5, 0⟩, ⟨"UTF16", .byte, 24, 6, 0⟩]
  methods := #[k7m0, k7m1, k7m2, k7m3, k7m4, k7m5, k7m6, k7m7, k7m8, k7m9, k7m10, k7m11, k7m12, k7m13]
  instanceTypes := #[(.array .byte), .byte, .int, .boolean]
  staticTypes := #[.long, .boolean, (.array (.object "java/io/ObjectStreamField")), .char, (.object "java/util/Comparator"), .byte, .byte]
  resolved := Array.replicate 1451 none
  statics := some 0 }

def pool8 : Array CpInfo := pool [(6, .class_ 8), (1, u "java/lang/Object"), (0, u "<init>"), (0, u "()V"), (1, .class_ 14), (1, u "java/lang/StringUTF16"), (31, u "$assertionsDisabled"), (0, u "Z"), (13, u "HI_BYTE_SHIFT"), (0, u "I"), (2, u "LO_BYTE_SHIFT"), (49, .methodref 12 116), (0, .nameAndType 117 118), (0, u "compress"), (0, u "([CI[BII)I"), (3, u "([CII)[B"), (138, u "coderFromArrayLen"), (0, u "([BI)B"), (106, .class_ 371), (1, u "java/lang/StringUTF16$LinesSpliterator"), (58, u "MAX_LENGTH"), (196, .class_ 628), (0, u "java/lang/StringUTF16$CodePointsSpliterator"), (0, .class_ 630), (0, u "java/lang/StringUTF16$CharsSpliterator")] 4

def k8m0 : Method := { name := "<init>", desc := "()V", sig := { parameters := [], returnType := none }, accessFlags := 0, code := none }
def k8c1 : Code := { maxStack := 2, maxLocals := 2, code := jdk_52_method_15_code, exceptionTable := #[], attributes := #[] }
def k8m1 : Method := { name := "coderFromArrayLen", desc := "([BI)B", sig := { parameters := [(.array .byte), .int], returnType := some .byte }, accessFlags := 8, code := some k8c1 }
def k8c2 : Code := { maxStack := 5, maxLocals := 6, code := jdk_52_method_16_code, exceptionTable := #[], attributes := #[] }
def k8m2 : Method := { name := "compress", desc := "([CII)[B", sig := { parameters := [(.array .char), .int, .int], returnType := some (.array .byte) }, accessFlags := 9, code := some k8c2 }
def k8c3 : Code := { maxStack := 3, maxLocals := 7, code := jdk_52_method_21_code, exceptionTable := #[], attributes := #[] }
def k8m3 : Method := { name := "compress", desc := "([CI[BII)I", sig := { parameters := [(.array .char), .int, (.array .byte), .int, .int], returnType := some .int }, accessFlags := 9, code := some k8c3 }
/-- java/lang/StringUTF16 -/
def k8 : Class := { plain "java/lang/StringUTF16" (some 0) with
  accessFlags := 48
  interfaces := #[]
  cf := some (fileOf pool8 12 #[.nestMembers #[627, 629, 369]] #[⟨0, 9, 10, #[]⟩, ⟨8, 261, 262, #[]⟩, ⟨9, 117, 122, #[]⟩, ⟨9, 117, 118, #[]⟩] 48 6 #[] #[⟨26, 61, 62, #[]⟩, ⟨26, 65, 62, #[]⟩, ⟨24, 430, 62, #[]⟩, ⟨4120, 46, 47, #[]⟩])
  fields := #[⟨"HI_BYTE_SHIFT", .int, 26, 0, 0⟩, ⟨"LO_BYTE_SHIFT", .int, 26, 1, 0⟩, ⟨"MAX_LENGTH", .int, 24, 2, 0⟩, ⟨"$assertionsDisabled", .boolean, 4120, 3, 0⟩]
  methods := #[k8m0, k8m1, k8m2, k8m3]
  instanceTypes := #[]
  staticTypes := #[.int, .int, .int, .boolean]
  resolved := Array.replicate 635 none
  statics := none }

def pool9 : Array CpInfo := pool [(1, .class_ 2), (0, u "java/lang/String"), (1, .class_ 6), (1, u "java/lang/Object"), (0, u "<init>"), (0, u "()V"), (0, .methodref 1 10), (0, .nameAndType 11 12), (0, u "checkIndex"), (0, u "(II)V"), (1, .class_ 16), (1, u "java/lang/StringLatin1"), (36, u "([BI)C"), (36, u "canEncode"), (14, u "(C)Z"), (15, u "$assertionsDisabled"), (0, u "Z"), (98, .class_ 223), (1, u "java/lang/StringLatin1$LinesSpliterator"), (28, u "charAt"), (28, u "equals"), (0, u "([B[B)Z"), (97, u "toBytes"), (1, u "(C)[B"), (7, .class_ 391), (0, u "java/lang/StringLatin1$CharsSpliterator")] 3

def k9m0 : Method := { name := "<init>", desc := "()V", sig := { parameters := [], returnType := none }, accessFlags := 0, code := none }
def k9c1 : Code := { maxStack := 2, maxLocals := 2, code := jdk_43_method_2_code, exceptionTable := #[], attributes := #[] }
def k9m1 : Method := { name := "charAt", desc := "([BI)C", sig := { parameters := [(.array .byte), .int], returnType := some .char }, accessFlags := 9, code := some k9c1 }
def k9c2 : Code := { maxStack := 2, maxLocals := 1, code := jdk_43_method_3_code, exceptionTable := #[], attributes := #[] }
def k9m2 : Method := { name := "canEncode", desc := "(C)Z", sig := { parameters := [.char], returnType := some .boolean }, accessFlags := 9, code := some k9c2 }
def k9c3 : Code := { maxStack := 3, maxLocals := 3, code := jdk_43_method_13_code, exceptionTable := #[], attributes := #[] }
def k9m3 : Method := { name := "equals", desc := "([B[B)Z", sig := { parameters := [(.array .byte), (.array .byte)], returnType := some .boolean }, accessFlags := 9, code := some k9c3 }
def k9c4 : Code := { maxStack := 4, maxLocals := 1, code := jdk_43_method_46_code, exceptionTable := #[], attributes := #[] }
def k9m4 : Method := { name := "toBytes", desc := "(C)[B", sig := { parameters := [.char], returnType := some (.array .byte) }, accessFlags := 9, code := some k9c4 }
/-- java/lang/StringLatin1 -/
def k9 : Class := { plain "java/lang/StringLatin1" (some 0) with
  accessFlags := 48
  interfaces := #[]
  cf := some (fileOf pool9 14 #[.nestMembers #[390, 221]] #[⟨0, 7, 8, #[]⟩, ⟨9, 252, 53, #[]⟩, ⟨9, 90, 105, #[]⟩, ⟨9, 281, 282, #[]⟩, ⟨9, 380, 382, #[]⟩] 48 4 #[] #[⟨4120, 121, 122, #[]⟩])
  fields := #[⟨"$assertionsDisabled", .boolean, 4120, 0, 0⟩]
  methods := #[k9m0, k9m1, k9m2, k9m3, k9m4]
  instanceTypes := #[]
  staticTypes := #[.boolean]
  resolved := Array.replicate 395 none
  statics := none }

def pool10 : Array CpInfo := pool [(1, .methodref 2 3), (0, .class_ 4), (0, .nameAndType 5 6), (0, u "java/lang/Object"), (0, u "<init>"), (0, u "()V"), (0, .fieldref 8 9), (0, .class_ 10), (0, .nameAndType 11 12), (0, u "com/example/echoes_to_canon/echoestocanon/HttpUrl$CharClass"), (0, u "low"), (0, u "J"), (0, .fieldref 8 14), (0, .nameAndType 15 12), (0, u "high"), (0, .methodref 17 18), (0, .class_ 19), (0, .nameAndType 20 21), (0, u "java/lang/String"), (0, u "length"), (0, u "()I"), (0, .methodref 17 23), (0, .nameAndType 24 25), (0, u "charAt"), (0, u "(I)C"), (0, .methodref 8 27), (0, .nameAndType 5 28), (0, u "(JJ)V"), (4, u "of"), (0, u "(Ljava/lang/String;)Lcom/example/echoes_to_canon/echoestocanon/HttpUrl$CharClass;"), (8, .class_ 44), (0, u "com/example/echoes_to_canon/echoestocanon/HttpUrl")] 2

def k10c0 : Code := { maxStack := 3, maxLocals := 5, code := prog_3_method_1_code, exceptionTable := #[], attributes := #[] }
def k10m0 : Method := { name := "<init>", desc := "(JJ)V", sig := { parameters := [.long, .long], returnType := none }, accessFlags := 2, code := some k10c0 }
def k10c1 : Code := { maxStack := 6, maxLocals := 7, code := prog_3_method_2_code, exceptionTable := #[], attributes := #[] }
def k10m1 : Method := { name := "of", desc := "(Ljava/lang/String;)Lcom/example/echoes_to_canon/echoestocanon/HttpUrl$CharClass;", sig := { parameters := [(.object "java/lang/String")], returnType := some (.object "com/example/echoes_to_canon/echoestocanon/HttpUrl$CharClass") }, accessFlags := 8, code := some k10c1 }
/-- com/example/echoes_to_canon/echoestocanon/HttpUrl$CharClass -/
def k10 : Class := { plain "com/example/echoes_to_canon/echoestocanon/HttpUrl$CharClass" (some 0) with
  accessFlags := 48
  interfaces := #[]
  cf := some (fileOf pool10 8 #[.nestHost 43] #[⟨2, 5, 28, #[]⟩, ⟨8, 33, 34, #[]⟩] 48 2 #[] #[⟨18, 11, 12, #[]⟩, ⟨18, 15, 12, #[]⟩])
  fields := #[⟨"low", .long, 18, 0, 0⟩, ⟨"high", .long, 18, 1, 0⟩]
  methods := #[k10m0, k10m1]
  instanceTypes := #[.long, .long]
  staticTypes := #[]
  resolved := Array.replicate 47 none
  statics := none }

def pool11 : Array CpInfo := pool [(2, .class_ 4), (1, u "java/lang/Object"), (0, u "<init>"), (0, u "()V"), (17, .class_ 26), (1, u "jdk/internal/util/Preconditions"), (6, u "checkIndex"), (21, .class_ 56), (0, u "jdk/internal/util/Preconditions$4"), (57, .class_ 115), (0, u "jdk/internal/util/Preconditions$1"), (7, u "SIOOBE_FORMATTER"), (0, u "Ljava/util/function/BiFunction;"), (0, .class_ 126), (0, u "jdk/internal/util/Preconditions$2"), (3, u "AIOOBE_FORMATTER"), (0, .class_ 132), (0, u "jdk/internal/util/Preconditions$3"), (3, u "IOOBE_FORMATTER"), (41, u "(IILjava/util/function/BiFunction;)I")] 15

def k11m0 : Method := { name := "<init>", desc := "()V", sig := { parameters := [], returnType := none }, accessFlags := 1, code := none }
def k11c1 : Code := { maxStack := 3, maxLocals := 3, code := jdk_41_method_11_code, exceptionTable := #[], attributes := #[] }
def k11m1 : Method := { name := "checkIndex", desc := "(IILjava/util/function/BiFunction;)I", sig := { parameters := [.int, .int, (.object "java/util/function/BiFunction")], returnType := some .int }, accessFlags := 9, code := some k11c1 }
/-- jdk/internal/util/Preconditions -/
def k11 : Class := { plain "jdk/internal/util/Preconditions" (some 0) with
  accessFlags := 33
  interfaces := #[]
  cf := some (fileOf pool11 24 #[.nestMembers #[55, 131, 125, 114]] #[⟨1, 5, 6, #[]⟩, ⟨9, 33, 178, #[]⟩] 33 2 #[] #[⟨25, 123, 124, #[]⟩, ⟨25, 130, 124, #[]⟩, ⟨25, 136, 124, #[]⟩])
  fields := #[⟨"SIOOBE_FORMATTER", (.object "java/util/function/BiFunction"), 25, 0, 0⟩, ⟨"AIOOBE_FORMATTER", (.object "java/util/function/BiFunction"), 25, 1, 0⟩, ⟨"IOOBE_FORMATTER", (.object "java/util/function/BiFunction"), 25, 2, 0⟩]
  methods := #[k11m0, k11m1]
  instanceTypes := #[]
  staticTypes := #[(.object "java/util/function/BiFunction"), (.object "java/util/function/BiFunction"), (.object "java/util/function/BiFunction")]
  resolved := Array.replicate 194 none
  statics := some 1 }

def pool12 : Array CpInfo := pool [(1, .class_ 2), (0, u "com/example/echoes_to_canon/echoestocanon/UrlKeys"), (0, .methodref 4 5), (0, .class_ 6), (0, .nameAndType 7 8), (0, u "java/lang/Object"), (0, u "<init>"), (0, u "()V"), (0, .fieldref 10 11), (0, .class_ 12), (0, .nameAndType 13 14), (0, u "com/example/echoes_to_canon/echoestocanon/UrlKeys$Value"), (0, u "text"), (0, u "Ljava/lang/String;"), (0, .fieldref 10 16), (0, .nameAndType 17 14), (0, u "variable"), (0, .fieldref 10 19), (0, .nameAndType 20 21), (0, u "run"), (0, u "Z"), (0, .fieldref 10 23), (0, .nameAndType 24 25), (0, u "conversion"), (0, u "Lcom/example/echoes_to_canon/echoestocanon/Conversion;"), (2, u "SHAPE_RESTS"), (0, u "[Lcom/example/echoes_to_canon/echoestocanon/UrlKeys$Value;"), (2, u "SHAPE_VARIABLES"), (4, u "toString"), (3, u "rest"), (0, u "(Ljava/lang/String;)Lcom/example/echoes_to_canon/echoestocanon/UrlKeys$Value;"), (3, .methodref 47 48), (0, .class_ 49), (0, .nameAndType 50 51), (0, u "java/util/Objects"), (0, u "requireNonNull"), (0, u "(Ljava/lang/Object;Ljava/lang/String;)Ljava/lang/Object;"), (0, .class_ 53), (0, u "java/lang/String"), (0, .methodref 10 55), (0, .nameAndType 7 56), (0, u "(Ljava/lang/String;Ljava/lang/String;ZLcom/example/echoes_to_canon/echoestocanon/Conversion;)V"), (0, .string 58), (0, u "name"), (7, u "(Ljava/lang/String;)Ljava/lang/String;"), (15, u "(Ljava/lang/String;Lcom/example/echoes_to_canon/echoestocanon/HttpUrl$CharClass;)Ljava/lang/String;"), (12, .methodref 10 96), (0, .nameAndType 97 66), (0, u "converted"), (0, .class_ 99), (0, u "java/lang/StringBuilder"), (0, .methodref 98 5), (0, .string 102), (0, u "{"), (0, .methodref 98 104), (0, .nameAndType 105 106), (0, u "append"), (0, u "(Ljava/lang/String;)Ljava/lang/StringBuilder;"), (0, .string 108), (0, u "*}"), (0, .methodref 98 110), (0, .nameAndType 37 111), (0, u "()Ljava/lang/String;"), (27, u "isVariable"), (0, u "()Z"), (0, u "isRun"), (0, u "getText"), (0, u "getVariable"), (0, u "getConversion"), (0, u "()Lcom/example/echoes_to_canon/echoestocanon/Conversion;"), (6, u "copied")] 11

def k12c0 : Code := { maxStack := 2, maxLocals := 5, code := prog_15_method_1_code, exceptionTable := #[], attributes := #[] }
def k12m0 : Method := { name := "<init>", desc := "(Ljava/lang/String;Ljava/lang/String;ZLcom/example/echoes_to_canon/echoestocanon/Conversion;)V", sig := { parameters := [(.object "java/lang/String"), (.object "java/lang/String"), .boolean, (.object "com/example/echoes_to_canon/echoestocanon/Conversion")], returnType := none }, accessFlags := 2, code := some k12c0 }
def k12c1 : Code := { maxStack := 6, maxLocals := 1, code := prog_15_method_5_code, exceptionTable := #[], attributes := #[] }
def k12m1 : Method := { name := "rest", desc := "(Ljava/lang/String;)Lcom/example/echoes_to_canon/echoestocanon/UrlKeys$Value;", sig := { parameters := [(.object "java/lang/String")], returnType := some (.object "com/example/echoes_to_canon/echoestocanon/UrlKeys$Value") }, accessFlags := 8, code := some k12c1 }
def k12c2 : Code := { maxStack := 1, maxLocals := 1, code := prog_15_method_8_code, exceptionTable := #[], attributes := #[] }
def k12m2 : Method := { name := "isVariable", desc := "()Z", sig := { parameters := [], returnType := some .boolean }, accessFlags := 0, code := some k12c2 }
def k12c3 : Code := { maxStack := 1, maxLocals := 1, code := prog_15_method_9_code, exceptionTable := #[], attributes := #[] }
def k12m3 : Method := { name := "isRun", desc := "()Z", sig := { parameters := [], returnType := some .boolean }, accessFlags := 0, code := some k12c3 }
def k12c4 : Code := { maxStack := 1, maxLocals := 1, code := prog_15_method_10_code, exceptionTable := #[], attributes := #[] }
def k12m4 : Method := { name := "getText", desc := "()Ljava/lang/String;", sig := { parameters := [], returnType := some (.object "java/lang/String") }, accessFlags := 0, code := some k12c4 }
def k12c5 : Code := { maxStack := 1, maxLocals := 1, code := prog_15_method_11_code, exceptionTable := #[], attributes := #[] }
def k12m5 : Method := { name := "getVariable", desc := "()Ljava/lang/String;", sig := { parameters := [], returnType := some (.object "java/lang/String") }, accessFlags := 0, code := some k12c5 }
def k12c6 : Code := { maxStack := 1, maxLocals := 1, code := prog_15_method_12_code, exceptionTable := #[], attributes := #[] }
def k12m6 : Method := { name := "getConversion", desc := "()Lcom/example/echoes_to_canon/echoestocanon/Conversion;", sig := { parameters := [], returnType := some (.object "com/example/echoes_to_canon/echoestocanon/Conversion") }, accessFlags := 0, code := some k12c6 }
def k12c7 : Code := { maxStack := 2, maxLocals := 3, code := prog_15_method_16_code, exceptionTable := #[], attributes := #[] }
def k12m7 : Method := { name := "copied", desc := "(Ljava/lang/String;Lcom/example/echoes_to_canon/echoestocanon/HttpUrl$CharClass;)Ljava/lang/String;", sig := { parameters := [(.object "java/lang/String"), (.object "com/example/echoes_to_canon/echoestocanon/HttpUrl$CharClass")], returnType := some (.object "java/lang/String") }, accessFlags := 0, code := some k12c7 }
def k12c8 : Code := { maxStack := 2, maxLocals := 2, code := prog_15_method_17_code, exceptionTable := #[], attributes := #[] }
def k12m8 : Method := { name := "converted", desc := "(Ljava/lang/String;)Ljava/lang/String;", sig := { parameters := [(.object "java/lang/String")], returnType := some (.object "java/lang/String") }, accessFlags := 2, code := some k12c8 }
def k12c9 : Code := { maxStack := 2, maxLocals := 1, code := prog_15_method_18_code, exceptionTable := #[], attributes := #[] }
def k12m9 : Method := { name := "toString", desc := "()Ljava/lang/String;", sig := { parameters := [], returnType := some (.object "java/lang/String") }, accessFlags := 1, code := some k12c9 }
/-- com/example/echoes_to_canon/echoestocanon/UrlKeys$Value -/
def k12 : Class := { plain "com/example/echoes_to_canon/echoestocanon/UrlKeys$Value" (some 0) with
  accessFlags := 48
  interfaces := #[]
  cf := some (fileOf pool12 10 #[.nestHost 1] #[⟨2, 7, 56, #[]⟩, ⟨8, 41, 42, #[]⟩, ⟨0, 139, 140, #[]⟩, ⟨0, 141, 140, #[]⟩, ⟨0, 142, 111, #[]⟩, ⟨0, 143, 111, #[]⟩, ⟨0, 144, 145, #[]⟩, ⟨0, 152, 82, #[]⟩, ⟨2, 97, 66, #[]⟩, ⟨1, 37, 111, #[]⟩] 48 4 #[] #[⟨26, 32, 29, #[]⟩, ⟨26, 28, 29, #[]⟩, ⟨18, 13, 14, #[]⟩, ⟨18, 17, 14, #[]⟩, ⟨18, 20, 21, #[]⟩, ⟨18, 24, 25, #[]⟩])
  fields := #[⟨"SHAPE_VARIABLES", (.array (.object "com/example/echoes_to_canon/echoestocanon/UrlKeys$Value")), 26, 0, 0⟩, ⟨"SHAPE_RESTS", (.array (.object "com/example/echoes_to_canon/echoestocanon/UrlKeys$Value")), 26, 1, 0⟩, ⟨"text", (.object "java/lang/String"), 18, 0, 0⟩, ⟨"variable", (.object "java/lang/String"), 18, 1, 0⟩, ⟨"run", .boolean, 18, 2, 0⟩, ⟨"conversion", (.object "com/example/echoes_to_canon/echoestocanon/Conversion"), 18, 3, 0⟩]
  methods := #[k12m0, k12m1, k12m2, k12m3, k12m4, k12m5, k12m6, k12m7, k12m8, k12m9]
  instanceTypes := #[(.object "java/lang/String"), (.object "java/lang/String"), .boolean, (.object "com/example/echoes_to_canon/echoestocanon/Conversion")]
  staticTypes := #[(.array (.object "com/example/echoes_to_canon/echoestocanon/UrlKeys$Value")), (.array (.object "com/example/echoes_to_canon/echoestocanon/UrlKeys$Value"))]
  resolved := Array.replicate 164 none
  statics := none }

def pool13 : Array CpInfo := pool [(2, .class_ 4), (1, u "java/lang/Object"), (0, u "<init>"), (0, u "()V"), (35, .class_ 44), (1, u "java/util/Objects"), (0, u "requireNonNull"), (48, u "(Ljava/lang/Object;Ljava/lang/String;)Ljava/lang/Object;")] 89

def k13m0 : Method := { name := "<init>", desc := "()V", sig := { parameters := [], returnType := none }, accessFlags := 2, code := none }
def k13c1 : Code := { maxStack := 3, maxLocals := 2, code := jdk_31_method_11_code, exceptionTable := #[], attributes := #[] }
def k13m1 : Method := { name := "requireNonNull", desc := "(Ljava/lang/Object;Ljava/lang/String;)Ljava/lang/Object;", sig := { parameters := [(.object "java/lang/Object"), (.object "java/lang/String")], returnType := some (.object "java/lang/Object") }, accessFlags := 9, code := some k13c1 }
/-- java/util/Objects -/
def k13 : Class := { plain "java/util/Objects" (some 0) with
  accessFlags := 49
  interfaces := #[]
  cf := some (fileOf pool13 42 #[] #[⟨2, 5, 6, #[]⟩, ⟨9, 45, 94, #[]⟩] 49 2 #[] #[])
  fields := #[]
  methods := #[k13m0, k13m1]
  instanceTypes := #[]
  staticTypes := #[]
  resolved := Array.replicate 184 none
  statics := none }

def pool14 : Array CpInfo := pool [(1, .class_ 2), (0, u "java/lang/Appendable"), (0, .class_ 4), (0, u "java/lang/Object")] 9

/-- java/lang/Appendable -/
def k14 : Class := { plain "java/lang/Appendable" (some 0) with
  accessFlags := 1537
  interfaces := #[]
  cf := some (fileOf pool14 1 #[] #[] 1537 3 #[] #[])
  fields := #[]
  methods := #[]
  instanceTypes := #[]
  staticTypes := #[]
  resolved := Array.replicate 14 none
  statics := none }

def pool15 : Array CpInfo := pool [(1, .class_ 2), (0, u "java/lang/String"), (0, .methodref 4 5), (0, .class_ 6), (0, .nameAndType 7 8), (0, u "java/lang/Object"), (0, u "<init>"), (0, u "()V"), (1, .class_ 12), (1, u "java/lang/AbstractStringBuilder"), (0, u "EMPTYVALUE"), (0, u "[B"), (0, .fieldref 10 16), (0, .nameAndType 17 14), (0, u "value"), (0, .fieldref 1 19), (0, .nameAndType 20 21), (0, u "COMPACT_STRINGS"), (0, u "Z"), (0, .fieldref 10 23), (0, .nameAndType 24 25), (0, u "coder"), (0, u "B"), (6, .methodref 1 33), (0, .nameAndType 34 35), (0, u "length"), (0, u "()I"), (4, .methodref 1 41), (0, .nameAndType 24 42), (0, u "()B"), (2, u "append"), (0, u "(Ljava/lang/String;)Ljava/lang/AbstractStringBuilder;"), (1, .class_ 49), (0, u "java/lang/CharSequence"), (19, u "(Ljava/lang/String;)V"), (5, u "maybeLatin1"), (3, .fieldref 10 80), (0, .nameAndType 81 82), (0, u "count"), (0, u "I"), (2, u "isLatin1"), (0, u "()Z"), (13, .methodref 10 101), (0, .nameAndType 102 103), (0, u "ensureCapacityInternal"), (0, u "(I)V"), (104, .methodref 10 209), (0, .nameAndType 210 211), (0, u "putStringAt"), (0, u "(ILjava/lang/String;)V"), (5, u "inflateIfNeededFor"), (2, .nameAndType 221 222), (0, u "getBytes"), (0, u "([BIB)V"), (174, .methodref 10 398), (0, .nameAndType 217 69), (0, .methodref 1 220), (3, u "()[B"), (40, .class_ 445), (0, u "java/lang/Appendable"), (106, u "getValue")] 56

def k15m0 : Method := { name := "<init>", desc := "()V", sig := { parameters := [], returnType := none }, accessFlags := 0, code := none }
def k15c1 : Code := { maxStack := 2, maxLocals := 2, code := jdk_68_method_2_code, exceptionTable := #[], attributes := #[] }
def k15m1 : Method := { name := "<init>", desc := "(I)V", sig := { parameters := [.int], returnType := none }, accessFlags := 0, code := some k15c1 }
def k15c2 : Code := { maxStack := 1, maxLocals := 1, code := jdk_68_method_6_code, exceptionTable := #[], attributes := #[] }
def k15m2 : Method := { name := "length", desc := "()I", sig := { parameters := [], returnType := some .int }, accessFlags := 1, code := some k15c2 }
def k15c3 : Code := { maxStack := 4, maxLocals := 3, code := jdk_68_method_9_code, exceptionTable := #[], attributes := #[] }
def k15m3 : Method := { name := "ensureCapacityInternal", desc := "(I)V", sig := { parameters := [.int], returnType := none }, accessFlags := 2, code := some k15c3 }
def k15c4 : Code := { maxStack := 3, maxLocals := 3, code := jdk_68_method_22_code, exceptionTable := #[], attributes := #[] }
def k15m4 : Method := { name := "append", desc := "(Ljava/lang/String;)Ljava/lang/AbstractStringBuilder;", sig := { parameters := [(.object "java/lang/String")], returnType := some (.object "java/lang/AbstractStringBuilder") }, accessFlags := 1, code := some k15c4 }
def k15c5 : Code := { maxStack := 1, maxLocals := 1, code := jdk_68_method_64_code, exceptionTable := #[], attributes := #[] }
def k15m5 : Method := { name := "getValue", desc := "()[B", sig := { parameters := [], returnType := some (.array .byte) }, accessFlags := 16, code := some k15c5 }
def k15c6 : Code := { maxStack := 1, maxLocals := 1, code := jdk_68_method_68_code, exceptionTable := #[], attributes := #[] }
def k15m6 : Method := { name := "isLatin1", desc := "()Z", sig := { parameters := [], returnType := some .boolean }, accessFlags := 16, code := some k15c6 }
def k15c7 : Code := { maxStack := 2, maxLocals := 2, code := jdk_68_method_71_code, exceptionTable := #[], attributes := #[] }
def k15m7 : Method := { name := "inflateIfNeededFor", desc := "(Ljava/lang/String;)V", sig := { parameters := [(.object "java/lang/String")], returnType := none }, accessFlags := 2, code := some k15c7 }
def k15c8 : Code := { maxStack := 4, maxLocals := 3, code := jdk_68_method_73_code, exceptionTable := #[], attributes := #[] }
def k15m8 : Method := { name := "putStringAt", desc := "(ILjava/lang/String;)V", sig := { parameters := [.int, (.object "java/lang/String")], returnType := none }, accessFlags := 2, code := some k15c8 }
/-- java/lang/AbstractStringBuilder -/
def k15 : Class := { plain "java/lang/AbstractStringBuilder" (some 0) with
  accessFlags := 1056
  interfaces := #[14, 4]
  cf := some (fileOf pool15 10 #[] #[⟨0, 7, 8, #[]⟩, ⟨0, 7, 103, #[]⟩, ⟨1, 34, 35, #[]⟩, ⟨2, 102, 103, #[]⟩, ⟨1, 45, 46, #[]⟩, ⟨16, 552, 403, #[]⟩, ⟨16, 85, 86, #[]⟩, ⟨2, 217, 69, #[]⟩, ⟨2, 210, 211, #[]⟩] 1056 4 #[444, 48] #[⟨0, 17, 14, #[]⟩, ⟨0, 24, 25, #[]⟩, ⟨0, 75, 21, #[]⟩, ⟨0, 81, 82, #[]⟩, ⟨26, 13, 14, #[]⟩])
  fields := #[⟨"value", (.array .byte), 0, 0, 0⟩, ⟨"coder", .byte, 0, 1, 0⟩, ⟨"maybeLatin1", .boolean, 0, 2, 0⟩, ⟨"count", .int, 0, 3, 0⟩, ⟨"EMPTYVALUE", (.array .byte), 26, 0, 0⟩]
  methods := #[k15m0, k15m1, k15m2, k15m3, k15m4, k15m5, k15m6, k15m7, k15m8]
  instanceTypes := #[(.array .byte), .byte, .boolean, .int]
  staticTypes := #[(.array .byte)]
  resolved := Array.replicate 609 none
  statics := none }

def pool16 : Array CpInfo := pool [(1, .methodref 2 3), (0, .class_ 4), (0, .nameAndType 5 6), (0, u "java/lang/AbstractStringBuilder"), (0, u "<init>"), (0, u "(I)V"), (11, .class_ 20), (1, u "java/lang/String"), (3, .class_ 26), (1, u "java/lang/StringBuilder"), (0, u "append"), (0, u "(Ljava/lang/String;)Ljava/lang/StringBuilder;"), (0, .methodref 2 30), (0, .nameAndType 27 31), (0, u "(Ljava/lang/String;)Ljava/lang/AbstractStringBuilder;"), (105, .methodref 18 138), (0, .nameAndType 5 139), (0, u "(Ljava/lang/StringBuilder;)V"), (5, u "()V"), (10, u "()I"), (186, .methodref 2 344), (0, .nameAndType 345 156), (0, u "length"), (3, .class_ 350), (0, u "java/lang/Appendable"), (0, .class_ 352), (0, u "java/io/Serializable"), (0, .class_ 354), (0, u "java/lang/Comparable"), (0, .class_ 356), (0, u "java/lang/CharSequence"), (0, u "serialVersionUID"), (0, u "J"), (40, u "toString"), (0, u "()Ljava/lang/String;")] 21

def k16c0 : Code := { maxStack := 2, maxLocals := 1, code := jdk_67_method_1_code, exceptionTable := #[], attributes := #[] }
def k16m0 : Method := { name := "<init>", desc := "()V", sig := { parameters := [], returnType := none }, accessFlags := 1, code := some k16c0 }
def k16c1 : Code := { maxStack := 2, maxLocals := 2, code := jdk_67_method_7_code, exceptionTable := #[], attributes := #[] }
def k16m1 : Method := { name := "append", desc := "(Ljava/lang/String;)Ljava/lang/StringBuilder;", sig := { parameters := [(.object "java/lang/String")], returnType := some (.object "java/lang/StringBuilder") }, accessFlags := 1, code := some k16c1 }
def k16c2 : Code := { maxStack := 3, maxLocals := 1, code := jdk_67_method_42_code, exceptionTable := #[], attributes := #[] }
def k16m2 : Method := { name := "toString", desc := "()Ljava/lang/String;", sig := { parameters := [], returnType := some (.object "java/lang/String") }, accessFlags := 1, code := some k16c2 }
def k16c3 : Code := { maxStack := 1, maxLocals := 1, code := jdk_67_method_93_code, exceptionTable := #[], attributes := #[] }
def k16m3 : Method := { name := "length", desc := "()I", sig := { parameters := [], returnType := some .int }, accessFlags := 4161, code := some k16c3 }
/-- java/lang/StringBuilder -/
def k16 : Class := { plain "java/lang/StringBuilder" (some 15) with
  accessFlags := 49
  interfaces := #[14, 2, 3, 4]
  cf := some (fileOf pool16 24 #[] #[⟨1, 5, 145, #[]⟩, ⟨1, 27, 28, #[]⟩, ⟨1, 399, 400, #[]⟩, ⟨4161, 345, 156, #[]⟩] 49 2 #[349, 351, 353, 355] #[⟨24, 357, 358, #[]⟩])
  fields := #[⟨"serialVersionUID", .long, 24, 0, 0⟩]
  methods := #[k16m0, k16m1, k16m2, k16m3]
  instanceTypes := #[(.array .byte), .byte, .boolean, .int]
  staticTypes := #[.long]
  resolved := Array.replicate 422 none
  statics := none }

def pool17 : Array CpInfo := pool [(2, .class_ 4), (1, u "java/lang/Object"), (0, u "<init>"), (0, u "()V"), (1, .class_ 10), (1, u "java/lang/System"), (0, u "allowSecurityManager"), (0, u "I"), (16, u "cons"), (0, u "Ljava/io/Console;"), (77, .class_ 110), (1, u "java/lang/System$CallersHolder"), (43, u "initialErrStream"), (0, u "Ljava/io/PrintStream;"), (19, u "security"), (0, u "Ljava/lang/SecurityManager;"), (31, .class_ 209), (0, u "java/lang/System$1"), (7, u "props"), (0, u "Ljava/util/Properties;"), (2, u "lineSeparator"), (0, u "Ljava/lang/String;"), (96, .class_ 321), (1, u "java/lang/System$LoggerFinder"), (5, .class_ 328), (0, u "java/lang/System$Logger"), (67, u "err"), (2, u "out"), (91, u "notSupportedJnuEncoding"), (15, u "in"), (17, u "initialIn"), (0, u "Ljava/io/InputStream;"), (35, u "bootLayer"), (0, u "Ljava/lang/ModuleLayer;"), (99, .class_ 664), (0, u "java/lang/System$2"), (9, u "NEVER"), (2, u "MAYBE"), (49, u "arraycopy"), (0, u "(Ljava/lang/Object;ILjava/lang/Object;II)V"), (72, .class_ 802), (0, u "java/lang/System$Logger$Level")] 31

def k17m0 : Method := { name := "<init>", desc := "()V", sig := { parameters := [], returnType := none }, accessFlags := 2, code := none }
def k17m1 : Method := { name := "arraycopy", desc := "(Ljava/lang/Object;ILjava/lang/Object;II)V", sig := { parameters := [(.object "java/lang/Object"), .int, (.object "java/lang/Object"), .int, .int], returnType := none }, accessFlags := 265, code := none }
/-- java/lang/System -/
def k17 : Class := { plain "java/lang/System" (some 0) with
  accessFlags := 49
  interfaces := #[]
  cf := some (fileOf pool17 8 #[.nestMembers #[319, 327, 801, 108, 663, 208]] #[⟨2, 5, 6, #[]⟩, ⟨265, 727, 728, #[]⟩] 49 2 #[] #[⟨25, 507, 526, #[]⟩, ⟨25, 399, 155, #[]⟩, ⟨25, 396, 155, #[]⟩, ⟨10, 525, 526, #[]⟩, ⟨26, 674, 12, #[]⟩, ⟨26, 677, 12, #[]⟩, ⟨10, 11, 12, #[]⟩, ⟨74, 175, 176, #[]⟩, ⟨10, 491, 222, #[]⟩, ⟨74, 29, 30, #[]⟩, ⟨74, 154, 155, #[]⟩, ⟨10, 217, 218, #[]⟩, ⟨10, 221, 222, #[]⟩, ⟨8, 562, 563, #[]⟩])
  fields := #[⟨"in", (.object "java/io/InputStream"), 25, 0, 0⟩, ⟨"out", (.object "java/io/PrintStream"), 25, 1, 0⟩, ⟨"err", (.object "java/io/PrintStream"), 25, 2, 0⟩, ⟨"initialIn", (.object "java/io/InputStream"), 10, 3, 0⟩, ⟨"NEVER", .int, 26, 4, 0⟩, ⟨"MAYBE", .int, 26, 5, 0⟩, ⟨"allowSecurityManager", .int, 10, 6, 0⟩, ⟨"security", (.object "java/lang/SecurityManager"), 74, 7, 0⟩, ⟨"notSupportedJnuEncoding", (.object "java/lang/String"), 10, 8, 0⟩, ⟨"cons", (.object "java/io/Console"), 74, 9, 0⟩, ⟨"initialErrStream", (.object "java/io/PrintStream"), 74, 10, 0⟩, ⟨"props", (.object "java/util/Properties"), 10, 11, 0⟩, ⟨"lineSeparator", (.object "java/lang/String"), 10, 12, 0⟩, ⟨"bootLayer", (.object "java/lang/ModuleLayer"), 8, 13, 0⟩]
  methods := #[k17m0, k17m1]
  instanceTypes := #[]
  staticTypes := #[(.object "java/io/InputStream"), (.object "java/io/PrintStream"), (.object "java/io/PrintStream"), (.object "java/io/InputStream"), .int, .int, .int, (.object "java/lang/SecurityManager"), (.object "java/lang/String"), (.object "java/io/Console"), (.object "java/io/PrintStream"), (.object "java/util/Properties"), (.object "java/lang/String"), (.object "java/lang/ModuleLayer")]
  resolved := Array.replicate 834 none
  statics := none }

def pool18 : Array CpInfo := pool [(2, .class_ 4), (1, u "java/lang/Object"), (0, u "<init>"), (0, u "()V"), (7, .class_ 16), (1, u "java/util/Arrays"), (57, .class_ 76), (1, u "java/util/Arrays$NaturalOrder"), (36, .class_ 115), (1, u "java/util/Arrays$LegacyMergeSort"), (1, u "Z"), (21, u "copyOfRange"), (10, .methodref 151 152), (0, .class_ 153), (0, .nameAndType 154 155), (0, u "java/lang/System"), (0, u "arraycopy"), (0, u "(Ljava/lang/Object;ILjava/lang/Object;II)V"), (148, .methodref 305 306), (0, .class_ 307), (0, .nameAndType 308 309), (0, u "java/lang/Math"), (0, u "min"), (0, u "(II)I"), (29, .methodref 14 340), (0, .nameAndType 341 342), (0, u "copyOfRangeByte"), (0, u "([BII)[B"), (0, .methodref 14 344), (0, .nameAndType 345 346), (0, u "checkLength"), (0, u "(II)V"), (28, .class_ 376), (0, u "java/util/Arrays$ArrayList"), (68, u "$assertionsDisabled"), (269, u "MIN_ARRAY_SORT_GRAN"), (0, u "I"), (2, u "INSERTIONSORT_THRESHOLD"), (255, .class_ 976), (0, u "java/util/Arrays$ArrayItr")] 52

def k18m0 : Method := { name := "<init>", desc := "()V", sig := { parameters := [], returnType := none }, accessFlags := 2, code := none }
def k18c1 : Code := { maxStack := 4, maxLocals := 2, code := jdk_65_method_131_code, exceptionTable := #[], attributes := #[] }
def k18m1 : Method := { name := "checkLength", desc := "(II)V", sig := { parameters := [.int, .int], returnType := none }, accessFlags := 10, code := some k18c1 }
def k18c2 : Code := { maxStack := 3, maxLocals := 3, code := jdk_65_method_132_code, exceptionTable := #[], attributes := #[] }
def k18m2 : Method := { name := "copyOfRange", desc := "([BII)[B", sig := { parameters := [(.array .byte), .int, .int], returnType := some (.array .byte) }, accessFlags := 9, code := some k18c2 }
def k18c3 : Code := { maxStack := 6, maxLocals := 5, code := jdk_65_method_133_code, exceptionTable := #[], attributes := #[] }
def k18m3 : Method := { name := "copyOfRangeByte", desc := "([BII)[B", sig := { parameters := [(.array .byte), .int, .int], returnType := some (.array .byte) }, accessFlags := 10, code := some k18c3 }
/-- java/util/Arrays -/
def k18 : Class := { plain "java/util/Arrays" (some 0) with
  accessFlags := 49
  interfaces := #[]
  cf := some (fileOf pool18 14 #[.nestMembers #[975, 375, 113, 74]] #[⟨2, 5, 6, #[]⟩, ⟨10, 345, 346, #[]⟩, ⟨9, 139, 342, #[]⟩, ⟨10, 341, 342, #[]⟩] 49 2 #[] #[⟨26, 715, 716, #[]⟩, ⟨26, 719, 716, #[]⟩, ⟨4120, 445, 117, #[]⟩])
  fields := #[⟨"MIN_ARRAY_SORT_GRAN", .int, 26, 0, 0⟩, ⟨"INSERTIONSORT_THRESHOLD", .int, 26, 1, 0⟩, ⟨"$assertionsDisabled", .boolean, 4120, 2, 0⟩]
  methods := #[k18m0, k18m1, k18m2, k18m3]
  instanceTypes := #[]
  staticTypes := #[.int, .int, .boolean]
  resolved := Array.replicate 1029 none
  statics := none }

def pool19 : Array CpInfo := pool [(1, .class_ 2), (0, u "java/lang/Math"), (1, .class_ 6), (1, u "java/lang/Object"), (0, u "<init>"), (0, u "()V"), (89, .class_ 100), (1, u "java/lang/Math$RandomNumberGeneratorHolder"), (71, u "negativeZeroFloatBits"), (0, u "J"), (2, u "negativeZeroDoubleBits"), (24, u "min"), (43, u "$assertionsDisabled"), (0, u "Z"), (88, u "(II)I"), (2, u "twoToTheDoubleScaleDown"), (0, u "D"), (4, u "twoToTheDoubleScaleUp"), (9, u "E"), (3, u "PI"), (2, u "TAU"), (2, u "DEGREES_TO_RADIANS"), (0, u "RADIANS_TO_DEGREES")] 94

def k19m0 : Method := { name := "<init>", desc := "()V", sig := { parameters := [], returnType := none }, accessFlags := 2, code := none }
def k19c1 : Code := { maxStack := 2, maxLocals := 2, code := jdk_29_method_69_code, exceptionTable := #[], attributes := #[] }
def k19m1 : Method := { name := "min", desc := "(II)I", sig := { parameters := [.int, .int], returnType := some .int }, accessFlags := 9, code := some k19c1 }
/-- java/lang/Math -/
def k19 : Class := { plain "java/lang/Math" (some 0) with
  accessFlags := 49
  interfaces := #[]
  cf := some (fileOf pool19 1 #[.nestMembers #[98]] #[⟨2, 7, 8, #[]⟩, ⟨9, 201, 335, #[]⟩] 49 4 #[] #[⟨25, 354, 339, #[]⟩, ⟨25, 358, 339, #[]⟩, ⟨25, 361, 339, #[]⟩, ⟨26, 364, 339, #[]⟩, ⟨26, 365, 339, #[]⟩, ⟨26, 172, 173, #[]⟩, ⟨26, 176, 173, #[]⟩, ⟨8, 344, 339, #[]⟩, ⟨8, 338, 339, #[]⟩, ⟨4120, 245, 246, #[]⟩])
  fields := #[⟨"E", .double, 25, 0, 0⟩, ⟨"PI", .double, 25, 1, 0⟩, ⟨"TAU", .double, 25, 2, 0⟩, ⟨"DEGREES_TO_RADIANS", .double, 26, 3, 0⟩, ⟨"RADIANS_TO_DEGREES", .double, 26, 4, 0⟩, ⟨"negativeZeroFloatBits", .long, 26, 5, 0⟩, ⟨"negativeZeroDoubleBits", .long, 26, 6, 0⟩, ⟨"twoToTheDoubleScaleUp", .double, 8, 7, 0⟩, ⟨"twoToTheDoubleScaleDown", .double, 8, 8, 0⟩, ⟨"$assertionsDisabled", .boolean, 4120, 9, 0⟩]
  methods := #[k19m0, k19m1]
  instanceTypes := #[]
  staticTypes := #[.double, .double, .double, .double, .double, .long, .long, .double, .double, .boolean]
  resolved := Array.replicate 460 none
  statics := none }

def pool20 : Array CpInfo := pool [(9, u "<init>"), (6, .class_ 18), (1, u "java/lang/Object"), (0, u "()V"), (1, .class_ 23), (1, u "jdk/internal/util/ArraysSupport"), (0, u "LOG2_ARRAY_LONG_INDEX_SCALE"), (0, u "I"), (2, u "U"), (0, u "Ljdk/internal/misc/Unsafe;"), (8, u "BIG_ENDIAN"), (0, u "Z"), (8, u "LOG2_BYTE_BIT_SIZE"), (4, u "LOG2_ARRAY_INT_INDEX_SCALE"), (54, u "JLA"), (0, u "Ljdk/internal/access/JavaLangAccess;"), (11, u "LOG2_ARRAY_BOOLEAN_INDEX_SCALE"), (9, u "LOG2_ARRAY_BYTE_INDEX_SCALE"), (5, u "LOG2_ARRAY_CHAR_INDEX_SCALE"), (5, u "LOG2_ARRAY_SHORT_INDEX_SCALE"), (18, u "LOG2_ARRAY_FLOAT_INDEX_SCALE"), (24, u "LOG2_ARRAY_DOUBLE_INDEX_SCALE"), (89, u "T_BOOLEAN"), (2, u "T_CHAR"), (1, u "T_FLOAT"), (1, u "T_DOUBLE"), (1, u "T_BYTE"), (1, u "T_SHORT"), (1, u "T_INT"), (1, u "T_LONG"), (1, u "SOFT_MAX_ARRAY_LENGTH")] 83

def k20m0 : Method := { name := "<init>", desc := "()V", sig := { parameters := [], returnType := none }, accessFlags := 2, code := none }
/-- jdk/internal/util/ArraysSupport -/
def k20 : Class := { plain "jdk/internal/util/ArraysSupport" (some 0) with
  accessFlags := 33
  interfaces := #[]
  cf := some (fileOf pool20 21 #[] #[⟨2, 9, 19, #[]⟩] 33 16 #[] #[⟨24, 28, 29, #[]⟩, ⟨26, 38, 39, #[]⟩, ⟨25, 121, 25, #[]⟩, ⟨25, 131, 25, #[]⟩, ⟨25, 137, 25, #[]⟩, ⟨25, 143, 25, #[]⟩, ⟨25, 53, 25, #[]⟩, ⟨25, 24, 25, #[]⟩, ⟨25, 162, 25, #[]⟩, ⟨25, 187, 25, #[]⟩, ⟨26, 48, 25, #[]⟩, ⟨25, 277, 25, #[]⟩, ⟨25, 280, 25, #[]⟩, ⟨25, 282, 25, #[]⟩, ⟨25, 284, 25, #[]⟩, ⟨25, 286, 25, #[]⟩, ⟨25, 288, 25, #[]⟩, ⟨25, 290, 25, #[]⟩, ⟨25, 292, 25, #[]⟩, ⟨26, 108, 109, #[]⟩, ⟨25, 294, 25, #[]⟩])
  fields := #[⟨"U", (.object "jdk/internal/misc/Unsafe"), 24, 0, 0⟩, ⟨"BIG_ENDIAN", .boolean, 26, 1, 0⟩, ⟨"LOG2_ARRAY_BOOLEAN_INDEX_SCALE", .int, 25, 2, 0⟩, ⟨"LOG2_ARRAY_BYTE_INDEX_SCALE", .int, 25, 3, 0⟩, ⟨"LOG2_ARRAY_CHAR_INDEX_SCALE", .int, 25, 4, 0⟩, ⟨"LOG2_ARRAY_SHORT_INDEX_SCALE", .int, 25, 5, 0⟩, ⟨"LOG2_ARRAY_INT_INDEX_SCALE", .int, 25, 6, 0⟩, ⟨"LOG2_ARRAY_LONG_INDEX_SCALE", .int, 25, 7, 0⟩, ⟨"LOG2_ARRAY_FLOAT_INDEX_SCALE", .int, 25, 8, 0⟩, ⟨"LOG2_ARRAY_DOUBLE_INDEX_SCALE", .int, 25, 9, 0⟩, ⟨"LOG2_BYTE_BIT_SIZE", .int, 26, 10, 0⟩, ⟨"T_BOOLEAN", .int, 25, 11, 0⟩, ⟨"T_CHAR", .int, 25, 12, 0⟩, ⟨"T_FLOAT", .int, 25, 13, 0⟩, ⟨"T_DOUBLE", .int, 25, 14, 0⟩, ⟨"T_BYTE", .int, 25, 15, 0⟩, ⟨"T_SHORT", .int, 25, 16, 0⟩, ⟨"T_INT", .int, 25, 17, 0⟩, ⟨"T_LONG", .int, 25, 18, 0⟩, ⟨"JLA", (.object "jdk/internal/access/JavaLangAccess"), 26, 19, 0⟩, ⟨"SOFT_MAX_ARRAY_LENGTH", .int, 25, 20, 0⟩]
  methods := #[k20m0]
  instanceTypes := #[]
  staticTypes := #[(.object "jdk/internal/misc/Unsafe"), .boolean, .int, .int, .int, .int, .int, .int, .int, .int, .int, .int, .int, .int, .int, .int, .int, .int, .int, (.object "jdk/internal/access/JavaLangAccess"), .int]
  resolved := Array.replicate 378 none
  statics := none }

def pool21 : Array CpInfo := pool [(1, u "java/lang/Cloneable"), (0, .class_ 1), (0, u "java/lang/Object"), (0, .class_ 3)] 3

/-- java/lang/Cloneable -/
def k21 : Class := { plain "java/lang/Cloneable" (some 0) with
  accessFlags := 1537
  interfaces := #[]
  cf := some (fileOf pool21 2 #[] #[] 1537 4 #[] #[])
  fields := #[]
  methods := #[]
  instanceTypes := #[]
  staticTypes := #[]
  resolved := Array.replicate 8 none
  statics := none }

/-- the primitive byte -/
def k22 : Class := { plain "byte" none with kind := .primitive 'B', accessFlags := 0x411 }
/-- [B -/
def k23 : Class := { plain "[B" (some 0) with kind := .array 22 .byte, interfaces := #[21, 2], accessFlags := 1041 }

/-- the primitive char -/
def k24 : Class := { plain "char" none with kind := .primitive 'C', accessFlags := 0x411 }
/-- [C -/
def k25 : Class := { plain "[C" (some 0) with kind := .array 24 .char, interfaces := #[21, 2], accessFlags := 1041 }

/-- the primitive int -/
def k26 : Class := { plain "int" none with kind := .primitive 'I', accessFlags := 0x411 }
/-- [I -/
def k27 : Class := { plain "[I" (some 0) with kind := .array 26 .int, interfaces := #[21, 2], accessFlags := 1041 }

def heap : Heap := #[{ cls := 7, slots := #[.long 0, .int 1, .null, .int 0, .null, .int 0, .int 0], vm := .statics 7 },
  { cls := 11, slots := #[.null, .null, .null], vm := .statics 11 }]
def classes : Array Class := #[k0, k1, k2, k3, k4, k5, k6, k7, k8, k9, k10, k11, k12, k13, k14, k15, k16, k17, k18, k19, k20, k21, k22, k23, k24, k25, k26, k27]
def interned : List (Array UInt16 × Addr) := []
def slotsUsed : Nat := 10
def theMethod : MethodId := ⟨1, 3⟩
def args0 : Array Value := #[.int 5, .int 6, .int 7, .int 8, .int 9]
def aboutOver (below : List Frame) : State where
  vm := { classes := classes, interned := interned.toArray }
  heap := heap
  slotsUsed := slotsUsed
  threads := #[{ frames := .invoking theMethod args0 :: below }]
def below0 : List Frame := [.native { method := ⟨0, 0⟩, args := #[] }]
def about1 : State := aboutOver below0
def p0 : Program := .bare "" "" ""
def e0 : Env := launch0.env 0 0 0
theorem w_frames : about1.frames = Frame.invoking theMethod args0 :: below0 := rfl
set_option maxRecDepth 65536 in
theorem w_args : argsFit about1.vm theMethod args0 = true := by decide +kernel
set_option maxRecDepth 65536 in
theorem w_heap : heapFits about1 = true := by decide +kernel
set_option maxRecDepth 65536 in
theorem w_runnable : about1.curStatus? = some .runnable := by decide +kernel
set_option maxRecDepth 65536 in
theorem w_alone : about1.alone = true := by decide +kernel
set_option maxRecDepth 65536 in
theorem w_named : about1.methodNamed? x = some theMethod := by decide +kernel
set_option maxRecDepth 65536 in
theorem w_hears : about1.hears theMethod below0 = true := by decide +kernel
set_option maxRecDepth 65536 in
theorem w_ripe : about1.ripe theMethod args0 below0 = true := by decide +kernel
theorem w_running : about1.status = .running := rfl
set_option maxRecDepth 65536 in
theorem w_room : about1.hasRoom e0.platform room_1 = true :=
  launch0.hasRoom_least _ room_1 (by decide +kernel) (by decide +kernel) (by decide +kernel) (by decide +kernel) (by decide +kernel) (by decide +kernel)
theorem allAtoms_all (ts : List Jvm.Cond) (a : Array Jvm.Value) (st : Jvm.State) : (allAtoms ts).before a st = ts.all (fun c => c.before a st) := by
  induction ts with
  | nil => rfl
  | cons c t ih =>
    show (Jvm.Cond.and c (allAtoms t)).before a st = _
    rw [Jvm.Cond.before_and, ih, List.all_cons]
def words1 : List Jvm.Cond := Jvm.Cond.code x code maxLocals ret :: tables_1
/-- a 'code' word, met by the world's own term for the bytes: nothing is compared byte by byte -/
theorem code_word {y : MethodName} {bytes : ByteArray} {mx : Nat} {rt : Option FieldType} {a : Array Value} {s : State} {m : MethodId} {meth : Method} {c : Code} (h1 : s.methodNamed? y = some m) (h2 : s.vm.method? m = some meth) (h3 : meth.code = some c) (h4 : c.code = bytes)
    (h5 : (c.maxLocals == mx && c.exceptionTable.isEmpty && decide (c.maxStack ≤ mostOperands) && decide (meth.sig.returnType = rt) && !meth.locks && decide (parseMethodDescriptor y.desc = some meth.sig)) = true) : (Jvm.Cond.code y bytes mx rt).before a s = true := by
  simp only [Bool.and_eq_true, beq_iff_eq, Bool.not_eq_true', decide_eq_true_eq] at h5
  obtain ⟨⟨⟨⟨⟨g1, g2⟩, g3⟩, g4⟩, g5⟩, g6⟩ := h5
  simp [Cond.before, Cond.holds, Cond.value, h1, h2, h3, h4, g1, g2, g3, g4, g5, g6]
def isCode : Jvm.Cond → Bool
  | .code _ _ _ _ => true
  | _ => false
theorem all_split {L : List Jvm.Cond} {P : Jvm.Cond → Bool} (h1 : L.all (fun c => isCode c || P c) = true) (h2 : ∀ c ∈ L.filter isCode, P c = true) : L.all P = true := by
  refine List.all_eq_true.mpr fun c hc => ?_
  have h := List.all_eq_true.mp h1 c hc
  rcases Bool.eq_false_or_eq_true (isCode c) with hi | hi
  · exact h2 c (List.mem_filter.mpr ⟨hc, hi⟩)
  · simpa [hi] using h
set_option maxRecDepth 65536 in
theorem w_c0 : (Jvm.Cond.code x code maxLocals ret).before args0 about1 = true := code_word (m := ⟨1, 3⟩) (meth := k1m3) (c := k1c3) (by decide +kernel) rfl rfl rfl (by decide +kernel)
set_option maxRecDepth 65536 in
theorem w_c1 : (Jvm.Cond.code Y2_ method_2_code (4 : Nat) (Option.some (Jvm.ClassFile.FieldType.object "java/lang/String"))).before args0 about1 = true := code_word (m := ⟨1, 1⟩) (meth := k1m1) (c := k1c1) (by decide +kernel) rfl rfl rfl (by decide +kernel)
set_option maxRecDepth 65536 in
theorem w_c2 : (Jvm.Cond.code Y1_ jdk_42_method_3_code (2 : Nat) (Option.none : Option Jvm.ClassFile.FieldType)).before args0 about1 = true := code_word (m := ⟨7, 1⟩) (meth := k7m1) (c := k7c1) (by decide +kernel) rfl rfl rfl (by decide +kernel)
set_option maxRecDepth 65536 in
theorem w_c3 : (Jvm.Cond.code Y0_ jdk_42_method_149_code (6 : Nat) (Option.none : Option Jvm.ClassFile.FieldType)).before args0 about1 = true := code_word (m := ⟨7, 8⟩) (meth := k7m8) (c := k7c8) (by decide +kernel) rfl rfl rfl (by decide +kernel)
set_option maxRecDepth 65536 in
theorem w_c4 : (Jvm.Cond.code (⟨"java/lang/Object", "<init>", "()V"⟩ : Jvm.MethodName) object_method_1_code (1 : Nat) (Option.none : Option Jvm.ClassFile.FieldType)).before args0 about1 = true := code_word (m := ⟨0, 0⟩) (meth := k0m0) (c := k0c0) (by decide +kernel) rfl rfl rfl (by decide +kernel)
set_option maxRecDepth 65536 in
theorem w_c5 : (Jvm.Cond.code Y3_ method_3_code (4 : Nat) (Option.some (Jvm.ClassFile.FieldType.object "java/lang/String"))).before args0 about1 = true := code_word (m := ⟨1, 2⟩) (meth := k1m2) (c := k1c2) (by decide +kernel) rfl rfl rfl (by decide +kernel)
set_option maxRecDepth 65536 in
theorem w_c6 : (Jvm.Cond.code (⟨"java/lang/StringUTF16", "compress", "([CII)[B"⟩ : Jvm.MethodName) jdk_52_method_16_code (6 : Nat) (Option.some (Jvm.ClassFile.FieldType.array Jvm.ClassFile.FieldType.byte))).before args0 about1 = true := code_word (m := ⟨8, 2⟩) (meth := k8m2) (c := k8c2) (by decide +kernel) rfl rfl rfl (by decide +kernel)
set_option maxRecDepth 65536 in
theorem w_c7 : (Jvm.Cond.code (⟨"java/lang/StringUTF16", "compress", "([CI[BII)I"⟩ : Jvm.MethodName) jdk_52_method_21_code (7 : Nat) (Option.some Jvm.ClassFile.FieldType.int)).before args0 about1 = true := code_word (m := ⟨8, 3⟩) (meth := k8m3) (c := k8c3) (by decide +kernel) rfl rfl rfl (by decide +kernel)
set_option maxRecDepth 65536 in
theorem w_c8 : (Jvm.Cond.code (⟨"java/lang/StringUTF16", "coderFromArrayLen", "([BI)B"⟩ : Jvm.MethodName) jdk_52_method_15_code (2 : Nat) (Option.some Jvm.ClassFile.FieldType.byte)).before args0 about1 = true := code_word (m := ⟨8, 1⟩) (meth := k8m1) (c := k8c1) (by decide +kernel) rfl rfl rfl (by decide +kernel)
set_option maxRecDepth 65536 in
theorem w_c9 : (Jvm.Cond.code Y7_ jdk_42_method_139_code (1 : Nat) (Option.some (Jvm.ClassFile.FieldType.object "java/lang/String"))).before args0 about1 = true := code_word (m := ⟨7, 6⟩) (meth := k7m6) (c := k7c6) (by decide +kernel) rfl rfl rfl (by decide +kernel)
set_option maxRecDepth 65536 in
theorem w_c10 : (Jvm.Cond.code Y4_ jdk_43_method_3_code (1 : Nat) (Option.some Jvm.ClassFile.FieldType.boolean)).before args0 about1 = true := code_word (m := ⟨9, 2⟩) (meth := k9m2) (c := k9c2) (by decide +kernel) rfl rfl rfl (by decide +kernel)
set_option maxRecDepth 65536 in
theorem w_c11 : (Jvm.Cond.code Y5_ jdk_43_method_46_code (1 : Nat) (Option.some (Jvm.ClassFile.FieldType.array Jvm.ClassFile.FieldType.byte))).before args0 about1 = true := code_word (m := ⟨9, 4⟩) (meth := k9m4) (c := k9c4) (by decide +kernel) rfl rfl rfl (by decide +kernel)
set_option maxRecDepth 65536 in
theorem w_c12 : (Jvm.Cond.code Y6_ jdk_42_method_151_code (3 : Nat) (Option.none : Option Jvm.ClassFile.FieldType)).before args0 about1 = true := code_word (m := ⟨7, 10⟩) (meth := k7m10) (c := k7c10) (by decide +kernel) rfl rfl rfl (by decide +kernel)
set_option maxRecDepth 65536 in
theorem w_c13 : (Jvm.Cond.code Y9_ prog_3_method_2_code (7 : Nat) (Option.some (Jvm.ClassFile.FieldType.object "com/example/echoes_to_canon/echoestocanon/HttpUrl$CharClass"))).before args0 about1 = true := code_word (m := ⟨10, 1⟩) (meth := k10m1) (c := k10c1) (by decide +kernel) rfl rfl rfl (by decide +kernel)
set_option maxRecDepth 65536 in
theorem w_c14 : (Jvm.Cond.code Y10_ jdk_42_method_54_code (1 : Nat) (Option.some Jvm.ClassFile.FieldType.int)).before args0 about1 = true := code_word (m := ⟨7, 3⟩) (meth := k7m3) (c := k7c3) (by decide +kernel) rfl rfl rfl (by decide +kernel)
set_option maxRecDepth 65536 in
theorem w_c15 : (Jvm.Cond.code Y24_ jdk_42_method_152_code (1 : Nat) (Option.some Jvm.ClassFile.FieldType.byte)).before args0 about1 = true := code_word (m := ⟨7, 11⟩) (meth := k7m11) (c := k7c11) (by decide +kernel) rfl rfl rfl (by decide +kernel)
set_option maxRecDepth 65536 in
theorem w_c16 : (Jvm.Cond.code Y11_ jdk_42_method_56_code (2 : Nat) (Option.some Jvm.ClassFile.FieldType.char)).before args0 about1 = true := code_word (m := ⟨7, 4⟩) (meth := k7m4) (c := k7c4) (by decide +kernel) rfl rfl rfl (by decide +kernel)
set_option maxRecDepth 65536 in
theorem w_c17 : (Jvm.Cond.code (⟨"java/lang/String", "isLatin1", "()Z"⟩ : Jvm.MethodName) jdk_42_method_154_code (1 : Nat) (Option.some Jvm.ClassFile.FieldType.boolean)).before args0 about1 = true := code_word (m := ⟨7, 12⟩) (meth := k7m12) (c := k7c12) (by decide +kernel) rfl rfl rfl (by decide +kernel)
set_option maxRecDepth 65536 in
theorem w_c18 : (Jvm.Cond.code (⟨"java/lang/StringLatin1", "charAt", "([BI)C"⟩ : Jvm.MethodName) jdk_43_method_2_code (2 : Nat) (Option.some Jvm.ClassFile.FieldType.char)).before args0 about1 = true := code_word (m := ⟨9, 1⟩) (meth := k9m1) (c := k9c1) (by decide +kernel) rfl rfl rfl (by decide +kernel)
set_option maxRecDepth 65536 in
theorem w_c19 : (Jvm.Cond.code (⟨"java/lang/String", "checkIndex", "(II)V"⟩ : Jvm.MethodName) jdk_42_method_155_code (2 : Nat) (Option.none : Option Jvm.ClassFile.FieldType)).before args0 about1 = true := code_word (m := ⟨7, 13⟩) (meth := k7m13) (c := k7c13) (by decide +kernel) rfl rfl rfl (by decide +kernel)
set_option maxRecDepth 65536 in
theorem w_c20 : (Jvm.Cond.code (⟨"jdk/internal/util/Preconditions", "checkIndex", "(IILjava/util/function/BiFunction;)I"⟩ : Jvm.MethodName) jdk_41_method_11_code (3 : Nat) (Option.some Jvm.ClassFile.FieldType.int)).before args0 about1 = true := code_word (m := ⟨11, 1⟩) (meth := k11m1) (c := k11c1) (by decide +kernel) rfl rfl rfl (by decide +kernel)
set_option maxRecDepth 65536 in
theorem w_c21 : (Jvm.Cond.code Y8_ prog_3_method_1_code (5 : Nat) (Option.none : Option Jvm.ClassFile.FieldType)).before args0 about1 = true := code_word (m := ⟨10, 0⟩) (meth := k10m0) (c := k10c0) (by decide +kernel) rfl rfl rfl (by decide +kernel)
set_option maxRecDepth 65536 in
theorem w_c22 : (Jvm.Cond.code Y14_ prog_15_method_5_code (1 : Nat) (Option.some (Jvm.ClassFile.FieldType.object "com/example/echoes_to_canon/echoestocanon/UrlKeys$Value"))).before args0 about1 = true := code_word (m := ⟨12, 1⟩) (meth := k12m1) (c := k12c1) (by decide +kernel) rfl rfl rfl (by decide +kernel)
set_option maxRecDepth 65536 in
theorem w_c23 : (Jvm.Cond.code Y12_ jdk_31_method_11_code (2 : Nat) (Option.some (Jvm.ClassFile.FieldType.object "java/lang/Object"))).before args0 about1 = true := code_word (m := ⟨13, 1⟩) (meth := k13m1) (c := k13c1) (by decide +kernel) rfl rfl rfl (by decide +kernel)
set_option maxRecDepth 65536 in
theorem w_c24 : (Jvm.Cond.code Y13_ prog_15_method_1_code (5 : Nat) (Option.none : Option Jvm.ClassFile.FieldType)).before args0 about1 = true := code_word (m := ⟨12, 0⟩) (meth := k12m0) (c := k12c0) (by decide +kernel) rfl rfl rfl (by decide +kernel)
set_option maxRecDepth 65536 in
theorem w_c25 : (Jvm.Cond.code Y15_ prog_15_method_8_code (1 : Nat) (Option.some Jvm.ClassFile.FieldType.boolean)).before args0 about1 = true := code_word (m := ⟨12, 2⟩) (meth := k12m2) (c := k12c2) (by decide +kernel) rfl rfl rfl (by decide +kernel)
set_option maxRecDepth 65536 in
theorem w_c26 : (Jvm.Cond.code Y16_ prog_15_method_9_code (1 : Nat) (Option.some Jvm.ClassFile.FieldType.boolean)).before args0 about1 = true := code_word (m := ⟨12, 3⟩) (meth := k12m3) (c := k12c3) (by decide +kernel) rfl rfl rfl (by decide +kernel)
set_option maxRecDepth 65536 in
theorem w_c27 : (Jvm.Cond.code Y17_ prog_15_method_10_code (1 : Nat) (Option.some (Jvm.ClassFile.FieldType.object "java/lang/String"))).before args0 about1 = true := code_word (m := ⟨12, 4⟩) (meth := k12m4) (c := k12c4) (by decide +kernel) rfl rfl rfl (by decide +kernel)
set_option maxRecDepth 65536 in
theorem w_c28 : (Jvm.Cond.code Y18_ prog_15_method_11_code (1 : Nat) (Option.some (Jvm.ClassFile.FieldType.object "java/lang/String"))).before args0 about1 = true := code_word (m := ⟨12, 5⟩) (meth := k12m5) (c := k12c5) (by decide +kernel) rfl rfl rfl (by decide +kernel)
set_option maxRecDepth 65536 in
theorem w_c29 : (Jvm.Cond.code Y19_ jdk_42_method_66_code (3 : Nat) (Option.some Jvm.ClassFile.FieldType.boolean)).before args0 about1 = true := code_word (m := ⟨7, 5⟩) (meth := k7m5) (c := k7c5) (by decide +kernel) rfl rfl rfl (by decide +kernel)
set_option maxRecDepth 65536 in
theorem w_c30 : (Jvm.Cond.code Y20_ prog_15_method_12_code (1 : Nat) (Option.some (Jvm.ClassFile.FieldType.object "com/example/echoes_to_canon/echoestocanon/Conversion"))).before args0 about1 = true := code_word (m := ⟨12, 6⟩) (meth := k12m6) (c := k12c6) (by decide +kernel) rfl rfl rfl (by decide +kernel)
set_option maxRecDepth 65536 in
theorem w_c31 : (Jvm.Cond.code Y41_ prog_15_method_18_code (1 : Nat) (Option.some (Jvm.ClassFile.FieldType.object "java/lang/String"))).before args0 about1 = true := code_word (m := ⟨12, 9⟩) (meth := k12m9) (c := k12c9) (by decide +kernel) rfl rfl rfl (by decide +kernel)
set_option maxRecDepth 65536 in
theorem w_c32 : (Jvm.Cond.code Y22_ jdk_67_method_1_code (1 : Nat) (Option.none : Option Jvm.ClassFile.FieldType)).before args0 about1 = true := code_word (m := ⟨16, 0⟩) (meth := k16m0) (c := k16c0) (by decide +kernel) rfl rfl rfl (by decide +kernel)
set_option maxRecDepth 65536 in
theorem w_c33 : (Jvm.Cond.code Y21_ jdk_68_method_2_code (2 : Nat) (Option.none : Option Jvm.ClassFile.FieldType)).before args0 about1 = true := code_word (m := ⟨15, 1⟩) (meth := k15m1) (c := k15c1) (by decide +kernel) rfl rfl rfl (by decide +kernel)
set_option maxRecDepth 65536 in
theorem w_c34 : (Jvm.Cond.code Y29_ jdk_67_method_7_code (2 : Nat) (Option.some (Jvm.ClassFile.FieldType.object "java/lang/StringBuilder"))).before args0 about1 = true := code_word (m := ⟨16, 1⟩) (meth := k16m1) (c := k16c1) (by decide +kernel) rfl rfl rfl (by decide +kernel)
set_option maxRecDepth 65536 in
theorem w_c35 : (Jvm.Cond.code Y28_ jdk_68_method_22_code (3 : Nat) (Option.some (Jvm.ClassFile.FieldType.object "java/lang/AbstractStringBuilder"))).before args0 about1 = true := code_word (m := ⟨15, 4⟩) (meth := k15m4) (c := k15c4) (by decide +kernel) rfl rfl rfl (by decide +kernel)
set_option maxRecDepth 65536 in
theorem w_c36 : (Jvm.Cond.code Y23_ jdk_68_method_9_code (3 : Nat) (Option.none : Option Jvm.ClassFile.FieldType)).before args0 about1 = true := code_word (m := ⟨15, 3⟩) (meth := k15m3) (c := k15c3) (by decide +kernel) rfl rfl rfl (by decide +kernel)
set_option maxRecDepth 65536 in
theorem w_c37 : (Jvm.Cond.code Y27_ jdk_68_method_73_code (3 : Nat) (Option.none : Option Jvm.ClassFile.FieldType)).before args0 about1 = true := code_word (m := ⟨15, 8⟩) (meth := k15m8) (c := k15c8) (by decide +kernel) rfl rfl rfl (by decide +kernel)
set_option maxRecDepth 65536 in
theorem w_c38 : (Jvm.Cond.code Y25_ jdk_68_method_71_code (2 : Nat) (Option.none : Option Jvm.ClassFile.FieldType)).before args0 about1 = true := code_word (m := ⟨15, 7⟩) (meth := k15m7) (c := k15c7) (by decide +kernel) rfl rfl rfl (by decide +kernel)
set_option maxRecDepth 65536 in
theorem w_c39 : (Jvm.Cond.code Y26_ jdk_42_method_147_code (4 : Nat) (Option.none : Option Jvm.ClassFile.FieldType)).before args0 about1 = true := code_word (m := ⟨7, 7⟩) (meth := k7m7) (c := k7c7) (by decide +kernel) rfl rfl rfl (by decide +kernel)
set_option maxRecDepth 65536 in
theorem w_c40 : (Jvm.Cond.code Y40_ jdk_67_method_42_code (1 : Nat) (Option.some (Jvm.ClassFile.FieldType.object "java/lang/String"))).before args0 about1 = true := code_word (m := ⟨16, 2⟩) (meth := k16m2) (c := k16c2) (by decide +kernel) rfl rfl rfl (by decide +kernel)
set_option maxRecDepth 65536 in
theorem w_c41 : (Jvm.Cond.code Y39_ jdk_42_method_53_code (2 : Nat) (Option.none : Option Jvm.ClassFile.FieldType)).before args0 about1 = true := code_word (m := ⟨7, 2⟩) (meth := k7m2) (c := k7c2) (by decide +kernel) rfl rfl rfl (by decide +kernel)
set_option maxRecDepth 65536 in
theorem w_c42 : (Jvm.Cond.code Y38_ jdk_42_method_150_code (5 : Nat) (Option.none : Option Jvm.ClassFile.FieldType)).before args0 about1 = true := code_word (m := ⟨7, 9⟩) (meth := k7m9) (c := k7c9) (by decide +kernel) rfl rfl rfl (by decide +kernel)
set_option maxRecDepth 65536 in
theorem w_c43 : (Jvm.Cond.code Y30_ jdk_68_method_64_code (1 : Nat) (Option.some (Jvm.ClassFile.FieldType.array Jvm.ClassFile.FieldType.byte))).before args0 about1 = true := code_word (m := ⟨15, 5⟩) (meth := k15m5) (c := k15c5) (by decide +kernel) rfl rfl rfl (by decide +kernel)
set_option maxRecDepth 65536 in
theorem w_c44 : (Jvm.Cond.code Y32_ jdk_67_method_93_code (1 : Nat) (Option.some Jvm.ClassFile.FieldType.int)).before args0 about1 = true := code_word (m := ⟨16, 3⟩) (meth := k16m3) (c := k16c3) (by decide +kernel) rfl rfl rfl (by decide +kernel)
set_option maxRecDepth 65536 in
theorem w_c45 : (Jvm.Cond.code Y31_ jdk_68_method_6_code (1 : Nat) (Option.some Jvm.ClassFile.FieldType.int)).before args0 about1 = true := code_word (m := ⟨15, 2⟩) (meth := k15m2) (c := k15c2) (by decide +kernel) rfl rfl rfl (by decide +kernel)
set_option maxRecDepth 65536 in
theorem w_c46 : (Jvm.Cond.code Y33_ jdk_68_method_68_code (1 : Nat) (Option.some Jvm.ClassFile.FieldType.boolean)).before args0 about1 = true := code_word (m := ⟨15, 6⟩) (meth := k15m6) (c := k15c6) (by decide +kernel) rfl rfl rfl (by decide +kernel)
set_option maxRecDepth 65536 in
theorem w_c47 : (Jvm.Cond.code Y37_ jdk_65_method_132_code (3 : Nat) (Option.some (Jvm.ClassFile.FieldType.array Jvm.ClassFile.FieldType.byte))).before args0 about1 = true := code_word (m := ⟨18, 2⟩) (meth := k18m2) (c := k18c2) (by decide +kernel) rfl rfl rfl (by decide +kernel)
set_option maxRecDepth 65536 in
theorem w_c48 : (Jvm.Cond.code Y36_ jdk_65_method_133_code (5 : Nat) (Option.some (Jvm.ClassFile.FieldType.array Jvm.ClassFile.FieldType.byte))).before args0 about1 = true := code_word (m := ⟨18, 3⟩) (meth := k18m3) (c := k18c3) (by decide +kernel) rfl rfl rfl (by decide +kernel)
set_option maxRecDepth 65536 in
theorem w_c49 : (Jvm.Cond.code Y34_ jdk_65_method_131_code (2 : Nat) (Option.none : Option Jvm.ClassFile.FieldType)).before args0 about1 = true := code_word (m := ⟨18, 1⟩) (meth := k18m1) (c := k18c1) (by decide +kernel) rfl rfl rfl (by decide +kernel)
set_option maxRecDepth 65536 in
theorem w_c50 : (Jvm.Cond.code Y35_ jdk_29_method_69_code (2 : Nat) (Option.some Jvm.ClassFile.FieldType.int)).before args0 about1 = true := code_word (m := ⟨19, 1⟩) (meth := k19m1) (c := k19c1) (by decide +kernel) rfl rfl rfl (by decide +kernel)
set_option maxRecDepth 65536 in
theorem w_c51 : (Jvm.Cond.code (⟨"java/lang/StringLatin1", "equals", "([B[B)Z"⟩ : Jvm.MethodName) jdk_43_method_13_code (3 : Nat) (Option.some Jvm.ClassFile.FieldType.boolean)).before args0 about1 = true := code_word (m := ⟨9, 3⟩) (meth := k9m3) (c := k9c3) (by decide +kernel) rfl rfl rfl (by decide +kernel)
set_option maxRecDepth 65536 in
theorem w_c52 : (Jvm.Cond.code Y43_ prog_15_method_16_code (3 : Nat) (Option.some (Jvm.ClassFile.FieldType.object "java/lang/String"))).before args0 about1 = true := code_word (m := ⟨12, 7⟩) (meth := k12m7) (c := k12c7) (by decide +kernel) rfl rfl rfl (by decide +kernel)
set_option maxRecDepth 65536 in
theorem w_c53 : (Jvm.Cond.code Y42_ prog_15_method_17_code (2 : Nat) (Option.some (Jvm.ClassFile.FieldType.object "java/lang/String"))).before args0 about1 = true := code_word (m := ⟨12, 8⟩) (meth := k12m8) (c := k12c8) (by decide +kernel) rfl rfl rfl (by decide +kernel)
def codes1 : List Jvm.Cond := [Jvm.Cond.code x code maxLocals ret, Jvm.Cond.code Y2_ method_2_code (4 : Nat) (Option.some (Jvm.ClassFile.FieldType.object "java/lang/String")), Jvm.Cond.code Y1_ jdk_42_method_3_code (2 : Nat) (Option.none : Option Jvm.ClassFile.FieldType), Jvm.Cond.code Y0_ jdk_42_method_149_code (6 : Nat) (Option.none : Option Jvm.ClassFile.FieldType), Jvm.Cond.code (⟨"java/lang/Object", "<init>", "()V"⟩ : Jvm.MethodName) object_method_1_code (1 : Nat) (Option.none : Option Jvm.ClassFile.FieldType), Jvm.Cond.code Y3_ method_3_code (4 : Nat) (Option.some (Jvm.ClassFile.FieldType.object "java/lang/String")), Jvm.Cond.code (⟨"java/lang/StringUTF16", "compress", "([CII)[B"⟩ : Jvm.MethodName) jdk_52_method_16_code (6 : Nat) (Option.some (Jvm.ClassFile.FieldType.array Jvm.ClassFile.FieldType.byte)), Jvm.Cond.code (⟨"java/lang/StringUTF16", "compress", "([CI[BII)I"⟩ : Jvm.MethodName) jdk_52_method_21_code (7 : Nat) (Option.some Jvm.ClassFile.FieldType.int), Jvm.Cond.code (⟨"java/lang/StringUTF16", "coderFromArrayLen", "([BI)B"⟩ : Jvm.MethodName) jdk_52_method_15_code (2 : Nat) (Option.some Jvm.ClassFile.FieldType.byte), Jvm.Cond.code Y7_ jdk_42_method_139_code (1 : Nat) (Option.some (Jvm.ClassFile.FieldType.object "java/lang/String")), Jvm.Cond.code Y4_ jdk_43_method_3_code (1 : Nat) (Option.some Jvm.ClassFile.FieldType.boolean), Jvm.Cond.code Y5_ jdk_43_method_46_code (1 : Nat) (Option.some (Jvm.ClassFile.FieldType.array Jvm.ClassFile.FieldType.byte)), Jvm.Cond.code Y6_ jdk_42_method_151_code (3 : Nat) (Option.none : Option Jvm.ClassFile.FieldType), Jvm.Cond.code Y9_ prog_3_method_2_code (7 : Nat) (Option.some (Jvm.ClassFile.FieldType.object "com/example/echoes_to_canon/echoestocanon/HttpUrl$CharClass")), Jvm.Cond.code Y10_ jdk_42_method_54_code (1 : Nat) (Option.some Jvm.ClassFile.FieldType.int), Jvm.Cond.code Y24_ jdk_42_method_152_code (1 : Nat) (Option.some Jvm.ClassFile.FieldType.byte), Jvm.Cond.code Y11_ jdk_42_method_56_code (2 : Nat) (Option.some Jvm.ClassFile.FieldType.char), Jvm.Cond.code (⟨"java/lang/String", "isLatin1", "()Z"⟩ : Jvm.MethodName) jdk_42_method_154_code (1 : Nat) (Option.some Jvm.ClassFile.FieldType.boolean), Jvm.Cond.code (⟨"java/lang/StringLatin1", "charAt", "([BI)C"⟩ : Jvm.MethodName) jdk_43_method_2_code (2 : Nat) (Option.some Jvm.ClassFile.FieldType.char), Jvm.Cond.code (⟨"java/lang/String", "checkIndex", "(II)V"⟩ : Jvm.MethodName) jdk_42_method_155_code (2 : Nat) (Option.none : Option Jvm.ClassFile.FieldType), Jvm.Cond.code (⟨"jdk/internal/util/Preconditions", "checkIndex", "(IILjava/util/function/BiFunction;)I"⟩ : Jvm.MethodName) jdk_41_method_11_code (3 : Nat) (Option.some Jvm.ClassFile.FieldType.int), Jvm.Cond.code Y8_ prog_3_method_1_code (5 : Nat) (Option.none : Option Jvm.ClassFile.FieldType), Jvm.Cond.code Y14_ prog_15_method_5_code (1 : Nat) (Option.some (Jvm.ClassFile.FieldType.object "com/example/echoes_to_canon/echoestocanon/UrlKeys$Value")), Jvm.Cond.code Y12_ jdk_31_method_11_code (2 : Nat) (Option.some (Jvm.ClassFile.FieldType.object "java/lang/Object")), Jvm.Cond.code Y13_ prog_15_method_1_code (5 : Nat) (Option.none : Option Jvm.ClassFile.FieldType), Jvm.Cond.code Y15_ prog_15_method_8_code (1 : Nat) (Option.some Jvm.ClassFile.FieldType.boolean), Jvm.Cond.code Y16_ prog_15_method_9_code (1 : Nat) (Option.some Jvm.ClassFile.FieldType.boolean), Jvm.Cond.code Y17_ prog_15_method_10_code (1 : Nat) (Option.some (Jvm.ClassFile.FieldType.object "java/lang/String")), Jvm.Cond.code Y18_ prog_15_method_11_code (1 : Nat) (Option.some (Jvm.ClassFile.FieldType.object "java/lang/String")), Jvm.Cond.code Y19_ jdk_42_method_66_code (3 : Nat) (Option.some Jvm.ClassFile.FieldType.boolean), Jvm.Cond.code Y20_ prog_15_method_12_code (1 : Nat) (Option.some (Jvm.ClassFile.FieldType.object "com/example/echoes_to_canon/echoestocanon/Conversion")), Jvm.Cond.code Y41_ prog_15_method_18_code (1 : Nat) (Option.some (Jvm.ClassFile.FieldType.object "java/lang/String")), Jvm.Cond.code Y22_ jdk_67_method_1_code (1 : Nat) (Option.none : Option Jvm.ClassFile.FieldType), Jvm.Cond.code Y21_ jdk_68_method_2_code (2 : Nat) (Option.none : Option Jvm.ClassFile.FieldType), Jvm.Cond.code Y29_ jdk_67_method_7_code (2 : Nat) (Option.some (Jvm.ClassFile.FieldType.object "java/lang/StringBuilder")), Jvm.Cond.code Y28_ jdk_68_method_22_code (3 : Nat) (Option.some (Jvm.ClassFile.FieldType.object "java/lang/AbstractStringBuilder")), Jvm.Cond.code Y23_ jdk_68_method_9_code (3 : Nat) (Option.none : Option Jvm.ClassFile.FieldType), Jvm.Cond.code Y27_ jdk_68_method_73_code (3 : Nat) (Option.none : Option Jvm.ClassFile.FieldType), Jvm.Cond.code Y25_ jdk_68_method_71_code (2 : Nat) (Option.none : Option Jvm.ClassFile.FieldType), Jvm.Cond.code Y26_ jdk_42_method_147_code (4 : Nat) (Option.none : Option Jvm.ClassFile.FieldType), Jvm.Cond.code Y40_ jdk_67_method_42_code (1 : Nat) (Option.some (Jvm.ClassFile.FieldType.object "java/lang/String")), Jvm.Cond.code Y39_ jdk_42_method_53_code (2 : Nat) (Option.none : Option Jvm.ClassFile.FieldType), Jvm.Cond.code Y38_ jdk_42_method_150_code (5 : Nat) (Option.none : Option Jvm.ClassFile.FieldType), Jvm.Cond.code Y30_ jdk_68_method_64_code (1 : Nat) (Option.some (Jvm.ClassFile.FieldType.array Jvm.ClassFile.FieldType.byte)), Jvm.Cond.code Y32_ jdk_67_method_93_code (1 : Nat) (Option.some Jvm.ClassFile.FieldType.int), Jvm.Cond.code Y31_ jdk_68_method_6_code (1 : Nat) (Option.some Jvm.ClassFile.FieldType.int), Jvm.Cond.code Y33_ jdk_68_method_68_code (1 : Nat) (Option.some Jvm.ClassFile.FieldType.boolean), Jvm.Cond.code Y37_ jdk_65_method_132_code (3 : Nat) (Option.some (Jvm.ClassFile.FieldType.array Jvm.ClassFile.FieldType.byte)), Jvm.Cond.code Y36_ jdk_65_method_133_code (5 : Nat) (Option.some (Jvm.ClassFile.FieldType.array Jvm.ClassFile.FieldType.byte)), Jvm.Cond.code Y34_ jdk_65_method_131_code (2 : Nat) (Option.none : Option Jvm.ClassFile.FieldType), Jvm.Cond.code Y35_ jdk_29_method_69_code (2 : Nat) (Option.some Jvm.ClassFile.FieldType.int), Jvm.Cond.code (⟨"java/lang/StringLatin1", "equals", "([B[B)Z"⟩ : Jvm.MethodName) jdk_43_method_13_code (3 : Nat) (Option.some Jvm.ClassFile.FieldType.boolean), Jvm.Cond.code Y43_ prog_15_method_16_code (3 : Nat) (Option.some (Jvm.ClassFile.FieldType.object "java/lang/String")), Jvm.Cond.code Y42_ prog_15_method_17_code (2 : Nat) (Option.some (Jvm.ClassFile.FieldType.object "java/lang/String"))]
set_option maxRecDepth 65536 in
theorem codes_eq : words1.filter isCode = codes1 := rfl
theorem w_codes : ∀ c ∈ words1.filter isCode, c.before args0 about1 = true := by
  rw [codes_eq]
  intro c hc
  simp only [codes1, List.mem_cons, List.not_mem_nil, or_false] at hc
  rcases hc with rfl | rfl | rfl | rfl | rfl | rfl | rfl | rfl | rfl | rfl | rfl | rfl | rfl | rfl | rfl | rfl | rfl | rfl | rfl | rfl | rfl | rfl | rfl | rfl | rfl | rfl | rfl | rfl | rfl | rfl | rfl | rfl | rfl | rfl | rfl | rfl | rfl | rfl | rfl | rfl | rfl | rfl | rfl | rfl | rfl | rfl | rfl | rfl | rfl | rfl | rfl | rfl | rfl | rfl
  · exact w_c0
  · exact w_c1
  · exact w_c2
  · exact w_c3
  · exact w_c4
  · exact w_c5
  · exact w_c6
  · exact w_c7
  · exact w_c8
  · exact w_c9
  · exact w_c10
  · exact w_c11
  · exact w_c12
  · exact w_c13
  · exact w_c14
  · exact w_c15
  · exact w_c16
  · exact w_c17
  · exact w_c18
  · exact w_c19
  · exact w_c20
  · exact w_c21
  · exact w_c22
  · exact w_c23
  · exact w_c24
  · exact w_c25
  · exact w_c26
  · exact w_c27
  · exact w_c28
  · exact w_c29
  · exact w_c30
  · exact w_c31
  · exact w_c32
  · exact w_c33
  · exact w_c34
  · exact w_c35
  · exact w_c36
  · exact w_c37
  · exact w_c38
  · exact w_c39
  · exact w_c40
  · exact w_c41
  · exact w_c42
  · exact w_c43
  · exact w_c44
  · exact w_c45
  · exact w_c46
  · exact w_c47
  · exact w_c48
  · exact w_c49
  · exact w_c50
  · exact w_c51
  · exact w_c52
  · exact w_c53
set_option maxRecDepth 65536 in
theorem w_t1 : (words1.take 24).all (fun c => isCode c || c.before args0 about1) = true := by decide +kernel
set_option maxRecDepth 65536 in
theorem w_t2 : ((words1.drop 24).take 24).all (fun c => isCode c || c.before args0 about1) = true := by decide +kernel
set_option maxRecDepth 65536 in
theorem w_t3 : (((words1.drop 24).drop 24).take 24).all (fun c => isCode c || c.before args0 about1) = true := by decide +kernel
set_option maxRecDepth 65536 in
theorem w_t4 : ((((words1.drop 24).drop 24).drop 24).take 24).all (fun c => isCode c || c.before args0 about1) = true := by decide +kernel
set_option maxRecDepth 65536 in
theorem w_t5 : (((((words1.drop 24).drop 24).drop 24).drop 24).take 24).all (fun c => isCode c || c.before args0 about1) = true := by decide +kernel
set_option maxRecDepth 65536 in
theorem w_t6 : ((((((words1.drop 24).drop 24).drop 24).drop 24).drop 24).take 24).all (fun c => isCode c || c.before args0 about1) = true := by decide +kernel
set_option maxRecDepth 65536 in
theorem w_t7 : (((((((words1.drop 24).drop 24).drop 24).drop 24).drop 24).drop 24).take 24).all (fun c => isCode c || c.before args0 about1) = true := by decide +kernel
set_option maxRecDepth 65536 in
theorem w_t8 : ((((((((words1.drop 24).drop 24).drop 24).drop 24).drop 24).drop 24).drop 24).take 24).all (fun c => isCode c || c.before args0 about1) = true := by decide +kernel
set_option maxRecDepth 65536 in
theorem w_t9 : (((((((((words1.drop 24).drop 24).drop 24).drop 24).drop 24).drop 24).drop 24).drop 24).take 24).all (fun c => isCode c || c.before args0 about1) = true := by decide +kernel
set_option maxRecDepth 65536 in
theorem w_t10 : ((((((((((words1.drop 24).drop 24).drop 24).drop 24).drop 24).drop 24).drop 24).drop 24).drop 24).take 24).all (fun c => isCode c || c.before args0 about1) = true := by decide +kernel
set_option maxRecDepth 65536 in
theorem w_t11 : (((((((((((words1.drop 24).drop 24).drop 24).drop 24).drop 24).drop 24).drop 24).drop 24).drop 24).drop 24).take 24).all (fun c => isCode c || c.before args0 about1) = true := by decide +kernel
set_option maxRecDepth 65536 in
theorem w_t12 : (((((((((((words1.drop 24).drop 24).drop 24).drop 24).drop 24).drop 24).drop 24).drop 24).drop 24).drop 24).drop 24).all (fun c => isCode c || c.before args0 about1) = true := by decide +kernel
theorem w_tables : (allAtoms (Jvm.Cond.code x code maxLocals ret :: tables_1)).before args0 about1 = true := by
  rw [allAtoms_all]
  show words1.all (fun c => c.before args0 about1) = true
  refine all_split ?_ w_codes
  rw [← List.take_append_drop 24 words1, List.all_append, w_t1, ← List.take_append_drop 24 (words1.drop 24), List.all_append, w_t2, ← List.take_append_drop 24 ((words1.drop 24).drop 24), List.all_append, w_t3, ← List.take_append_drop 24 (((words1.drop 24).drop 24).drop 24), List.all_append, w_t4, ← List.take_append_drop 24 ((((words1.drop 24).drop 24).drop 24).drop 24), List.all_append, w_t5, ← List.take_append_drop 24 (((((words1.drop 24).drop 24).drop 24).drop 24).drop 24), List.all_append, w_t6, ← List.take_append_drop 24 ((((((words1.drop 24).drop 24).drop 24).drop 24).drop 24).drop 24), List.all_append, w_t7, ← List.take_append_drop 24 (((((((words1.drop 24).drop 24).drop 24).drop 24).drop 24).drop 24).drop 24), List.all_append, w_t8, ← List.take_append_drop 24 ((((((((words1.drop 24).drop 24).drop 24).drop 24).drop 24).drop 24).drop 24).drop 24), List.all_append, w_t9, ← List.take_append_drop 24 (((((((((words1.drop 24).drop 24).drop 24).drop 24).drop 24).drop 24).drop 24).drop 24).drop 24), List.all_append, w_t10, ← List.take_append_drop 24 ((((((((((words1.drop 24).drop 24).drop 24).drop 24).drop 24).drop 24).drop 24).drop 24).drop 24).drop 24), List.all_append, w_t11, w_t12]
  rfl
set_option maxRecDepth 65536 in
theorem w_rest : rest_1_c.before args0 about1 = true := by decide +kernel
set_option maxRecDepth 65536 in
theorem w_case : (Jvm.Cond.and given_1 narrow_1).before args0 about1 = true := by decide +kernel
set_option maxRecDepth 65536 in
theorem w_consts : constsHeld consts_1 about1 := Jvm.Lit.constsHeldB_iff.mp (by decide +kernel)
theorem w_applies : (headSpec (Jvm.Cond.code x code maxLocals ret :: tables_1) room_1).applies x e0.platform about1 = true :=
  (Spec.applies_iff w_frames).mpr ⟨w_running, w_runnable, w_alone, w_named, w_hears, w_ripe, w_room, w_tables⟩
theorem atStart : AtStart classFile x code maxLocals ret World_1 tables_1 room_1 Calls_1 rest_1 Pre_1 launch0 p0 e0 about1 theMethod args0 below0 :=
  ⟨lists_1, trivial, launch0.admits_env _ _ _, launch0.least_env, fairChoices_fair.cas, fairChoices_fair.clock, w_frames, w_args, w_heap, w_applies, ⟨w_consts, trivial⟩, w_rest, w_case⟩
end start1
theorem witness_1 : WitnessClaimed_1 := ⟨start1.p0, start1.e0, start1.about1, start1.theMethod, start1.args0, start1.below0, start1.atStart⟩
end Jvm.Pilot.@@N@@
