import JvmDerived
import JvmDerived.Pilot.@@N@@Statement
import JvmDerived.Pilot.@@N@@Code
set_option linter.unusedVariables false
set_option linter.unusedSimpArgs false
namespace Jvm.RoadKit
open Sem ClassFile Op Lib Jvm.Stand Jvm.Free Jvm.LawKit
section New
variable {p : Program} {l : Launch} {e : Env} {R : Room} {s : State} {m : MethodId} {args : Array Value} {below : List Frame} {meth : Method} {c : Code} {T : State} {locs : List Loc} {cells slots : Nat}
theorem retI (X : Stand p l e R s m args below meth c T locs cells slots) (hx : p.tables.exec = Jvm.exec) {pc : Nat} {Ls : Array Slot} {z : Int32} {rest : List Value} (hret : meth.sig.returnType = some .int) (hd : decode c.code pc = .ok (.ireturn, 1)) {fs : List Frame}
    (hl : ∀ (f : JFrame) (acts : List Action), f.method = m → f.locked = none → f.entered = [] → (doReturn e (T.setTop f) acts (some (.int z))).1 = T.setFrames fs) : Steps p.tables e below (T.setTop (mkF m pc Ls (.int z :: rest))) (T.setFrames fs) :=
  retOut X hx hret rfl (Or.inl ⟨rfl, Or.inl rfl, z, rfl⟩) hd hl
end New
end Jvm.RoadKit
/- laws to paste: Road.backV, Road.chN, Road.codOf (cut by pick.py; bodies as the Statement names them) -/
namespace Jvm.Pilot.@@N@@
namespace StrChars
open Jvm Sem ClassFile Op Lib Jvm.Stand Jvm.Free.XT Jvm.Free.ALB Jvm.Free.JM Jvm.Free
open Jvm.Lib.Cold (StaticIs)
/-- a char array whose places are chars -/
def Ch (a : Addr) (A : Cell) (U : State) : Prop := Arr .char a A U ∧ Typed .char A
theorem Ch.mv {a : Addr} {A : Cell} {U U' : State} (h : Ch a A U) (hal : U.vm.Alike U'.vm) (hh : U'.heap = U.heap) : Ch a A U' := ⟨h.1.mv hal hh, h.2⟩
theorem Ch.keep {a : Addr} {A : Cell} {U U' : State} (h : Ch a A U) (hal : U.vm.Alike U'.vm) (hk : U'.heap[a]? = some A) : Ch a A U' := ⟨h.1.keep hal hk, h.2⟩
/-- what place i of a char[]'s cell holds -/
def cv (A : Cell) (i : Nat) : Int32 := match A.slots[i]? with | some (.int x) => x | _ => 0
theorem Ch.get {a : Addr} {A : Cell} {U : State} (h : Ch a A U) {i : Nat} (hi : i < A.slots.size) : A.slots[i]? = some (.int (cv A i)) := by
  have e := Array.getElem?_eq_getElem hi
  have f := h.2 i _ e
  unfold cv; rw [e]
  generalize A.slots[i] = v at f
  cases v <;> simp [fits] at f ⊢
/-- the byte that i2b leaves of a char -/
def lo8 (x : Int32) : Int32 := x.toInt8.toInt32
theorem fits_lo8 (y : Int32) : fits .byte (.int (lo8 y)) = true := by
  have h1 := y.toInt8.le_toInt
  have h2 := y.toInt8.toInt_lt
  simp only [lo8, fits, Bool.and_eq_true, decide_eq_true_eq, Int32.le_iff_toInt_le, Int8.toInt_toInt32, show (-128 : Int32).toInt = -128 from by decide, show (127 : Int32).toInt = 127 from by decide]
  omega
/-- A' is A but that each place j of lo .. hi - 1 holds f j -/
def Laid (A A' : Cell) (lo hi : Nat) (f : Nat → Value) : Prop := A'.cls = A.cls ∧ A'.vm = A.vm ∧ A'.slots.size = A.slots.size ∧ ∀ i, A'.slots[i]? = if lo ≤ i ∧ i < hi then some (f i) else A.slots[i]?
theorem Laid.zero (A : Cell) (lo : Nat) (f : Nat → Value) : Laid A A lo (lo + 0) f := ⟨rfl, rfl, rfl, fun i => by rw [if_neg (by omega)]⟩
theorem Laid.step {A Ak : Cell} {lo k : Nat} {f : Nat → Value} {v : Value} (h : Laid A Ak lo k f) (hlo : lo ≤ k) (hk : k < Ak.slots.size) (hv : v = f k) : Laid A (Ak.setSlot k v) lo (k + 1) f := by
  refine ⟨h.1, h.2.1, by simpa [Cell.setSlot] using h.2.2.1, fun i => ?_⟩
  by_cases e : k = i
  · subst e; rw [Cell.slots_setSlot_self v hk, if_pos (by omega), hv]
  · rw [Cell.slots_setSlot_ne v e, h.2.2.2 i]
    by_cases q : lo ≤ i ∧ i < k
    · rw [if_pos q, if_pos (by omega)]
    · rw [if_neg q, if_neg (by omega)]
def U16 : String := "java/lang/StringUTF16"
namespace Cmp5
def yN : MethodName := ⟨"java/lang/StringUTF16", "compress", "([CI[BII)I"⟩
abbrev yB : ByteArray := jdk_52_method_21_code
theorem d0 : decode yB 0 = .ok (.iconst 0, 1) := by decide +kernel
theorem d1 : decode yB 1 = .ok (.istore 5, 2) := by decide +kernel
theorem d3 : decode yB 3 = .ok (.iload 5, 2) := by decide +kernel
theorem d5 : decode yB 5 = .ok (.iload 4, 2) := by decide +kernel
theorem d7 : decode yB 7 = .ok (.if_icmp (.ge) 37, 3) := by decide +kernel
theorem d10 : decode yB 10 = .ok (.aload_n 0, 1) := by decide +kernel
theorem d11 : decode yB 11 = .ok (.iload_n 1, 1) := by decide +kernel
theorem d12 : decode yB 12 = .ok (.caload, 1) := by decide +kernel
theorem d13 : decode yB 13 = .ok (.istore 6, 2) := by decide +kernel
theorem d15 : decode yB 15 = .ok (.iload 6, 2) := by decide +kernel
theorem d17 : decode yB 17 = .ok (.sipush 255, 3) := by decide +kernel
theorem d20 : decode yB 20 = .ok (.if_icmp (.le) 6, 3) := by decide +kernel
theorem d26 : decode yB 26 = .ok (.aload_n 2, 1) := by decide +kernel
theorem d27 : decode yB 27 = .ok (.iload_n 3, 1) := by decide +kernel
theorem d28 : decode yB 28 = .ok (.iload 6, 2) := by decide +kernel
theorem d30 : decode yB 30 = .ok (.i2b, 1) := by decide +kernel
theorem d31 : decode yB 31 = .ok (.bastore, 1) := by decide +kernel
theorem d32 : decode yB 32 = .ok (.iinc 1 1, 3) := by decide +kernel
theorem d35 : decode yB 35 = .ok (.iinc 3 1, 3) := by decide +kernel
theorem d38 : decode yB 38 = .ok (.iinc 5 1, 3) := by decide +kernel
theorem d41 : decode yB 41 = .ok (.goto (-38), 3) := by decide +kernel
theorem d44 : decode yB 44 = .ok (.iload 4, 2) := by decide +kernel
theorem d46 : decode yB 46 = .ok (.ireturn, 1) := by decide +kernel
def site : List Cond := []
def tab : Cond := tabOf yN yB 7 (some .int) site
def P (b : Addr) (A : Cell) (d : Addr) (B : Cell) (o q len : Nat) (args : Array Value) (s : State) : Prop := args = #[.ref b, .int (Int32.ofNat o), .ref d, .int (Int32.ofNat q), .int (Int32.ofNat len)] ∧ Ch b A s ∧ Arr .byte d B s ∧ b ≠ d ∧ o + len ≤ A.slots.size ∧ q + len ≤ B.slots.size ∧ ∀ i, i < len → ¬ 255 < cv A (o + i)
def E (b : Addr) (A : Cell) (d : Addr) (B : Cell) (o q len : Nat) (r : Option Value) (s u : State) : Prop := r = some (.int (Int32.ofNat len)) ∧ ∃ B', Put d B' s u ∧ Laid B B' q (q + len) (fun j => Value.int (lo8 (cv A (o + (j - q)))))
/-- no char of the range above 255: len; the places written hold each char's low byte -/
theorem law (l : Launch) (b : Addr) (A : Cell) (d : Addr) (B : Cell) (o q len : Nat) : Law l yN 5 5 0 0 yB 7 (some .int) site (P b A d B o q len) (E b A d B o q len) (copyLocs d q len) 0 0 := by
  refine Law.of_walk (plainFor_of_name (by decide +kernel)) (by decide +kernel) (by decide +kernel) (by decide) (fun _ _ h => by rw [h.1]; rfl) (fun _ U U' hal hh h => ⟨h.1, h.2.1.mv hal hh, h.2.2.1.mv hal hh, h.2.2.2⟩) (fun r U U' V V' h1 hal h2 h => ⟨h.1, h.2.elim fun B' q => ⟨B', q.1.mv h1 h2, q.2⟩⟩) ?_
  intro p e s m args below meth c s₁ X0 hexec hbytes hml hret hlk hnm hown hh0 W hP
  obtain ⟨rfl, hA, hB, hne, l1, l2, hp⟩ := hP
  have c1 : Steps p.tables e below (s₁.setTop (entryFrame m #[.ref b, .int (Int32.ofNat o), .ref d, .int (Int32.ofNat q), .int (Int32.ofNat len)] 7)) (s₁.setTop (mkF m 0 #[.val (.ref b), .val (.int (Int32.ofNat o)), .val (.ref d), .val (.int (Int32.ofNat q)), .val (.int (Int32.ofNat len)), .unset, .unset] [])) := entry rfl
  have hA0 := hA.1.mv X0.warmed.alike hh0
  have hB0 := hB.mv X0.warmed.alike hh0
  have a31 := hA.1.2.2.2
  have c2 : Steps p.tables e below (s₁.setTop (entryFrame m #[.ref b, .int (Int32.ofNat o), .ref d, .int (Int32.ofNat q), .int (Int32.ofNat len)] 7)) (s₁.setTop (mkF m 3 #[.val (.ref b), .val (.int (Int32.ofNat o)), .val (.ref d), .val (.int (Int32.ofNat q)), .val (.int (Int32.ofNat len)), .val (.int 0), .unset] [])) := c1.trans (by
    refine iconstV X0.here hexec rfl 0 (hb hbytes d0) (by decide) ?_
    refine XS.istore X0.here hexec rfl (hb hbytes d1) rfl rfl ?_
    exact Steps.refl _)
  have loop : ∀ (r i : Nat), i + r = len → ∀ (z : Slot), (z = .unset ∨ ∃ w, z = .val w ∧ w.category = 1) → ∀ (Tl : State) (Bk : Cell), Stand p l e { frames := 0, locals := 0, cells := 0, slots := 0 } s m #[.ref b, .int (Int32.ofNat o), .ref d, .int (Int32.ofNat q), .int (Int32.ofNat len)] below meth c Tl ([] ++ copyLocs d q i) 0 0 → Put d Bk s₁ Tl → Laid B Bk q (q + i) (fun j => Value.int (lo8 (cv A (o + (j - q))))) →
      Steps p.tables e below (s₁.setTop (entryFrame m #[.ref b, .int (Int32.ofNat o), .ref d, .int (Int32.ofNat q), .int (Int32.ofNat len)] 7)) (Tl.setTop (mkF m 3 #[.val (.ref b), .val (.int (Int32.ofNat (o + i))), .val (.ref d), .val (.int (Int32.ofNat (q + i))), .val (.int (Int32.ofNat len)), .val (.int (Int32.ofNat i)), z] [])) → ∃ (T' : State) (B' : Cell) (z' : Slot), Stand p l e { frames := 0, locals := 0, cells := 0, slots := 0 } s m #[.ref b, .int (Int32.ofNat o), .ref d, .int (Int32.ofNat q), .int (Int32.ofNat len)] below meth c T' ([] ++ copyLocs d q len) 0 0 ∧ Put d B' s₁ T' ∧ Laid B B' q (q + len) (fun j => Value.int (lo8 (cv A (o + (j - q))))) ∧
      Steps p.tables e below (s₁.setTop (entryFrame m #[.ref b, .int (Int32.ofNat o), .ref d, .int (Int32.ofNat q), .int (Int32.ofNat len)] 7)) (T'.setTop (mkF m 3 #[.val (.ref b), .val (.int (Int32.ofNat (o + len))), .val (.ref d), .val (.int (Int32.ofNat (q + len))), .val (.int (Int32.ofNat len)), .val (.int (Int32.ofNat len)), z'] [])) := by
    intro r
    induction r with
    | zero =>
      intro i hi z hz Tl Bk Xl pl fl cl
      have hil : i = len := by omega
      rw [hil] at Xl fl cl
      exact ⟨Tl, Bk, z, Xl, pl, fl, cl⟩
    | succ r ih =>
      intro i hi z hz Tl Bk Xl pl fl cl
      have all := X0.warmed.alike.symm.trans Xl.warmed.alike
      have hAl := hA0.keep all (pl.other hne hA0.1)
      have hBk := hB0.like all pl.1 fl.1 fl.2.1 fl.2.2.1
      have hlt : q + i < Bk.slots.size := by rw [fl.2.2.1]; omega
      have c3 : Steps p.tables e below (s₁.setTop (entryFrame m #[.ref b, .int (Int32.ofNat o), .ref d, .int (Int32.ofNat q), .int (Int32.ofNat len)] 7)) (Tl.setTop (mkF m 12 #[.val (.ref b), .val (.int (Int32.ofNat (o + i))), .val (.ref d), .val (.int (Int32.ofNat (q + i))), .val (.int (Int32.ofNat len)), .val (.int (Int32.ofNat i)), z] [.int (Int32.ofNat (o + i)), .ref b])) := cl.trans (by
        refine XS.iload Xl.here hexec rfl (hb hbytes d3) rfl ?_
        refine XS.iload Xl.here hexec rfl (hb hbytes d5) rfl ?_
        refine XS.icmpNo Xl.here hexec rfl (hb hbytes d7) rfl (ii_ge_f (lt32 (by omega) (by omega))) ?_
        refine XS.aloadN Xl.here hexec rfl (hb hbytes d10) rfl rfl ?_
        refine XS.iloadN Xl.here hexec rfl (hb hbytes d11) rfl ?_
        exact Steps.refl _)
      have c4 : Steps p.tables e below (s₁.setTop (entryFrame m #[.ref b, .int (Int32.ofNat o), .ref d, .int (Int32.ofNat q), .int (Int32.ofNat len)] 7)) (Tl.setTop (mkF m 13 #[.val (.ref b), .val (.int (Int32.ofNat (o + i))), .val (.ref d), .val (.int (Int32.ofNat (q + i))), .val (.int (Int32.ofNat len)), .val (.int (Int32.ofNat i)), z] [.int (cv A (o + i))])) := c3.trans (by
        refine Xl.aget hexec hAl rfl (hA.get (i := o + i) (by omega)) rfl rfl (hb hbytes d12) ?_
        exact Steps.refl _)
      have c5 : Steps p.tables e below (s₁.setTop (entryFrame m #[.ref b, .int (Int32.ofNat o), .ref d, .int (Int32.ofNat q), .int (Int32.ofNat len)] 7)) (Tl.setTop (mkF m 15 #[.val (.ref b), .val (.int (Int32.ofNat (o + i))), .val (.ref d), .val (.int (Int32.ofNat (q + i))), .val (.int (Int32.ofNat len)), .val (.int (Int32.ofNat i)), .val (.int (cv A (o + i)))] [])) := c4.trans (by
        refine XS.istoreS Xl.here hexec rfl (hb hbytes d13) rfl rfl hz ?_
        exact Steps.refl _)
      have c6 : Steps p.tables e below (s₁.setTop (entryFrame m #[.ref b, .int (Int32.ofNat o), .ref d, .int (Int32.ofNat q), .int (Int32.ofNat len)] 7)) (Tl.setTop (mkF m 31 #[.val (.ref b), .val (.int (Int32.ofNat (o + i))), .val (.ref d), .val (.int (Int32.ofNat (q + i))), .val (.int (Int32.ofNat len)), .val (.int (Int32.ofNat i)), .val (.int (cv A (o + i)))] [.int (lo8 (cv A (o + i))), .int (Int32.ofNat (q + i)), .ref d])) := c5.trans (by
        refine XS.iload Xl.here hexec rfl (hb hbytes d15) rfl ?_
        refine sipushV Xl.here hexec rfl 255 (hb hbytes d17) (by decide) ?_
        refine XS.icmpYes Xl.here hexec rfl (pc0 := 20) rfl (hb hbytes d20) rfl (ii_le_t (hp i (by omega))) (by decide) rfl ?_
        refine XS.aloadN Xl.here hexec rfl (hb hbytes d26) rfl rfl ?_
        refine XS.iloadN Xl.here hexec rfl (hb hbytes d27) rfl ?_
        refine XS.iload Xl.here hexec rfl (hb hbytes d28) rfl ?_
        refine i2b Xl.here hexec rfl (hb hbytes d30) rfl ?_
        exact Steps.refl _)
      obtain ⟨T7, X7, p7, st7⟩ := Xl.aput hexec hBk rfl hlt rfl (fits_lo8 (cv A (o + i))) (g := (mkF m 31 #[.val (.ref b), .val (.int (Int32.ofNat (o + i))), .val (.ref d), .val (.int (Int32.ofNat (q + i))), .val (.int (Int32.ofNat len)), .val (.int (Int32.ofNat i)), .val (.int (cv A (o + i)))] [.int (lo8 (cv A (o + i))), .int (Int32.ofNat (q + i)), .ref d])) rfl (rest := []) rfl (hb hbytes d31)
      have c8 : Steps p.tables e below (s₁.setTop (entryFrame m #[.ref b, .int (Int32.ofNat o), .ref d, .int (Int32.ofNat q), .int (Int32.ofNat len)] 7)) (T7.setTop (mkF m 32 #[.val (.ref b), .val (.int (Int32.ofNat (o + i))), .val (.ref d), .val (.int (Int32.ofNat (q + i))), .val (.int (Int32.ofNat len)), .val (.int (Int32.ofNat i)), .val (.int (cv A (o + i)))] [])) := c6.trans (st7 _ (Steps.refl _))
      have c9 : Steps p.tables e below (s₁.setTop (entryFrame m #[.ref b, .int (Int32.ofNat o), .ref d, .int (Int32.ofNat q), .int (Int32.ofNat len)] 7)) (T7.setTop (mkF m 3 #[.val (.ref b), .val (.int (Int32.ofNat (o + i) + 1)), .val (.ref d), .val (.int (Int32.ofNat (q + i) + 1)), .val (.int (Int32.ofNat len)), .val (.int (Int32.ofNat i + 1)), .val (.int (cv A (o + i)))] [])) := c8.trans (by
        refine iincV X7.here hexec rfl 1 (hb hbytes d32) (by decide) rfl rfl ?_
        refine iincV X7.here hexec rfl 1 (hb hbytes d35) (by decide) rfl rfl ?_
        refine iincV X7.here hexec rfl 1 (hb hbytes d38) (by decide) rfl rfl ?_
        refine XS.goto X7.here hexec rfl (pc0 := 41) rfl (hb hbytes d41) (by decide) rfl ?_
        exact Steps.refl _)
      have c10 : Steps p.tables e below (s₁.setTop (entryFrame m #[.ref b, .int (Int32.ofNat o), .ref d, .int (Int32.ofNat q), .int (Int32.ofNat len)] 7)) (T7.setTop (mkF m 3 #[.val (.ref b), .val (.int (Int32.ofNat (o + (i + 1)))), .val (.ref d), .val (.int (Int32.ofNat (q + (i + 1)))), .val (.int (Int32.ofNat len)), .val (.int (Int32.ofNat (i + 1))), .val (.int (cv A (o + i)))] [])) := by
        have := c9
        rw [succ32, succ32, succ32] at this
        exact this
      exact ih (i + 1) (by omega) _ (Or.inr ⟨_, rfl, rfl⟩) T7 _ (by rw [copyLocs_step, ← List.append_assoc]; exact X7) (pl.trans p7) (fl.step (by omega) hlt (by simp)) c10
  obtain ⟨T9, B9, z9, X9, p9, f9, g9⟩ := loop len 0 (by omega) .unset (Or.inl rfl) s₁ B (by simpa [copyLocs] using X0) ⟨hB0.1, fun _ _ => rfl, rfl⟩ (Laid.zero _ _ _) c2
  have c11 : Steps p.tables e below (s₁.setTop (entryFrame m #[.ref b, .int (Int32.ofNat o), .ref d, .int (Int32.ofNat q), .int (Int32.ofNat len)] 7)) (T9.setTop (mkF m 46 #[.val (.ref b), .val (.int (Int32.ofNat (o + len))), .val (.ref d), .val (.int (Int32.ofNat (q + len))), .val (.int (Int32.ofNat len)), .val (.int (Int32.ofNat len)), z9] [.int (Int32.ofNat len)])) := g9.trans (by
    refine XS.iload X9.here hexec rfl (hb hbytes d3) rfl ?_
    refine XS.iload X9.here hexec rfl (hb hbytes d5) rfl ?_
    refine XS.icmpYes X9.here hexec rfl (pc0 := 7) rfl (hb hbytes d7) rfl (ii_ge_t (nlt32 (by omega) (Nat.le_refl _))) (by decide) rfl ?_
    refine XS.iload X9.here hexec rfl (hb hbytes d44) rfl ?_
    exact Steps.refl _)
  exact ⟨T9, some (.int (Int32.ofNat len)), _, _, _, X9, by simp, rfl, rfl, (fun h => by cases h), ⟨rfl, B9, p9.from hh0, f9⟩, fun fs hl => c11.trans (X9.ireturnOut hexec hret rfl (Or.inl rfl) (hb hbytes d46) hl)⟩
end Cmp5
namespace Cmp3
def yN : MethodName := ⟨"java/lang/StringUTF16", "compress", "([CII)[B"⟩
abbrev yB : ByteArray := jdk_52_method_16_code
theorem d0 : decode yB 0 = .ok (.iload_n 2, 1) := by decide +kernel
theorem d1 : decode yB 1 = .ok (.newarray .byte, 2) := by decide +kernel
theorem d3 : decode yB 3 = .ok (.astore_n 3, 1) := by decide +kernel
theorem d4 : decode yB 4 = .ok (.aload_n 0, 1) := by decide +kernel
theorem d5 : decode yB 5 = .ok (.iload_n 1, 1) := by decide +kernel
theorem d6 : decode yB 6 = .ok (.aload_n 3, 1) := by decide +kernel
theorem d7 : decode yB 7 = .ok (.iconst 0, 1) := by decide +kernel
theorem d8 : decode yB 8 = .ok (.iload_n 2, 1) := by decide +kernel
theorem d9 : decode yB 9 = .ok (.invokestatic 115, 3) := by decide +kernel
theorem d12 : decode yB 12 = .ok (.istore 4, 2) := by decide +kernel
theorem d14 : decode yB 14 = .ok (.iload 4, 2) := by decide +kernel
theorem d16 : decode yB 16 = .ok (.iload_n 2, 1) := by decide +kernel
theorem d17 : decode yB 17 = .ok (.if_icmp (.eq) 40, 3) := by decide +kernel
theorem d57 : decode yB 57 = .ok (.aload_n 3, 1) := by decide +kernel
theorem d58 : decode yB 58 = .ok (.areturn, 1) := by decide +kernel
def site : List Cond := [.arrayClass .byte, Cmp5.tab] ++ staticW U16 115 Cmp5.yN
def tab : Cond := tabOf yN yB 6 (some (.array .byte)) site
def P (b : Addr) (A : Cell) (o len : Nat) (args : Array Value) (s : State) : Prop := args = #[.ref b, .int (Int32.ofNat o), .int (Int32.ofNat len)] ∧ Ch b A s ∧ o + len ≤ A.slots.size ∧ len ≤ 536870912 ∧ ∀ i, i < len → ¬ 255 < cv A (o + i)
def E (b : Addr) (A : Cell) (o len : Nat) (r : Option Value) (s u : State) : Prop := NewArr .byte "[B" len (fun j => .int (lo8 (cv A (o + j)))) r s u ∧ u.heap.size = s.heap.size + 1
/-- no char of the range above 255: a new byte[] of their low bytes -/
theorem law (l : Launch) (b : Addr) (A : Cell) (o len : Nat) : Law l yN 3 3 1 18 yB 6 (some (.array .byte)) site (P b A o len) (E b A o len) [] 1 len := by
  refine Law.of_walk (plainFor_of_name (by decide +kernel)) (by decide +kernel) (by decide +kernel) (by decide) (fun _ _ h => by rw [h.1]; rfl) (fun _ U U' hal hh h => ⟨h.1, h.2.1.mv hal hh, h.2.2⟩) (fun r U U' V V' h1 hal h2 h => ⟨NewArr.mv r U U' V V' h1 hal h2 h.1, by rw [h1, h2]; exact h.2⟩) ?_
  intro p e s m args below meth c s₁ X0 hexec hbytes hml hret hlk hnm hown hh0 W hP
  obtain ⟨rfl, hA, l1, l2, hp⟩ := hP
  have a31 := hA.1.2.2.2
  have c1 : Steps p.tables e below (s₁.setTop (entryFrame m #[.ref b, .int (Int32.ofNat o), .int (Int32.ofNat len)] 6)) (s₁.setTop (mkF m 0 #[.val (.ref b), .val (.int (Int32.ofNat o)), .val (.int (Int32.ofNat len)), .unset, .unset, .unset] [])) := entry rfl
  have c2 : Steps p.tables e below (s₁.setTop (entryFrame m #[.ref b, .int (Int32.ofNat o), .int (Int32.ofNat len)] 6)) (s₁.setTop (mkF m 1 #[.val (.ref b), .val (.int (Int32.ofNat o)), .val (.int (Int32.ofNat len)), .unset, .unset, .unset] [.int (Int32.ofNat len)])) := c1.trans (by
    refine XS.iloadN X0.here hexec rfl (hb hbytes d0) rfl ?_
    exact Steps.refl _)
  obtain ⟨T3, B3, X3, ba3, bs3, bv3, bh3, bf3, st3⟩ := X0.anew hexec (atype := .byte) (wk W (.arrayClass .byte)) rfl (by show len * 1 ≤ _; omega) (by omega) (g := (mkF m 1 #[.val (.ref b), .val (.int (Int32.ofNat o)), .val (.int (Int32.ofNat len)), .unset, .unset, .unset] [.int (Int32.ofNat len)])) rfl (hb hbytes d1) (rest := []) rfl (Nat.le_refl _) (by show 0 + len ≤ len; omega)
  rw [hh0] at ba3 st3
  have kp3 : XT.Kept s T3 := (XT.Kept.of_eq hh0).push bh3
  have hA3 := hA.keep X3.warmed.alike (kp3 _ _ hA.1.1)
  have hne : b ≠ s.heap.size := hA.1.ne
  have c4 : Steps p.tables e below (s₁.setTop (entryFrame m #[.ref b, .int (Int32.ofNat o), .int (Int32.ofNat len)] 6)) (T3.setTop (mkF m 3 #[.val (.ref b), .val (.int (Int32.ofNat o)), .val (.int (Int32.ofNat len)), .unset, .unset, .unset] [.ref s.heap.size])) := c2.trans (st3 _ (Steps.refl _))
  have c5 : Steps p.tables e below (s₁.setTop (entryFrame m #[.ref b, .int (Int32.ofNat o), .int (Int32.ofNat len)] 6)) (T3.setTop (mkF m 9 #[.val (.ref b), .val (.int (Int32.ofNat o)), .val (.int (Int32.ofNat len)), .val (.ref s.heap.size), .unset, .unset] [.int (Int32.ofNat len), .int 0, .ref s.heap.size, .int (Int32.ofNat o), .ref b])) := c4.trans (by
    refine XS.astoreN X3.here hexec rfl (hb hbytes d3) rfl rfl rfl ?_
    refine XS.aloadN X3.here hexec rfl (hb hbytes d4) rfl rfl ?_
    refine XS.iloadN X3.here hexec rfl (hb hbytes d5) rfl ?_
    refine XS.aloadN X3.here hexec rfl (hb hbytes d6) rfl rfl ?_
    refine iconstV X3.here hexec rfl 0 (hb hbytes d7) (by decide) ?_
    refine XS.iloadN X3.here hexec rfl (hb hbytes d8) rfl ?_
    exact Steps.refl _)
  obtain ⟨v6, T6, X6, E6, g6⟩ := X3.callS hexec (Cmp5.law l b A s.heap.size B3 o 0 len) hown (wks W (staticW U16 115 Cmp5.yN)) (wk W Cmp5.tab) (W := 0) (Nat.le_of_ble_eq_true rfl) (Nat.le_of_ble_eq_true rfl) (Nat.le_refl _) (by show 0 + len + 0 ≤ len; omega) (g := (mkF m 9 #[.val (.ref b), .val (.int (Int32.ofNat o)), .val (.int (Int32.ofNat len)), .val (.ref s.heap.size), .unset, .unset] [.int (Int32.ofNat len), .int (Int32.ofNat 0), .ref s.heap.size, .int (Int32.ofNat o), .ref b])) rfl (by rw [hml]; rfl) c5 (argsL := [.ref b, .int (Int32.ofNat o), .ref s.heap.size, .int (Int32.ofNat 0), .int (Int32.ofNat len)]) (rest := []) rfl rfl (by show 2 * 0 + 0 ≤ _; decide) (hb hbytes d9) (⟨rfl, hA3, ba3, hne, l1, by rw [bs3]; simp, hp⟩)
  obtain ⟨rfl, B6, p6, f6⟩ := E6
  have c7 : Steps p.tables e below (s₁.setTop (entryFrame m #[.ref b, .int (Int32.ofNat o), .int (Int32.ofNat len)] 6)) (T6.setTop (mkF m 12 #[.val (.ref b), .val (.int (Int32.ofNat o)), .val (.int (Int32.ofNat len)), .val (.ref s.heap.size), .unset, .unset] [.int (Int32.ofNat len)])) := g6
  have c8 : Steps p.tables e below (s₁.setTop (entryFrame m #[.ref b, .int (Int32.ofNat o), .int (Int32.ofNat len)] 6)) (T6.setTop (mkF m 58 #[.val (.ref b), .val (.int (Int32.ofNat o)), .val (.int (Int32.ofNat len)), .val (.ref s.heap.size), .val (.int (Int32.ofNat len)), .unset] [.ref s.heap.size])) := c7.trans (by
    refine XS.istore X6.here hexec rfl (hb hbytes d12) rfl rfl ?_
    refine XS.iload X6.here hexec rfl (hb hbytes d14) rfl ?_
    refine XS.iloadN X6.here hexec rfl (hb hbytes d16) rfl ?_
    refine XS.icmpYes X6.here hexec rfl (pc0 := 17) rfl (hb hbytes d17) rfl (ii_eq_t rfl) (by decide) rfl ?_
    refine XS.aloadN X6.here hexec rfl (hb hbytes d57) rfl rfl ?_
    exact Steps.refl _)
  have X8 := X6.wide (L' := []) (cells' := 1) (slots' := len) (fun x hx hlt => by
    simp only [List.nil_append, copyLocs, List.mem_map, List.mem_range] at hx
    obtain ⟨i, -, rfl⟩ := hx
    exact absurd hlt (Nat.lt_irrefl _)) (Nat.le_refl _) (by omega)
  exact ⟨T6, some (.ref s.heap.size), _, _, _, X8, rfl, rfl, rfl, (fun h => by cases h), ⟨⟨rfl, B6, ba3.like (X3.warmed.alike.symm.trans X6.warmed.alike) p6.1 f6.1 f6.2.1 f6.2.2.1, f6.2.1.trans bv3, by rw [X6.warmed.alike.findClass, f6.1]; exact bf3, by rw [f6.2.2.1, bs3]; simp, fun j hj => by rw [f6.2.2.2 j, if_pos (by omega)]; rfl, kp3.put p6 (Nat.le_refl _)⟩, by rw [p6.2.2, bh3, hh0]; simp⟩, fun fs hl => c8.trans (X8.areturnOut hexec rfl hret rfl (hb hbytes d58) hl)⟩
end Cmp3
namespace CodL
def yN : MethodName := ⟨"java/lang/StringUTF16", "coderFromArrayLen", "([BI)B"⟩
abbrev yB : ByteArray := jdk_52_method_15_code
theorem d0 : decode yB 0 = .ok (.iload_n 1, 1) := by decide +kernel
theorem d1 : decode yB 1 = .ok (.aload_n 0, 1) := by decide +kernel
theorem d2 : decode yB 2 = .ok (.arraylength, 1) := by decide +kernel
theorem d3 : decode yB 3 = .ok (.isub, 1) := by decide +kernel
theorem d4 : decode yB 4 = .ok (.bipush 31, 2) := by decide +kernel
theorem d6 : decode yB 6 = .ok (.iushr, 1) := by decide +kernel
theorem d7 : decode yB 7 = .ok (.i2b, 1) := by decide +kernel
theorem d8 : decode yB 8 = .ok (.ireturn, 1) := by decide +kernel
def site : List Cond := []
def tab : Cond := tabOf yN yB 2 (some .byte) site
def P (d : Addr) (B : Cell) (args : Array Value) (s : State) : Prop := args = #[.ref d, .int (Int32.ofNat B.slots.size)] ∧ Arr .byte d B s
def E (r : Option Value) (s u : State) : Prop := XT.PureE (some (.int 0)) r s u
/-- an array as long as the number of chars: LATIN1 -/
theorem law (l : Launch) (d : Addr) (B : Cell) : Law l yN 2 2 0 0 yB 2 (some .byte) site (P d B) E [] 0 0 := by
  refine Law.of_walk (plainFor_of_name (by decide +kernel)) (by decide +kernel) (by decide +kernel) (by decide) (fun _ _ h => by rw [h.1]; rfl) (fun _ U U' hal hh h => ⟨h.1, h.2.mv hal hh⟩) (fun r U U' V V' h1 hal h2 h => XT.PureE.mv r U U' V V' h1 hal h2 h) ?_
  intro p e s m args below meth c s₁ X0 hexec hbytes hml hret hlk hnm hown hh0 W hP
  obtain ⟨rfl, hB⟩ := hP
  have hB0 := hB.mv X0.warmed.alike hh0
  have c1 : Steps p.tables e below (s₁.setTop (entryFrame m #[.ref d, .int (Int32.ofNat B.slots.size)] 2)) (s₁.setTop (mkF m 0 #[.val (.ref d), .val (.int (Int32.ofNat B.slots.size))] [])) := entry rfl
  have c2 : Steps p.tables e below (s₁.setTop (entryFrame m #[.ref d, .int (Int32.ofNat B.slots.size)] 2)) (s₁.setTop (mkF m 2 #[.val (.ref d), .val (.int (Int32.ofNat B.slots.size))] [.ref d, .int (Int32.ofNat B.slots.size)])) := c1.trans (by
    refine XS.iloadN X0.here hexec rfl (hb hbytes d0) rfl ?_
    refine XS.aloadN X0.here hexec rfl (hb hbytes d1) rfl rfl ?_
    exact Steps.refl _)
  have c3 : Steps p.tables e below (s₁.setTop (entryFrame m #[.ref d, .int (Int32.ofNat B.slots.size)] 2)) (s₁.setTop (mkF m 8 #[.val (.ref d), .val (.int (Int32.ofNat B.slots.size))] [.int (lo8 (ushr (Int32.ofNat B.slots.size - Int32.ofNat B.slots.size) 31))])) := c2.trans (by
    refine X0.alen hexec hB0 rfl rfl (hb hbytes d2) ?_
    refine XS.isub X0.here hexec rfl (hb hbytes d3) rfl ?_
    refine bipushV X0.here hexec rfl 31 (hb hbytes d4) (by decide) ?_
    refine iushr X0.here hexec rfl (hb hbytes d6) rfl ?_
    refine i2b X0.here hexec rfl (hb hbytes d7) rfl ?_
    exact Steps.refl _)
  have e0 : lo8 (ushr (Int32.ofNat B.slots.size - Int32.ofNat B.slots.size) 31) = 0 := by rw [Int32.sub_self]; decide
  rw [e0] at c3
  exact ⟨s₁, some (.int 0), _, _, _, X0, rfl, rfl, rfl, (fun h => by cases h), ⟨rfl, hh0⟩, fun fs hl => c3.trans (X0.ireturnOut hexec hret rfl (Or.inr (Or.inr (Or.inl rfl))) (hb hbytes d8) hl)⟩
end CodL
/-- the String at a is Latin-1 over a new byte[] (the heap's one new cell): the low bytes of the len chars of A from o on; every cell but a is kept -/
def Got (a : Addr) (D : Cell) (fV fC : Field) (A : Cell) (o len : Nat) (r : Option Value) (s u : State) : Prop := r = none ∧ ∃ D' V : Cell, Blank "java/lang/String" a D' u ∧ Same D D' [fV.slot, fC.slot] ∧ D'.slots[fV.slot]? = some (.ref s.heap.size) ∧ D'.slots[fC.slot]? = some (.int 0) ∧ Arr .byte s.heap.size V u ∧ V.vm = .none ∧ u.vm.findClass "[B" = some V.cls ∧ V.slots.size = len ∧ (∀ j, j < len → V.slots[j]? = some (.int (lo8 (cv A (o + j))))) ∧ (∀ (y : Addr) (c : Cell), y ≠ a → s.heap[y]? = some c → u.heap[y]? = some c) ∧ u.heap.size = s.heap.size + 1
theorem Got.mv {a : Addr} {D A : Cell} {fV fC : Field} {o len : Nat} : ∀ r (U U' V V' : State), U'.heap = U.heap → V.vm.Alike V'.vm → V'.heap = V.heap → Got a D fV fC A o len r U V → Got a D fV fC A o len r U' V' :=
  fun r U U' V V' h1 hal h2 ⟨e0, D', X, a1, a2, a3, a4, a5, a6, a7, a8, a9, a10, a11⟩ => ⟨e0, D', X, a1.mv hal h2, a2, by rw [h1]; exact a3, a4, by rw [h1]; exact a5.mv hal h2, a6, by rw [hal.findClass]; exact a7, a8, a9, by rw [h1, h2]; exact a10, by rw [h1, h2]; exact a11⟩
namespace New4
def yN : MethodName := ⟨"java/lang/String", "<init>", "([CIILjava/lang/Void;)V"⟩
abbrev yB : ByteArray := jdk_42_method_149_code
theorem d0 : decode yB 0 = .ok (.aload_n 0, 1) := by decide +kernel
theorem d1 : decode yB 1 = .ok (.invokespecial 1, 3) := by decide +kernel
theorem d4 : decode yB 4 = .ok (.iload_n 3, 1) := by decide +kernel
theorem d5 : decode yB 5 = .ok (.ifCond (.ne) 22, 3) := by decide +kernel
theorem d27 : decode yB 27 = .ok (.getstatic 38, 3) := by decide +kernel
theorem d30 : decode yB 30 = .ok (.ifCond (.eq) 28, 3) := by decide +kernel
theorem d33 : decode yB 33 = .ok (.aload_n 1, 1) := by decide +kernel
theorem d34 : decode yB 34 = .ok (.iload_n 2, 1) := by decide +kernel
theorem d35 : decode yB 35 = .ok (.iload_n 3, 1) := by decide +kernel
theorem d36 : decode yB 36 = .ok (.invokestatic 177, 3) := by decide +kernel
theorem d39 : decode yB 39 = .ok (.astore 5, 2) := by decide +kernel
theorem d41 : decode yB 41 = .ok (.aload_n 0, 1) := by decide +kernel
theorem d42 : decode yB 42 = .ok (.aload 5, 2) := by decide +kernel
theorem d44 : decode yB 44 = .ok (.iload_n 3, 1) := by decide +kernel
theorem d45 : decode yB 45 = .ok (.invokestatic 47, 3) := by decide +kernel
theorem d48 : decode yB 48 = .ok (.putfield 15, 3) := by decide +kernel
theorem d51 : decode yB 51 = .ok (.aload_n 0, 1) := by decide +kernel
theorem d52 : decode yB 52 = .ok (.aload 5, 2) := by decide +kernel
theorem d54 : decode yB 54 = .ok (.putfield 9, 3) := by decide +kernel
theorem d57 : decode yB 57 = .ok (.return_, 1) := by decide +kernel
def site : List Cond := [.fieldLink "java/lang/String" 38 "java/lang/String" "COMPACT_STRINGS" "Z", Cmp3.tab, CodL.tab, .laysFinal "java/lang/String" "java/lang/String" "value" "[B", .fieldLink "java/lang/String" 9 "java/lang/String" "value" "[B", .laysFinal "java/lang/String" "java/lang/String" "coder" "B", .fieldLink "java/lang/String" 15 "java/lang/String" "coder" "B"] ++ objW "java/lang/String" 1 ++ staticW "java/lang/String" 177 Cmp3.yN ++ staticW "java/lang/String" 47 CodL.yN
def tab : Cond := tabOf yN yB 6 none site
def P (a : Addr) (D : Cell) (fV fC : Field) (b : Addr) (A : Cell) (z : Int32) (o len : Nat) (args : Array Value) (s : State) : Prop := args = #[.ref a, .ref b, .int (Int32.ofNat o), .int (Int32.ofNat len), .null] ∧ Blank "java/lang/String" a D s ∧ Found "java/lang/String" "value" "[B" fV s ∧ Found "java/lang/String" "coder" "B" fC s ∧ Ch b A s ∧ StaticIs s "java/lang/String" "COMPACT_STRINGS" "Z" (.int z) ∧ ¬ z = 0 ∧ 0 < len ∧ o + len ≤ A.slots.size ∧ len ≤ 536870912 ∧ ∀ i, i < len → ¬ 255 < cv A (o + i)
def E (a : Addr) (D : Cell) (fV fC : Field) (A : Cell) (o len : Nat) (r : Option Value) (s u : State) : Prop := Got a D fV fC A o len r s u
/-- len > 0, no char of the range above 255: a Latin-1 String of their low bytes -/
theorem law (l : Launch) (a : Addr) (D : Cell) (fV fC : Field) (b : Addr) (A : Cell) (z : Int32) (o len : Nat) : Law l yN 5 4 2 35 yB 6 none site (P a D fV fC b A z o len) (E a D fV fC A o len) [⟨a, fC.slot⟩, ⟨a, fV.slot⟩] 1 len := by
  refine Law.of_walk (plainFor_of_name (by decide +kernel)) (by decide +kernel) (by decide +kernel) (by decide) (fun _ _ h => by rw [h.1]; rfl) (fun _ U U' hal hh h => ⟨h.1, h.2.1.mv hal hh, h.2.2.1.al hal, h.2.2.2.1.al hal, h.2.2.2.2.1.mv hal hh, h.2.2.2.2.2.1.there hal hh, h.2.2.2.2.2.2⟩) (fun r U U' V V' h1 hal h2 h => Got.mv r U U' V V' h1 hal h2 h) ?_
  intro p e s m args below meth c s₁ X0 hexec hbytes hml hret hlk hnm hown hh0 W hP
  obtain ⟨rfl, hB, f1, f2, hA, s1, hz, l0, l1, l2, hp⟩ := hP
  have a31 := hA.1.2.2.2
  have c1 : Steps p.tables e below (s₁.setTop (entryFrame m #[.ref a, .ref b, .int (Int32.ofNat o), .int (Int32.ofNat len), .null] 6)) (s₁.setTop (mkF m 0 #[.val (.ref a), .val (.ref b), .val (.int (Int32.ofNat o)), .val (.int (Int32.ofNat len)), .val .null, .unset] [])) := entry rfl
  have c2 : Steps p.tables e below (s₁.setTop (entryFrame m #[.ref a, .ref b, .int (Int32.ofNat o), .int (Int32.ofNat len), .null] 6)) (s₁.setTop (mkF m 1 #[.val (.ref a), .val (.ref b), .val (.int (Int32.ofNat o)), .val (.int (Int32.ofNat len)), .val .null, .unset] [.ref a])) := c1.trans (by
    refine XS.aloadN X0.here hexec rfl (hb hbytes d0) rfl rfl ?_
    exact Steps.refl _)
  obtain ⟨T3, X3, q3, st3⟩ := X0.oinit hexec hown (wks W (objW "java/lang/String" 1)) (g := (mkF m 1 #[.val (.ref a), .val (.ref b), .val (.int (Int32.ofNat o)), .val (.int (Int32.ofNat len)), .val .null, .unset] [.ref a])) rfl (by rw [hml]; rfl) (rest := []) rfl (hb hbytes d1) (W := 0) (by show 2 * 0 + 0 ≤ _; decide) (Nat.le_of_ble_eq_true rfl) (Nat.le_of_ble_eq_true rfl)
  have hh3 := q3.trans hh0
  have c4 : Steps p.tables e below (s₁.setTop (entryFrame m #[.ref a, .ref b, .int (Int32.ofNat o), .int (Int32.ofNat len), .null] 6)) (T3.setTop (mkF m 27 #[.val (.ref a), .val (.ref b), .val (.int (Int32.ofNat o)), .val (.int (Int32.ofNat len)), .val .null, .unset] [])) := (c2.trans (st3 _ (Steps.refl _))).trans (by
    refine XS.iloadN X3.here hexec rfl (hb hbytes d4) rfl ?_
    refine XS.ifYes X3.here hexec rfl (pc0 := 5) rfl (hb hbytes d5) rfl (i0_ne_t (nz32 (by omega) l0)) (by decide) rfl ?_
    exact Steps.refl _)
  obtain ⟨T5, X5, q5, st5⟩ := X3.sget hexec hown (wk W (.fieldLink "java/lang/String" 38 "java/lang/String" "COMPACT_STRINGS" "Z")) s1 (fun _ _ h => by rw [hh3]; exact h) (g := (mkF m 27 #[.val (.ref a), .val (.ref b), .val (.int (Int32.ofNat o)), .val (.int (Int32.ofNat len)), .val .null, .unset] [])) rfl (hb hbytes d27)
  have hh5 := q5.trans hh3
  have c6 : Steps p.tables e below (s₁.setTop (entryFrame m #[.ref a, .ref b, .int (Int32.ofNat o), .int (Int32.ofNat len), .null] 6)) (T5.setTop (mkF m 30 #[.val (.ref a), .val (.ref b), .val (.int (Int32.ofNat o)), .val (.int (Int32.ofNat len)), .val .null, .unset] [.int z])) := c4.trans (st5 _ (Steps.refl _))
  have c7 : Steps p.tables e below (s₁.setTop (entryFrame m #[.ref a, .ref b, .int (Int32.ofNat o), .int (Int32.ofNat len), .null] 6)) (T5.setTop (mkF m 36 #[.val (.ref a), .val (.ref b), .val (.int (Int32.ofNat o)), .val (.int (Int32.ofNat len)), .val .null, .unset] [.int (Int32.ofNat len), .int (Int32.ofNat o), .ref b])) := c6.trans (by
    refine XS.ifNo X5.here hexec rfl (hb hbytes d30) rfl (i0_eq_f hz) ?_
    refine XS.aloadN X5.here hexec rfl (hb hbytes d33) rfl rfl ?_
    refine XS.iloadN X5.here hexec rfl (hb hbytes d34) rfl ?_
    refine XS.iloadN X5.here hexec rfl (hb hbytes d35) rfl ?_
    exact Steps.refl _)
  obtain ⟨v8, T8, X8, E8, g8⟩ := X5.callS hexec (Cmp3.law l b A o len) hown (wks W (staticW "java/lang/String" 177 Cmp3.yN)) (wk W Cmp3.tab) (W := 0) (Nat.le_of_ble_eq_true rfl) (Nat.le_of_ble_eq_true rfl) (Nat.le_refl _) (by show 0 + len ≤ len; omega) (g := (mkF m 36 #[.val (.ref a), .val (.ref b), .val (.int (Int32.ofNat o)), .val (.int (Int32.ofNat len)), .val .null, .unset] [.int (Int32.ofNat len), .int (Int32.ofNat o), .ref b])) rfl (by rw [hml]; rfl) c7 (argsL := [.ref b, .int (Int32.ofNat o), .int (Int32.ofNat len)]) (rest := []) rfl rfl (by show 2 * 0 + 0 ≤ _; decide) (hb hbytes d36) (⟨rfl, hA.mv X5.warmed.alike hh5, l1, l2, hp⟩)
  obtain ⟨e8, z8⟩ := E8
  obtain ⟨rfl, N, n1, n2, n3, n4, n5, n6⟩ := NewArr.mv _ T5 s _ _ hh5.symm (Vm.Alike.refl _) rfl e8
  rw [hh5] at z8
  have hB1 := hB.keep X8.warmed.alike (n6 _ _ hB.1)
  have hne : s.heap.size ≠ a := (Nat.ne_of_lt (Array.getElem?_eq_some_iff.mp hB.1).1).symm
  have c9 : Steps p.tables e below (s₁.setTop (entryFrame m #[.ref a, .ref b, .int (Int32.ofNat o), .int (Int32.ofNat len), .null] 6)) (T8.setTop (mkF m 39 #[.val (.ref a), .val (.ref b), .val (.int (Int32.ofNat o)), .val (.int (Int32.ofNat len)), .val .null, .unset] [.ref s.heap.size])) := g8
  have c10 : Steps p.tables e below (s₁.setTop (entryFrame m #[.ref a, .ref b, .int (Int32.ofNat o), .int (Int32.ofNat len), .null] 6)) (T8.setTop (mkF m 45 #[.val (.ref a), .val (.ref b), .val (.int (Int32.ofNat o)), .val (.int (Int32.ofNat len)), .val .null, .val (.ref s.heap.size)] [.int (Int32.ofNat N.slots.size), .ref s.heap.size, .ref a])) := by
    have hc : Steps p.tables e below (s₁.setTop (entryFrame m #[.ref a, .ref b, .int (Int32.ofNat o), .int (Int32.ofNat len), .null] 6)) (T8.setTop (mkF m 45 #[.val (.ref a), .val (.ref b), .val (.int (Int32.ofNat o)), .val (.int (Int32.ofNat len)), .val .null, .val (.ref s.heap.size)] [.int (Int32.ofNat len), .ref s.heap.size, .ref a])) := c9.trans (by
      refine XS.astore X8.here hexec rfl (hb hbytes d39) rfl rfl rfl ?_
      refine XS.aloadN X8.here hexec rfl (hb hbytes d41) rfl rfl ?_
      refine XS.aload X8.here hexec rfl (hb hbytes d42) rfl rfl ?_
      refine XS.iloadN X8.here hexec rfl (hb hbytes d44) rfl ?_
      exact Steps.refl _)
    rw [n4]; exact hc
  obtain ⟨v11, T11, X11, E11, g11⟩ := X8.callS hexec (CodL.law l s.heap.size N) hown (wks W (staticW "java/lang/String" 47 CodL.yN)) (wk W CodL.tab) (W := 1) (Nat.le_of_ble_eq_true rfl) (Nat.le_of_ble_eq_true rfl) (Nat.le_refl _) (by show 0 + len + 0 ≤ len; omega) (g := (mkF m 45 #[.val (.ref a), .val (.ref b), .val (.int (Int32.ofNat o)), .val (.int (Int32.ofNat len)), .val .null, .val (.ref s.heap.size)] [.int (Int32.ofNat N.slots.size), .ref s.heap.size, .ref a])) rfl (by rw [hml]; rfl) c10 (argsL := [.ref s.heap.size, .int (Int32.ofNat N.slots.size)]) (rest := [.ref a]) rfl rfl (by show 2 * 0 + (1 + 0) ≤ _; decide) (hb hbytes d45) (⟨rfl, n1⟩)
  obtain ⟨rfl, q11⟩ := E11
  have hB11 := hB1.mv (X8.warmed.alike.symm.trans X11.warmed.alike) q11
  have c12 : Steps p.tables e below (s₁.setTop (entryFrame m #[.ref a, .ref b, .int (Int32.ofNat o), .int (Int32.ofNat len), .null] 6)) (T11.setTop (mkF m 48 #[.val (.ref a), .val (.ref b), .val (.int (Int32.ofNat o)), .val (.int (Int32.ofNat len)), .val .null, .val (.ref s.heap.size)] [.int 0, .ref a])) := g11
  obtain ⟨T13, X13, p13, bl13, sl13, st13⟩ := X11.finit hexec hown (wk W (.fieldLink "java/lang/String" 15 "java/lang/String" "coder" "B")) (Or.inr ⟨_, (wk W (.laysFinal "java/lang/String" "java/lang/String" "coder" "B"))⟩) (Or.inl ⟨rfl, hnm⟩) f2 (Or.inl rfl) hB11 (t := .byte) (by decide +kernel) rfl (g := (mkF m 48 #[.val (.ref a), .val (.ref b), .val (.int (Int32.ofNat o)), .val (.int (Int32.ofNat len)), .val .null, .val (.ref s.heap.size)] [.int 0, .ref a])) rfl (rest := []) rfl (hb hbytes d48)
  have c14 : Steps p.tables e below (s₁.setTop (entryFrame m #[.ref a, .ref b, .int (Int32.ofNat o), .int (Int32.ofNat len), .null] 6)) (T13.setTop (mkF m 54 #[.val (.ref a), .val (.ref b), .val (.int (Int32.ofNat o)), .val (.int (Int32.ofNat len)), .val .null, .val (.ref s.heap.size)] [.ref s.heap.size, .ref a])) := (c12.trans (st13 _ (Steps.refl _))).trans (by
    refine XS.aloadN X13.here hexec rfl (hb hbytes d51) rfl rfl ?_
    refine XS.aload X13.here hexec rfl (hb hbytes d52) rfl rfl ?_
    exact Steps.refl _)
  obtain ⟨T15, X15, p15, bl15, sl15, st15⟩ := X13.finit hexec hown (wk W (.fieldLink "java/lang/String" 9 "java/lang/String" "value" "[B")) (Or.inr ⟨_, (wk W (.laysFinal "java/lang/String" "java/lang/String" "value" "[B"))⟩) (Or.inl ⟨rfl, hnm⟩) f1 (Or.inl rfl) bl13 (t := (.array .byte)) (by decide +kernel) rfl (g := (mkF m 54 #[.val (.ref a), .val (.ref b), .val (.int (Int32.ofNat o)), .val (.int (Int32.ofNat len)), .val .null, .val (.ref s.heap.size)] [.ref s.heap.size, .ref a])) rfl (rest := []) rfl (hb hbytes d54)
  have c16 : Steps p.tables e below (s₁.setTop (entryFrame m #[.ref a, .ref b, .int (Int32.ofNat o), .int (Int32.ofNat len), .null] 6)) (T15.setTop (mkF m 57 #[.val (.ref a), .val (.ref b), .val (.int (Int32.ofNat o)), .val (.int (Int32.ofNat len)), .val .null, .val (.ref s.heap.size)] [])) := c14.trans (st15 _ (Steps.refl _))
  have ap := apart (Or.inr ⟨_, (wk W (.laysFinal "java/lang/String" "java/lang/String" "value" "[B"))⟩) (Or.inr ⟨_, (wk W (.laysFinal "java/lang/String" "java/lang/String" "coder" "B"))⟩) f1 f2 (t₁ := .array .byte) (t₂ := .byte) (by decide +kernel) (by decide +kernel) (by decide)
  have al := X8.warmed.alike.symm.trans X15.warmed.alike
  have n7 : T11.heap[s.heap.size]? = some N := by rw [q11]; exact n1.1
  exact ⟨T15, none, _, _, _, X15, by simp, rfl, by omega, (fun _ => rfl), ⟨rfl, _, N, bl15, ((Same.refl D _).set _ (by simp)).set _ (by simp), sl15, (Cell.slots_setSlot_ne _ ap).trans sl13, n1.keep al (p15.other hne (p13.other hne n7)), n2, by rw [al.findClass]; exact n3, n4, n5, fun y c h1 h2 => p15.other h1 (p13.other h1 (by rw [q11]; exact n6 y c h2)), by rw [p15.2.2, p13.2.2, q11]; exact z8⟩, fun fs hl => c16.trans (X15.returnOut hexec hret (hb hbytes d57) hl)⟩
end New4
namespace New1
def yN : MethodName := ⟨"java/lang/String", "<init>", "([C)V"⟩
abbrev yB : ByteArray := jdk_42_method_3_code
theorem d0 : decode yB 0 = .ok (.aload_n 0, 1) := by decide +kernel
theorem d1 : decode yB 1 = .ok (.aload_n 1, 1) := by decide +kernel
theorem d2 : decode yB 2 = .ok (.iconst 0, 1) := by decide +kernel
theorem d3 : decode yB 3 = .ok (.aload_n 1, 1) := by decide +kernel
theorem d4 : decode yB 4 = .ok (.arraylength, 1) := by decide +kernel
theorem d5 : decode yB 5 = .ok (.aconst_null, 1) := by decide +kernel
theorem d6 : decode yB 6 = .ok (.invokespecial 27, 3) := by decide +kernel
theorem d9 : decode yB 9 = .ok (.return_, 1) := by decide +kernel
def site : List Cond := [New4.tab] ++ initW "java/lang/String" 27 New4.yN
def tab : Cond := tabOf yN yB 2 none site
def P (a : Addr) (D : Cell) (fV fC : Field) (b : Addr) (A : Cell) (z : Int32) (args : Array Value) (s : State) : Prop := args = #[.ref a, .ref b] ∧ Blank "java/lang/String" a D s ∧ Found "java/lang/String" "value" "[B" fV s ∧ Found "java/lang/String" "coder" "B" fC s ∧ Ch b A s ∧ StaticIs s "java/lang/String" "COMPACT_STRINGS" "Z" (.int z) ∧ ¬ z = 0 ∧ 0 < A.slots.size ∧ A.slots.size ≤ 536870912 ∧ ∀ i, i < A.slots.size → ¬ 255 < cv A i
def E (a : Addr) (D : Cell) (fV fC : Field) (A : Cell) (r : Option Value) (s u : State) : Prop := Got a D fV fC A 0 A.slots.size r s u
/-- new String(chars), not empty, no char above 255: a Latin-1 String of their low bytes -/
theorem law (l : Launch) (a : Addr) (D : Cell) (fV fC : Field) (b : Addr) (A : Cell) (z : Int32) : Law l yN 2 1 3 52 yB 2 none site (P a D fV fC b A z) (E a D fV fC A) [⟨a, fC.slot⟩, ⟨a, fV.slot⟩] 1 A.slots.size := by
  refine Law.of_walk (plainFor_of_name (by decide +kernel)) (by decide +kernel) (by decide +kernel) (by decide) (fun _ _ h => by rw [h.1]; rfl) (fun _ U U' hal hh h => ⟨h.1, h.2.1.mv hal hh, h.2.2.1.al hal, h.2.2.2.1.al hal, h.2.2.2.2.1.mv hal hh, h.2.2.2.2.2.1.there hal hh, h.2.2.2.2.2.2⟩) (fun r U U' V V' h1 hal h2 h => Got.mv r U U' V V' h1 hal h2 h) ?_
  intro p e s m args below meth c s₁ X0 hexec hbytes hml hret hlk hnm hown hh0 W hP
  obtain ⟨rfl, hB, f1, f2, hA, s1, hz, l0, l2, hp⟩ := hP
  have c1 : Steps p.tables e below (s₁.setTop (entryFrame m #[.ref a, .ref b] 2)) (s₁.setTop (mkF m 0 #[.val (.ref a), .val (.ref b)] [])) := entry rfl
  have c2 : Steps p.tables e below (s₁.setTop (entryFrame m #[.ref a, .ref b] 2)) (s₁.setTop (mkF m 6 #[.val (.ref a), .val (.ref b)] [.null, .int (Int32.ofNat A.slots.size), .int 0, .ref b, .ref a])) := c1.trans (by
    refine XS.aloadN X0.here hexec rfl (hb hbytes d0) rfl rfl ?_
    refine XS.aloadN X0.here hexec rfl (hb hbytes d1) rfl rfl ?_
    refine iconstV X0.here hexec rfl 0 (hb hbytes d2) (by decide) ?_
    refine XS.aloadN X0.here hexec rfl (hb hbytes d3) rfl rfl ?_
    refine X0.alen hexec (hA.1.mv X0.warmed.alike hh0) rfl rfl (hb hbytes d4) ?_
    refine XS.aconstNull X0.here hexec rfl (hb hbytes d5) ?_
    exact Steps.refl _)
  obtain ⟨v3, T3, X3, E3, g3⟩ := X0.callN hexec (New4.law l a D fV fC b A z 0 A.slots.size) rfl hown (wks W (initW "java/lang/String" 27 New4.yN)) (W New4.tab (by simp only [site, List.mem_cons, List.mem_append, true_or, or_true])) (W := 0) (Nat.le_of_ble_eq_true rfl) (Nat.le_of_ble_eq_true rfl) (Nat.le_refl _) (by show 0 + A.slots.size ≤ A.slots.size; omega) (g := (mkF m 6 #[.val (.ref a), .val (.ref b)] [.null, .int (Int32.ofNat A.slots.size), .int (Int32.ofNat 0), .ref b, .ref a])) rfl (by rw [hml]; rfl) c2 (argsL := [.ref b, .int (Int32.ofNat 0), .int (Int32.ofNat A.slots.size), .null]) (rest := []) rfl rfl (by show 2 * 0 + 0 ≤ _; decide) (hb hbytes d6) (⟨rfl, hB.mv X0.warmed.alike hh0, f1.al X0.warmed.alike, f2.al X0.warmed.alike, hA.mv X0.warmed.alike hh0, s1.there X0.warmed.alike hh0, hz, l0, by omega, l2, fun i hi => by rw [Nat.zero_add]; exact hp i hi⟩)
  have e0 := Got.mv _ s₁ s _ _ hh0.symm (Vm.Alike.refl _) rfl E3
  obtain rfl := e0.1
  have c4 : Steps p.tables e below (s₁.setTop (entryFrame m #[.ref a, .ref b] 2)) (T3.setTop (mkF m 9 #[.val (.ref a), .val (.ref b)] [])) := g3
  exact ⟨T3, none, _, _, _, X3, by simp, rfl, by omega, (fun _ => rfl), e0, fun fs hl => c4.trans (X3.returnOut hexec hret (hb hbytes d9) hl)⟩
theorem pays {l : Launch} {R : Room} {p : Program} {e : Env} {below : List Frame} {s : State} {sargs : Array Value} {len W : Nat} (a : Addr) (D : Cell) (fV fC : Field) (b : Addr) (A : Cell) (z : Int32) (htab : tab.before sargs s = true) (hfr : 4 ≤ R.frames) (hlo : W + 65 ≤ R.locals) :
    Back l R p e below s sargs yN len W (fun A₁ a₁ => A₁.cells + 1 ≤ R.cells ∧ A₁.slots + A.slots.size ≤ R.slots ∧ P a D fV fC b A z a₁ A₁.U) (fun A₁ _ v₁ B₁ => E a D fV fC A v₁ A₁.U B₁.U ∧ B₁.locs = A₁.locs ++ [⟨a, fC.slot⟩, ⟨a, fV.slot⟩] ∧ B₁.cells = A₁.cells + 1 ∧ B₁.slots = A₁.slots + A.slots.size) :=
  (law l a D fV fC b A z).pays htab hfr (by omega)
end New1
/-- the byte, read back as charAt reads it, is the char -/
theorem lo8_mask {x : Int32} (h0 : ¬ x < 0) (h1 : ¬ 255 < x) : lo8 x &&& 255 = x := by
  have t : ∀ k : Fin 256, lo8 (Int32.ofNat k.val) &&& 255 = Int32.ofNat k.val := by decide +kernel
  rw [Int32.lt_iff_toInt_lt] at h0 h1
  have e0 : (0 : Int32).toInt = 0 := rfl
  have e1 : (255 : Int32).toInt = 255 := rfl
  obtain ⟨k, hk⟩ : ∃ k : Nat, x.toInt = k := ⟨x.toInt.toNat, by omega⟩
  have hx : x = Int32.ofNat k := Int32.toInt_inj.mp (by rw [hk, Int32.toInt_ofNat_small (by omega)])
  rw [hx]
  exact t ⟨k, by omega⟩
end StrChars
namespace StrChars.Road
open Jvm Sem ClassFile Op Lib Jvm.Stand Jvm.Free Jvm.Free.XT
open Jvm.Lib.Cold (StaticIs)
abbrev ST : String := "java/lang/String"
/-- every table word that New1's law asks, flat -/
abbrev words : List Jvm.Cond := [.code New1.yN New1.yB 2 none, .initialized ST, .methodLink ST 27 New4.yN, .instanceMethod New4.yN,
  .code New4.yN New4.yB 6 none, .fieldLink ST 38 ST "COMPACT_STRINGS" "Z", .laysFinal ST ST "value" "[B", .fieldLink ST 9 ST "value" "[B", .laysFinal ST ST "coder" "B", .fieldLink ST 15 ST "coder" "B",
  .methodLink ST 1 Lib.objectInit, .instanceMethod Lib.objectInit, .code Lib.objectInit ⟨#[0xb1]⟩ 1 none, .methodLink ST 177 Cmp3.yN, .static Cmp3.yN, .methodLink ST 47 CodL.yN, .static CodL.yN,
  .code Cmp3.yN Cmp3.yB 6 (some (.array .byte)), .initialized U16, .arrayClass .byte, .methodLink U16 115 Cmp5.yN, .static Cmp5.yN, .code Cmp5.yN Cmp5.yB 7 (some .int), .code CodL.yN CodL.yB 2 (some .byte)]
theorem tab_of {a : Array Value} {s : State} (h : ∀ w ∈ words, w.before a s = true) : New1.tab.before a s = true := by
  have h5 : Cmp5.tab.before a s = true := unparts (wk h (.code Cmp5.yN Cmp5.yB 7 (some .int))) (wks h (.initialized Cmp5.yN.cls :: Cmp5.site))
  have hc : CodL.tab.before a s = true := unparts (wk h (.code CodL.yN CodL.yB 2 (some .byte))) (wks h (.initialized CodL.yN.cls :: CodL.site))
  have q5 : ∀ w ∈ Cmp5.tab :: words, w.before a s = true := fun w hw => (List.mem_cons.mp hw).elim (fun e => e ▸ h5) (h w)
  have h3 : Cmp3.tab.before a s = true := unparts (wk q5 (.code Cmp3.yN Cmp3.yB 6 (some (.array .byte)))) (wks q5 (.initialized Cmp3.yN.cls :: Cmp3.site))
  have q3 : ∀ w ∈ Cmp3.tab :: CodL.tab :: words, w.before a s = true := fun w hw => (List.mem_cons.mp hw).elim (fun e => e ▸ h3) fun hw => (List.mem_cons.mp hw).elim (fun e => e ▸ hc) (h w)
  have h4 : New4.tab.before a s = true := unparts (wk q3 (.code New4.yN New4.yB 6 none)) (wks q3 (.initialized New4.yN.cls :: New4.site))
  have q4 : ∀ w ∈ New4.tab :: words, w.before a s = true := fun w hw => (List.mem_cons.mp hw).elim (fun e => e ▸ h4) (h w)
  exact unparts (wk q4 (.code New1.yN New1.yB 2 none)) (wks q4 (.initialized New1.yN.cls :: New1.site))
/-- the words ride from the start Z to the walk's own state -/
theorem moved {Z s : State} {a0 args : Array Value} (hZ : Z.Warmed39 s.vm) (hw : ∀ d ∈ words, d.before a0 Z = true) : ∀ d ∈ words, d.before args s = true := fun d hd => by
  have q := hw d hd
  have t : ∀ d ∈ words, d = .arrayClass .byte ∨ (d.onTables && d.keepsFace) = true := by decide +kernel
  rcases t d hd with rfl | t
  · exact RoadKit.mvA hZ q
  · exact RoadKit.mv hZ q t
/-- WHAT COMES BACK, over the tables of the start Z: h the heap at the call, h' behind it -/
def Q (Z : State) (x : Addr) (A : Cell) (h : Heap) (v : Option Value) (h' : Heap) (L : List Loc) : Prop := v = none ∧ (∀ y ∈ L, y.base = x) ∧ RoadKit.Keep h h' [x] ∧ h'.size = h.size + 1 ∧ RoadKit.Exa Z h' x ST ∧ RoadKit.Fld Z h' x ST "value" "[B" (.ref h.size) ∧ RoadKit.Fld Z h' x ST "coder" "B" (.int 0) ∧
  (∃ V : Cell, RoadKit.Arr Z h' h.size V .byte ∧ V.vm = .none ∧ Z.vm.findClass "[B" = some V.cls ∧ V.slots.size = A.slots.size ∧ ∀ j, j < A.slots.size → V.slots[j]? = some (.int (lo8 (cv A j)))) ∧
  ∀ (O n d : String) (w : Value), RoadKit.Fld Z h x O n d w → RoadKit.slotOf Z O n d ≠ RoadKit.slotOf Z ST "value" "[B" → RoadKit.slotOf Z O n d ≠ RoadKit.slotOf Z ST "coder" "B" → RoadKit.Fld Z h' x O n d w
/-- **new String(chars) AT A CALL, IN THE ROAD'S FORM**: for specialBack behind newO: x the fresh String, b the char[] with the cell A -/
theorem back {p : Program} {l : Launch} {e : Env} {R : Room} {s : State} {args : Array Value} {below : List Frame} {len W : Nat} {Z : State} {a0 : Array Value} {h : Heap} (hZ : Z.Warmed39 s.vm) (hw : ∀ d ∈ words, d.before a0 Z = true) {kI : Nat} (wi : (Jvm.Cond.instantiable ST kI).before a0 Z = true)
    {x b : Addr} {A : Cell} {z : Int32} {v0 c0 : Value} (E : RoadKit.Exa Z h x ST) (V : RoadKit.Fld Z h x ST "value" "[B" v0) (C : RoadKit.Fld Z h x ST "coder" "B" c0) (K : RoadKit.Arr Z h b A .char) (hty : Typed .char A) (S : RoadKit.Sta Z h ST "COMPACT_STRINGS" "Z" (.int z)) (hz : ¬ z = 0)
    (l0 : 0 < A.slots.size) (l2 : A.slots.size ≤ 536870912) (hp : ∀ i, i < A.slots.size → ¬ 255 < cv A i) (hfr : 4 ≤ R.frames) (hlo : W + 65 ≤ R.locals) :
    Back l R p e below s args New1.yN len W (fun P a => a = #[.ref x, .ref b] ∧ P.U.heap = h ∧ P.cells + 1 ≤ R.cells ∧ P.slots + A.slots.size ≤ R.slots)
      (fun P _ v B => ∃ L, Q Z x A h v B.U.heap L ∧ B.locs = P.locs ++ L ∧ B.cells = P.cells + 1 ∧ B.slots = P.slots + A.slots.size) := by
  intro m meth c P g ig mk a X hg hsize hdg hW hn hp'
  obtain ⟨rfl, rfl, r1, r2⟩ := hp'
  have al : Z.vm.Alike P.U.vm := hZ.alike.trans X.warmed.alike
  obtain ⟨D, cfV, kV, iV, fV, hD, gV, stV, knV, obV, asV, slV⟩ := id V
  obtain ⟨D', cfC, kC, iC, fC, hD', gC, stC, -, -, asC, slC⟩ := id C
  cases hD.symm.trans hD'
  obtain ⟨D2, kD, e1, e2, e3, e4, e5⟩ := id E
  cases hD.symm.trans e1
  obtain ⟨c2, k2, i1, i2, i3, -⟩ := Cond.instantiable_spec wi
  cases e2.symm.trans i1
  cases e3.symm.trans i2
  obtain ⟨kU, u1, u2⟩ := al.2.2 _ _ e3
  have hB : Blank ST x D P.U := ⟨hD, ⟨knV, fun q hq => by rw [hq] at obV; cases obV⟩, by rw [al.findClass]; exact e2, kU, u1, by rw [u2]; exact i3, by rw [u2]; exact e5 i3⟩
  have F1 : Found ST "value" "[B" fV P.U := ⟨SBG.found_only al ⟨cfV, kV, iV, gV⟩, stV⟩
  have F2 : Found ST "coder" "B" fC P.U := ⟨SBG.found_only al ⟨cfC, kC, iC, gC⟩, stC⟩
  have hA : Ch b A P.U := ⟨⟨K.1, State.isArrayOf_alike al K.2.1, K.2.2, by omega⟩, hty⟩
  have hS : StaticIs P.U ST "COMPACT_STRINGS" "Z" (.int z) := by
    obtain ⟨cfS, iS, kS, fS, st, cS, t1, t2, t3, t4, t5, t6, t7⟩ := S
    exact StaticIs.there (s := { Z with heap := P.U.heap }) ⟨cfS, iS, kS, fS, st, cS, t1, t2, t3, t4, t5, (fun q => by rw [q] at t6; cases t6), t7⟩ al rfl
  obtain ⟨v, B, X', ⟨⟨hv, E', V', q1, q2, q3, q4, q5, q6, q7, q8, q9, q10, q11⟩, hl, hc, hs⟩, st⟩ := New1.pays x D fV fC b A z (tab_of (moved hZ hw)) hfr hlo m meth c P g ig mk _ X hg hsize hdg hW hn ⟨r1, r2, rfl, hB, F1, F2, hA, hS, hz, l0, l2, hp⟩
  have al' : Z.vm.Alike B.U.vm := hZ.alike.trans X'.warmed.alike
  have hsz : E'.slots.size = D.slots.size := by
    obtain ⟨-, -, -, kB, w1, w2, w3⟩ := q1
    obtain ⟨kB', y1, y2⟩ := al'.2.2 _ _ e3
    rw [q2.2.1] at w1
    cases w1.symm.trans y1
    rw [w3, e5 i3, y2]
  refine ⟨v, B, X', ⟨_, ⟨hv, ?_, ⟨by omega, fun y cy hy hn' => q10 y cy (by simpa using hn') hy, fun y cy hy => ?_⟩, q11, ⟨E', _, q1.1, by rw [q2.2.1]; exact e2, by rw [q2.2.1]; exact e3, by rw [q2.1]; exact obV, fun _ => by rw [hsz]; exact e5 i3⟩,
    ⟨E', cfV, kV, iV, fV, q1.1, gV, stV, by rw [q2.1]; exact knV, by rw [q2.1]; exact obV, by rw [q2.2.1]; exact asV, q3⟩, ⟨E', cfC, kC, iC, fC, q1.1, gC, stC, by rw [q2.1]; exact knV, by rw [q2.1]; exact obV, by rw [q2.2.1]; exact asC, q4⟩,
    ⟨V', ⟨q5.1, State.isArrayOf_alike al'.symm q5.2.1, q5.2.2.1⟩, q6, by rw [← al'.findClass]; exact q7, q8, fun j hj => by have := q9 j hj; rwa [Nat.zero_add] at this⟩, fun O n d w F n1 n2 => ?_⟩, hl, hc, hs⟩, st⟩
  · intro y hy
    simp only [List.mem_cons, List.not_mem_nil, or_false] at hy
    rcases hy with rfl | rfl <;> rfl
  · by_cases q : y = x
    · subst q
      cases hD.symm.trans hy
      exact ⟨E', q1.1, q2.2.1, q2.1, hsz⟩
    · exact ⟨cy, q10 y cy q hy, rfl, rfl, rfl⟩
  · obtain ⟨D3, cf, k, i, f, g1, g2, g3, g4, g5, g6, g7⟩ := F
    cases hD.symm.trans g1
    simp only [RoadKit.slotOf, g2, gV, gC, Option.map_some, Option.getD_some] at n1 n2
    exact ⟨E', cf, k, i, f, q1.1, g2, g3, by rw [q2.1]; exact g4, by rw [q2.1]; exact g5, by rw [q2.2.1]; exact g6, by rw [q2.2.2 f.slot (by simp [n1, n2])]; exact g7⟩
end StrChars.Road
namespace StrChars.Road
open Jvm Sem ClassFile Op Lib Jvm.Stand Jvm.Free Jvm.Free.XT
/-- WHAT COMES BACK, the byte[] as a list of values -/
def QA (Z : State) (x : Addr) (zn : Int32) (cs : List Int32) (h : Heap) (v : Option Value) (h' : Heap) (L : List Loc) : Prop := v = none ∧ (∀ y ∈ L, y.base = x) ∧ RoadKit.Keep h h' [x] ∧ h'.size = h.size + 1 ∧ RoadKit.Exa Z h' x ST ∧ RoadKit.Fld Z h' x ST "value" "[B" (.ref h.size) ∧ RoadKit.Fld Z h' x ST "coder" "B" (.int 0) ∧
  (∃ kb, Z.vm.findClass "[B" = some kb ∧ RoadKit.Arv Z h' h.size kb .byte zn (cs.map fun c => .int (lo8 c)) (.int 0)) ∧
  ∀ (O n d : String) (w : Value), RoadKit.Fld Z h x O n d w → RoadKit.slotOf Z O n d ≠ RoadKit.slotOf Z ST "value" "[B" → RoadKit.slotOf Z O n d ≠ RoadKit.slotOf Z ST "coder" "B" → RoadKit.Fld Z h' x O n d w
/-- **new String(chars) AT A CALL, THE ARRAYS AS LISTS**: the char[] at b holds cs, not empty, no char above 255 -/
theorem backArv {p : Program} {l : Launch} {e : Env} {R : Room} {s : State} {args : Array Value} {below : List Frame} {len W : Nat} {Z : State} {a0 : Array Value} {h : Heap} (hZ : Z.Warmed39 s.vm) (hw : ∀ d ∈ words, d.before a0 Z = true) {kI : Nat} (wi : (Jvm.Cond.instantiable ST kI).before a0 Z = true)
    {x b : Addr} {k : ClassId} {zn z : Int32} {cs : List Int32} {dv v0 c0 : Value} (E : RoadKit.Exa Z h x ST) (V : RoadKit.Fld Z h x ST "value" "[B" v0) (C : RoadKit.Fld Z h x ST "coder" "B" c0) (K : RoadKit.Arv Z h b k .char zn (cs.map Value.int) dv) (S : RoadKit.Sta Z h ST "COMPACT_STRINGS" "Z" (.int z)) (hz : ¬ z = 0)
    (hlen : zn.toNatClampNeg = cs.length) (h0 : 0 < cs.length) (hbig : cs.length ≤ 536870912) (hall : ∀ c ∈ cs, ¬ 255 < c) (hfr : 4 ≤ R.frames) (hlo : W + 65 ≤ R.locals) :
    Back l R p e below s args New1.yN len W (fun P a => a = #[.ref x, .ref b] ∧ P.U.heap = h ∧ P.cells + 1 ≤ R.cells ∧ P.slots + cs.length ≤ R.slots)
      (fun P _ v B => ∃ L, QA Z x zn cs h v B.U.heap L ∧ B.locs = P.locs ++ L ∧ B.cells = P.cells + 1 ∧ B.slots = P.slots + cs.length) := by
  obtain ⟨A, K1, K2, K3, K4, K5, K6⟩ := K
  have e : A.slots.size = cs.length := K3.trans hlen
  have hat : ∀ (i : Nat) (hi : i < cs.length), A.slots[i]? = some (.int cs[i]) := fun i hi => by rw [K5 i (by omega)]; simp [List.getD_eq_getElem?_getD, hi]
  have hcv : ∀ (i : Nat) (hi : i < cs.length), cv A i = cs[i] := fun i hi => by unfold cv; rw [hat i hi]
  have hty : Typed .char A := fun i v hv => by
    have hi : i < A.slots.size := (Array.getElem?_eq_some_iff.mp hv).1
    have q := K5 i hi
    rw [hv] at q
    rw [Option.some.inj q]
    exact K6 i hi
  refine Back.mono (back hZ hw wi E V C K1 hty S hz (by omega) (by omega) (fun i hi => by rw [hcv i (by omega)]; exact hall _ (List.getElem_mem _)) hfr hlo) (fun P a hp => ⟨hp.1, hp.2.1, hp.2.2.1, by rw [e]; exact hp.2.2.2⟩) (fun P a v B hp hq => ?_)
  obtain ⟨L, ⟨q1, q2, q3, q4, q5, q6, q7, ⟨V', v1, v2, v3, v4, v5⟩, q9⟩, hl, hc, hs⟩ := hq
  refine ⟨L, ⟨q1, q2, q3, q4, q5, q6, q7, ⟨V'.cls, v3, V', v1, rfl, by rw [v4, e, hlen], K4, fun i hi => ?_, fun i hi => ?_⟩, q9⟩, hl, hc, by rw [hs, e]⟩
  · have hi' : i < cs.length := by omega
    rw [v5 i (by omega), hcv i hi']; simp [List.getD_eq_getElem?_getD, hi']
  · have hi' : i < cs.length := by omega
    simp only [List.getD_eq_getElem?_getD, List.getElem?_map, List.getElem?_eq_getElem hi', Option.map_some, Option.getD_some]
    exact fits_lo8 _
end StrChars.Road
namespace StrChars.Road
open Jvm Sem ClassFile Op Lib Jvm.Stand Jvm.Free Jvm.Free.XT
/-- WHAT COMES BACK, in the writer's own shape -/
def QV (Z : State) (x : Addr) (N : Int32) (bs : List Int32) (h : Heap) (n0 : Nat) (v : Option Value) (h' : Heap) (L : List Loc) : Prop := v = none ∧ RoadKit.Fr n0 L ∧ RoadKit.Keep h h' [x] ∧ RoadKit.Exa Z h' x ST ∧ RoadKit.Fld Z h' x ST "coder" "B" (.int 0) ∧
  ∃ (t : Addr) (kb : ClassId), n0 ≤ t ∧ h.size ≤ t ∧ ¬ t = x ∧ RoadKit.Fld Z h' x ST "value" "[B" (.ref t) ∧ RoadKit.Arv Z h' t kb .byte N (bs.map Value.int) (.int 0)
/-- **new String(chars) AT A CALL, FOR THE WRITER**: a char[] of n known ints, each 0 to 255 -/
theorem backV {p : Program} {l : Launch} {e : Env} {R : Room} {s : State} {args : Array Value} {below : List Frame} {len W : Nat} {Z : State} {a0 : Array Value} {h : Heap} (hZ : Z.Warmed39 s.vm) (hw : ∀ d ∈ words, d.before a0 Z = true) {kI : Nat} (wi : (Jvm.Cond.instantiable ST kI).before a0 Z = true)
    {x b : Addr} {kC : ClassId} {cs bs : List Int32} {d v0 c0 : Value} {z N : Int32} {n n0 : Nat} (hx0 : n0 ≤ x) (hh0 : n0 ≤ h.size) (E : RoadKit.Exa Z h x ST) (V : RoadKit.Fld Z h x ST "value" "[B" v0) (C : RoadKit.Fld Z h x ST "coder" "B" c0) (K : RoadKit.Arv Z h b kC .char N (cs.map Value.int) d) (S : RoadKit.Sta Z h ST "COMPACT_STRINGS" "Z" (.int z)) (hz : ¬ z = 0)
    (hn : cs.length = n) (hN : N = Int32.ofNat n) (l0 : 0 < n) (l2 : n ≤ 4000) (hp : ∀ c ∈ cs, ¬ c < 0 ∧ ¬ (255 : Int32) < c) (hb : bs = cs.map (fun c => c.toInt8.toInt32)) (hfr : 4 ≤ R.frames) (hlo : W + 65 ≤ R.locals) :
    Back l R p e below s args (⟨"java/lang/String", "<init>", "([C)V"⟩ : MethodName) len W (fun P a => a = #[.ref x, .ref b] ∧ P.U.heap = h ∧ P.cells + 1 ≤ R.cells ∧ P.slots + n ≤ R.slots)
      (fun P _ v B => ∃ L, QV Z x N bs h n0 v B.U.heap L ∧ B.locs = P.locs ++ L ∧ B.cells = P.cells + 1 ∧ B.slots = P.slots + n) := by
  subst hn hN hb
  refine Back.mono (backArv hZ hw wi E V C K S hz (n32 (by omega)) l0 (by omega) (fun c hc => (hp c hc).2) hfr hlo) (fun P a hp => hp) (fun P a v B hp hq => ?_)
  obtain ⟨L, ⟨q1, q2, q3, q4, q5, q6, q7, ⟨kb, v1, v2⟩, q9⟩, hl, hc, hs⟩ := hq
  exact ⟨L, ⟨q1, fun y hy => by rw [q2 y hy]; exact hx0, q3, q5, q7, h.size, kb, hh0, Nat.le_refl _, Nat.ne_of_gt E.lt, q6, by rw [List.map_map]; exact v2⟩, hl, hc, hs⟩
end StrChars.Road
namespace StrChars
open Jvm Sem ClassFile Op Lib Jvm.Stand Jvm.Free.XT Jvm.Free.ALB Jvm.Free.JM Jvm.Free
open Jvm.Lib.Cold (StaticIs)
def hi8 (x : Int32) : Int32 := lo8 (x >>> ((8 : Int32) &&& 31))
/-- what StringUTF16.getChar makes of two bytes -/
def pairCh (u v : Int32) : Int32 := (((u &&& 255) <<< ((0 : Int32) &&& 31)) ||| ((v &&& 255) <<< ((8 : Int32) &&& 31))).toUInt32.toUInt16.toUInt32.toInt32
theorem lo8_and (x : Int32) : (lo8 x &&& 255).toBitVec.toNat = x.toBitVec.toNat % 256 := by
  have h : (lo8 x).toBitVec = (x.toBitVec.signExtend 8).signExtend 32 := by rw [lo8, Int8.toBitVec_toInt32, Int32.toBitVec_toInt8]
  rw [Int32.toBitVec_and, BitVec.toNat_and, h]
  have e : ((x.toBitVec.signExtend 8).signExtend 32).toNat % 256 = x.toBitVec.toNat % 256 := by
    rw [BitVec.toNat_signExtend]
    have hlt := x.toBitVec.isLt
    simp only [BitVec.toNat_setWidth, BitVec.toNat_signExtend]
    split <;> split <;> omega
  rw [← e]
  exact Nat.and_two_pow_sub_one_eq_mod _ 8
theorem pair_says {c : Int32} (h0 : ¬ c < 0) (h1 : ¬ 65535 < c) : pairCh (lo8 c) (hi8 c) = c := by
  rw [Int32.lt_iff_toInt_lt] at h0 h1
  have e0 : (0 : Int32).toInt = 0 := rfl
  have e1 : (65535 : Int32).toInt = 65535 := rfl
  have hc : c.toInt = c.toBitVec.toNat := by
    have := c.toBitVec.isLt
    have e : c.toInt = c.toBitVec.toInt := rfl
    rw [e] at h0 h1
    rw [e]
    rw [BitVec.toInt_eq_toNat_cond] at h0 h1 ⊢
    split at h0 <;> split <;> omega
  have hn : c.toBitVec.toNat < 65536 := by omega
  have a1 := lo8_and c
  have a2 : (hi8 c &&& 255).toBitVec.toNat = c.toBitVec.toNat / 256 := by
    rw [hi8, lo8_and]
    have e : ((8 : Int32) &&& 31) = 8 := by decide
    rw [e, Int32.toBitVec_shiftRight]
    have e2 : ((8 : Int32).toBitVec.smod 32) = 8#32 := by decide
    rw [e2, BitVec.sshiftRight_eq', BitVec.toNat_sshiftRight_of_msb_false (by rw [BitVec.msb_eq_false_iff_two_mul_lt]; omega)]
    show c.toBitVec.toNat >>> 8 % 256 = _
    rw [Nat.shiftRight_eq_div_pow]
    omega
  unfold pairCh
  apply Int32.toBitVec_inj.mp
  apply BitVec.eq_of_toNat_eq
  have f0 : ((0 : Int32) &&& 31) = 0 := by decide
  have f8 : ((8 : Int32) &&& 31) = 8 := by decide
  rw [f0, f8]
  have g : (((lo8 c &&& 255) <<< (0 : Int32)) ||| ((hi8 c &&& 255) <<< (8 : Int32))).toBitVec.toNat = c.toBitVec.toNat := by
    rw [Int32.toBitVec_or, Int32.toBitVec_shiftLeft, Int32.toBitVec_shiftLeft]
    have s0 : ((0 : Int32).toBitVec.smod 32) = 0#32 := by decide
    have s8 : ((8 : Int32).toBitVec.smod 32) = 8#32 := by decide
    rw [s0, s8, BitVec.toNat_or]
    simp only [BitVec.shiftLeft_eq', BitVec.toNat_shiftLeft, a1, a2]
    show (c.toBitVec.toNat % 256) <<< 0 % 2 ^ 32 ||| (c.toBitVec.toNat / 256) <<< 8 % 2 ^ 32 = _
    rw [Nat.shiftLeft_zero, Nat.mod_eq_of_lt (show c.toBitVec.toNat % 256 < 2 ^ 32 by omega), Nat.mod_eq_of_lt (show (c.toBitVec.toNat / 256) <<< 8 < 2 ^ 32 by rw [Nat.shiftLeft_eq]; omega), Nat.or_comm, ← Nat.shiftLeft_add_eq_or_of_lt (by omega), Nat.shiftLeft_eq]
    omega
  show BitVec.toNat (((((lo8 c &&& 255) <<< (0 : Int32)) ||| ((hi8 c &&& 255) <<< (8 : Int32))).toBitVec.setWidth 16).setWidth 32) = _
  rw [BitVec.toNat_setWidth, BitVec.toNat_setWidth, g]
  omega
end StrChars
namespace StrChars
open Jvm Sem ClassFile Op Lib Jvm.Stand Jvm.Free.XT Jvm.Free.ALB Jvm.Free.JM Jvm.Free
open Jvm.Lib.Cold (StaticIs)
/-- charAt's cast of a byte read back -/
def chr8 (u : Int32) : Int32 := (u &&& 255).toUInt32.toUInt16.toUInt32.toInt32
theorem chr8_lo8 {c : Int32} (h0 : ¬ c < 0) (h1 : ¬ 255 < c) : chr8 (lo8 c) = c := by
  have t : ∀ k : Fin 256, (Int32.ofNat k.val).toUInt32.toUInt16.toUInt32.toInt32 = Int32.ofNat k.val := by decide +kernel
  unfold chr8
  rw [lo8_mask h0 h1]
  rw [Int32.lt_iff_toInt_lt] at h0 h1
  have e0 : (0 : Int32).toInt = 0 := rfl
  have e1 : (255 : Int32).toInt = 255 := rfl
  obtain ⟨k, hk⟩ : ∃ k : Nat, c.toInt = k := ⟨c.toInt.toNat, by omega⟩
  have hx : c = Int32.ofNat k := Int32.toInt_inj.mp (by rw [hk, Int32.toInt_ofNat_small (by omega)])
  rw [hx]
  exact t ⟨k, by omega⟩
theorem narrow_ch {c : Int32} (h0 : ¬ c < 0) (h1 : ¬ 65535 < c) : narrow .char (.int c) = .int c := by
  have q : narrow .char (.int (pairCh (lo8 c) (hi8 c))) = .int (pairCh (lo8 c) (hi8 c)) := narrow_c _
  rwa [pair_says h0 h1] at q
/-- the array's cell V codes the n chars f 0 .. f (n - 1) by the coder cd, as the JDK does: coder 1 just where some char is above 255 -/
def Cod (cd : Int32) (n : Nat) (f : Nat → Int32) (V : Cell) : Prop := (cd = 0 ∧ V.slots.size = n ∧ ∀ j, j < n → V.slots[j]? = some (.int (lo8 (f j))) ∧ ¬ 255 < f j) ∨ (cd = 1 ∧ V.slots.size = 2 * n ∧ (∀ j, j < n → V.slots[2 * j]? = some (.int (lo8 (f j))) ∧ V.slots[2 * j + 1]? = some (.int (hi8 (f j)))) ∧ ∃ j, j < n ∧ 255 < f j)
theorem Cod.cd {cd : Int32} {n : Nat} {f : Nat → Int32} {V : Cell} (h : Cod cd n f V) : cd = 0 ∨ cd = 1 := h.imp (fun q => q.1) fun q => q.1
/-- **x is a String of the n chars f 0 .. f (n - 1)**, Latin-1 or UTF-16; its array at t has the cell V -/
def Txt (x t : Addr) (V : Cell) (cd : Int32) (n : Nat) (f : Nat → Int32) (U : State) : Prop := Exact "java/lang/String" x U ∧ Has x "java/lang/String" "value" "[B" (.ref t) U ∧ Has x "java/lang/String" "coder" "B" (.int cd) U ∧ XT.Arr .byte t V U ∧ Cod cd n f V ∧ ∀ j, j < n → ¬ f j < 0 ∧ ¬ 65535 < f j
theorem Txt.mv {x t : Addr} {V : Cell} {cd : Int32} {n : Nat} {f : Nat → Int32} {U U' : State} (h : Txt x t V cd n f U) (hal : U.vm.Alike U'.vm) (hh : U'.heap = U.heap) : Txt x t V cd n f U' := ⟨h.1.mv hal hh, h.2.1.mv hal hh, h.2.2.1.mv hal hh, h.2.2.2.1.mv hal hh, h.2.2.2.2⟩
namespace IsL
def yN : MethodName := ⟨"java/lang/String", "isLatin1", "()Z"⟩
abbrev yB : ByteArray := jdk_42_method_154_code
theorem d0 : decode yB 0 = .ok (.getstatic 38, 3) := by decide +kernel
theorem d3 : decode yB 3 = .ok (.ifCond (.eq) 14, 3) := by decide +kernel
theorem d6 : decode yB 6 = .ok (.aload_n 0, 1) := by decide +kernel
theorem d7 : decode yB 7 = .ok (.getfield 15, 3) := by decide +kernel
theorem d10 : decode yB 10 = .ok (.ifCond (.ne) 7, 3) := by decide +kernel
theorem d13 : decode yB 13 = .ok (.iconst 1, 1) := by decide +kernel
theorem d14 : decode yB 14 = .ok (.goto 4, 3) := by decide +kernel
theorem d17 : decode yB 17 = .ok (.iconst 0, 1) := by decide +kernel
theorem d18 : decode yB 18 = .ok (.ireturn, 1) := by decide +kernel
def site : List Cond := [.fieldLink "java/lang/String" 38 "java/lang/String" "COMPACT_STRINGS" "Z", .fieldLink "java/lang/String" 15 "java/lang/String" "coder" "B"]
def tab : Cond := tabOf yN yB 1 (some .boolean) site
def P (x : Addr) (cd z : Int32) (args : Array Value) (s : State) : Prop := args = #[.ref x] ∧ Has x "java/lang/String" "coder" "B" (.int cd) s ∧ (cd = 0 ∨ cd = 1) ∧ StaticIs s "java/lang/String" "COMPACT_STRINGS" "Z" (.int z) ∧ ¬ z = 0
def E (cd : Int32) (r : Option Value) (s u : State) : Prop := XT.PureE (some (.int (1 - cd))) r s u
theorem law (l : Launch) (x : Addr) (cd z : Int32) : Law l yN 1 0 0 0 yB 1 (some .boolean) site (P x cd z) (E cd) [] 0 0 := by
  refine Law.of_walk (plainFor_of_name (by decide +kernel)) (by decide +kernel) (by decide +kernel) (by decide) (fun _ _ h => by rw [h.1]; rfl) (fun _ U U' hal hh h => ⟨h.1, h.2.1.mv hal hh, h.2.2.1, h.2.2.2.1.there hal hh, h.2.2.2.2⟩) (fun r U U' V V' h1 hal h2 h => XT.PureE.mv r U U' V V' h1 hal h2 h) ?_
  intro p e s m args below meth c s₁ X0 hexec hbytes hml hret hlk hnm hown hh0 W hP
  obtain ⟨rfl, hx, hc, s1, hz⟩ := hP
  have c1 : Steps p.tables e below (s₁.setTop (entryFrame m #[.ref x] 1)) (s₁.setTop (mkF m 0 #[.val (.ref x)] [])) := entry rfl
  obtain ⟨T2, X2, q2, st2⟩ := X0.sget hexec hown (wk W (.fieldLink "java/lang/String" 38 "java/lang/String" "COMPACT_STRINGS" "Z")) s1 (fun _ _ h => by rw [hh0]; exact h) (g := (mkF m 0 #[.val (.ref x)] [])) rfl (hb hbytes d0)
  have hh2 := q2.trans hh0
  have c3 : Steps p.tables e below (s₁.setTop (entryFrame m #[.ref x] 1)) (T2.setTop (mkF m 7 #[.val (.ref x)] [.ref x])) := (c1.trans (st2 _ (Steps.refl _))).trans (by
    refine XS.ifNo X2.here hexec rfl (hb hbytes d3) rfl (i0_eq_f hz) ?_
    refine XS.aloadN X2.here hexec rfl (hb hbytes d6) rfl rfl ?_
    exact Steps.refl _)
  obtain ⟨T4, X4, q4, st4⟩ := X2.hget hexec hown (wk W (.fieldLink "java/lang/String" 15 "java/lang/String" "coder" "B")) (hx.mv X2.warmed.alike hh2) (g := (mkF m 7 #[.val (.ref x)] [.ref x])) rfl (rest := []) rfl (hb hbytes d7)
  have c5 : Steps p.tables e below (s₁.setTop (entryFrame m #[.ref x] 1)) (T4.setTop (mkF m 10 #[.val (.ref x)] [.int cd])) := c3.trans (st4 _ (Steps.refl _))
  have c6 : Steps p.tables e below (s₁.setTop (entryFrame m #[.ref x] 1)) (T4.setTop (mkF m 18 #[.val (.ref x)] [.int (1 - cd)])) := by
    rcases hc with rfl | rfl
    · exact c5.trans (by
        refine XS.ifNo X4.here hexec rfl (hb hbytes d10) rfl (i0_ne_f rfl) ?_
        refine iconstV X4.here hexec rfl 1 (hb hbytes d13) (by decide) ?_
        refine XS.goto X4.here hexec rfl (pc0 := 14) rfl (hb hbytes d14) (by decide) rfl ?_
        exact Steps.refl _)
    · exact c5.trans (by
        refine XS.ifYes X4.here hexec rfl (pc0 := 10) rfl (hb hbytes d10) rfl (i0_ne_t (by decide)) (by decide) rfl ?_
        refine iconstV X4.here hexec rfl 0 (hb hbytes d17) (by decide) ?_
        exact Steps.refl _)
  exact ⟨T4, some (.int (1 - cd)), _, _, _, X4, rfl, rfl, rfl, (fun h => by cases h), ⟨rfl, q4.trans hh2⟩, fun fs hl => c6.trans (X4.ireturnOut hexec hret (by rcases hc with rfl | rfl <;> rfl) (Or.inr (Or.inl rfl)) (hb hbytes d18) hl)⟩
end IsL
namespace LChA
def yN : MethodName := ⟨"java/lang/StringLatin1", "charAt", "([BI)C"⟩
abbrev yB : ByteArray := jdk_43_method_2_code
theorem d0 : decode yB 0 = .ok (.iload_n 1, 1) := by decide +kernel
theorem d1 : decode yB 1 = .ok (.aload_n 0, 1) := by decide +kernel
theorem d2 : decode yB 2 = .ok (.arraylength, 1) := by decide +kernel
theorem d3 : decode yB 3 = .ok (.invokestatic 9, 3) := by decide +kernel
theorem d6 : decode yB 6 = .ok (.aload_n 0, 1) := by decide +kernel
theorem d7 : decode yB 7 = .ok (.iload_n 1, 1) := by decide +kernel
theorem d8 : decode yB 8 = .ok (.baload, 1) := by decide +kernel
theorem d9 : decode yB 9 = .ok (.sipush 255, 3) := by decide +kernel
theorem d12 : decode yB 12 = .ok (.iand, 1) := by decide +kernel
theorem d13 : decode yB 13 = .ok (.i2c, 1) := by decide +kernel
theorem d14 : decode yB 14 = .ok (.ireturn, 1) := by decide +kernel
def site : List Cond := [JO.Str_checkIndex.tab] ++ staticW "java/lang/StringLatin1" 9 JO.Str_checkIndex.yN
def tab : Cond := tabOf yN yB 2 (some .char) site
def P (t : Addr) (V : Cell) (i : Nat) (u : Int32) (fm : Value) (args : Array Value) (s : State) : Prop := args = #[.ref t, .int (Int32.ofNat i)] ∧ XT.Arr .byte t V s ∧ V.slots[i]? = some (.int u) ∧ (StaticIs s "jdk/internal/util/Preconditions" "SIOOBE_FORMATTER" "Ljava/util/function/BiFunction;" fm ∧ fm.isRef = true)
def E (u : Int32) (r : Option Value) (s w : State) : Prop := XT.PureE (some (.int (chr8 u))) r s w
theorem law (l : Launch) (t : Addr) (V : Cell) (i : Nat) (u : Int32) (fm : Value) : Law l yN 2 2 2 27 yB 2 (some .char) site (P t V i u fm) (E u) [] 0 0 := by
  refine Law.of_walk (plainFor_of_name (by decide +kernel)) (by decide +kernel) (by decide +kernel) (by decide) (fun _ _ h => by rw [h.1]; rfl) (fun _ U U' hal hh h => ⟨h.1, h.2.1.mv hal hh, h.2.2.1, h.2.2.2.1.there hal hh, h.2.2.2.2⟩) (fun r U U' V V' h1 hal h2 h => XT.PureE.mv r U U' V V' h1 hal h2 h) ?_
  intro p e s m args below meth c s₁ X0 hexec hbytes hml hret hlk hnm hown hh0 W hP
  obtain ⟨rfl, hV, hu, s1, rf⟩ := hP
  have v31 := hV.2.2.2
  have hi : i < V.slots.size := (Array.getElem?_eq_some_iff.mp hu).1
  have c1 : Steps p.tables e below (s₁.setTop (entryFrame m #[.ref t, .int (Int32.ofNat i)] 2)) (s₁.setTop (mkF m 0 #[.val (.ref t), .val (.int (Int32.ofNat i))] [])) := entry rfl
  have c2 : Steps p.tables e below (s₁.setTop (entryFrame m #[.ref t, .int (Int32.ofNat i)] 2)) (s₁.setTop (mkF m 3 #[.val (.ref t), .val (.int (Int32.ofNat i))] [.int (Int32.ofNat V.slots.size), .int (Int32.ofNat i)])) := c1.trans (by
    refine XS.iloadN X0.here hexec rfl (hb hbytes d0) rfl ?_
    refine XS.aloadN X0.here hexec rfl (hb hbytes d1) rfl rfl ?_
    refine X0.alen hexec (hV.mv X0.warmed.alike hh0) rfl rfl (hb hbytes d2) ?_
    exact Steps.refl _)
  obtain ⟨v3, T3, X3, E3, g3⟩ := X0.callS hexec (JO.Str_checkIndex.law l (Int32.ofNat i) (Int32.ofNat V.slots.size) fm) hown (wks W (staticW "java/lang/StringLatin1" 9 JO.Str_checkIndex.yN)) (wk W JO.Str_checkIndex.tab) (W := 0) (Nat.le_of_ble_eq_true rfl) (Nat.le_of_ble_eq_true rfl) (Nat.le_refl _) (Nat.le_refl _) (g := (mkF m 3 #[.val (.ref t), .val (.int (Int32.ofNat i))] [.int (Int32.ofNat V.slots.size), .int (Int32.ofNat i)])) rfl (by rw [hml]; rfl) c2 (argsL := [.int (Int32.ofNat i), .int (Int32.ofNat V.slots.size)]) (rest := []) rfl rfl (by show 2 * 0 + 0 ≤ _; decide) (hb hbytes d3) (⟨rfl, rf, s1.there X0.warmed.alike hh0, Int32.ofNat_not_neg (by omega), lt32 v31 hi⟩)
  obtain ⟨rfl, q3⟩ := E3
  have hh3 := q3.trans hh0
  have c4 : Steps p.tables e below (s₁.setTop (entryFrame m #[.ref t, .int (Int32.ofNat i)] 2)) (T3.setTop (mkF m 14 #[.val (.ref t), .val (.int (Int32.ofNat i))] [.int (chr8 u)])) := Steps.trans g3 (by
    refine XS.aloadN X3.here hexec rfl (hb hbytes d6) rfl rfl ?_
    refine XS.iloadN X3.here hexec rfl (hb hbytes d7) rfl ?_
    refine X3.aget hexec (hV.mv X3.warmed.alike hh3) rfl hu rfl rfl (hb hbytes d8) ?_
    refine sipushV X3.here hexec rfl 255 (hb hbytes d9) (by decide) ?_
    refine XS.iand X3.here hexec rfl (hb hbytes d12) rfl ?_
    refine i2c X3.here hexec rfl (hb hbytes d13) rfl ?_
    exact Steps.refl _)
  exact ⟨T3, some (.int (chr8 u)), _, _, _, X3, rfl, rfl, rfl, (fun h => by cases h), ⟨rfl, hh3⟩, fun fs hl => c4.trans (X3.ireturnOut hexec hret (narrow_c _) (Or.inr (Or.inr (Or.inr (Or.inl rfl)))) (hb hbytes d14) hl)⟩
end LChA
end StrChars
namespace StrChars.Road
open Jvm Sem ClassFile Op Lib Jvm.Stand Jvm.Free Jvm.Free.XT
open Jvm.Lib.Cold (StaticIs)
theorem consq {a : Array Value} {s : State} {c : Jvm.Cond} {L : List Jvm.Cond} (h0 : c.before a s = true) (h : ∀ w ∈ L, w.before a s = true) : ∀ w ∈ c :: L, w.before a s = true := fun w hw => (List.mem_cons.mp hw).elim (fun e => e ▸ h0) (h w)
/-- the bytes of the chars cs, low before high -/
def wideBytes : List Int32 → List Value
  | [] => []
  | c :: cs => .int (lo8 c) :: .int (hi8 c) :: wideBytes cs
theorem wide_lo (d : Value) : ∀ (cs : List Int32) (j : Nat), j < cs.length → (wideBytes cs).getD (2 * j) d = .int (lo8 (cs.getD j 0))
  | [], j, h => absurd h (Nat.not_lt_zero j)
  | c :: cs, 0, _ => rfl
  | c :: cs, j + 1, h => by
    have q := wide_lo d cs j (by simpa using h)
    rw [show 2 * (j + 1) = 2 * j + 1 + 1 from by omega]
    simpa [wideBytes] using q
theorem wide_hi (d : Value) : ∀ (cs : List Int32) (j : Nat), j < cs.length → (wideBytes cs).getD (2 * j + 1) d = .int (hi8 (cs.getD j 0))
  | [], j, h => absurd h (Nat.not_lt_zero j)
  | c :: cs, 0, _ => rfl
  | c :: cs, j + 1, h => by
    have q := wide_hi d cs j (by simpa using h)
    rw [show 2 * (j + 1) + 1 = 2 * j + 1 + 1 + 1 from by omega]
    simpa [wideBytes] using q
theorem low_at (d : Value) (cs : List Int32) (j : Nat) (h : j < cs.length) : (cs.map fun c => Value.int (lo8 c)).getD j d = .int (lo8 (cs.getD j 0)) := by
  simp [List.getD_eq_getElem?_getD, h]
/-- an array of N2 bytes vs codes the chars cs by the coder cd -/
def CodA (cs : List Int32) (cd N2 : Int32) (vs : List Value) : Prop := (cd = 0 ∧ N2 = Int32.ofNat cs.length ∧ vs = (cs.map fun c => Value.int (lo8 c)) ∧ ∀ c ∈ cs, ¬ 255 < c) ∨ (cd = 1 ∧ N2 = Int32.ofNat (2 * cs.length) ∧ vs = wideBytes cs ∧ ∃ c ∈ cs, 255 < c)
theorem CodA.cod {cs : List Int32} {cd N2 : Int32} {vs : List Value} {V : Cell} (h : CodA cs cd N2 vs) (hn : 2 * cs.length < 2 ^ 31) (hs : V.slots.size = N2.toNatClampNeg) (hv : RoadKit.Has V vs (.int 0)) : Cod cd cs.length (fun j => cs.getD j 0) V := by
  rcases h with ⟨rfl, rfl, rfl, h⟩ | ⟨rfl, rfl, rfl, c, hc, hw⟩
  · rw [n32 (by omega)] at hs
    exact Or.inl ⟨rfl, hs, fun j hj => ⟨by rw [hv j (by omega), low_at _ _ _ hj], by
      have e : cs.getD j 0 = cs[j] := by simp [List.getD_eq_getElem?_getD, hj]
      show ¬ 255 < cs.getD j 0
      rw [e]; exact h _ (List.getElem_mem _)⟩⟩
  · rw [n32 (by omega)] at hs
    obtain ⟨j, hj, rfl⟩ := List.getElem_of_mem hc
    exact Or.inr ⟨rfl, hs, fun j hj => ⟨by rw [hv _ (by omega), wide_lo _ _ _ hj], by rw [hv _ (by omega), wide_hi _ _ _ hj]⟩, j, hj, by
      have e : cs.getD j 0 = cs[j] := by simp [List.getD_eq_getElem?_getD, hj]
      show 255 < cs.getD j 0
      rw [e]; exact hw⟩
/-- an object of exactly java/lang/String, its two fields found: as the laws ask it -/
theorem strObj {Z U : State} {a0 : Array Value} {kI : Nat} (wi : (Jvm.Cond.instantiable ST kI).before a0 Z = true) (al : Z.vm.Alike U.vm) {x : Addr} {v0 c0 : Value} (E : RoadKit.Exa Z U.heap x ST) (V : RoadKit.Fld Z U.heap x ST "value" "[B" v0) (C : RoadKit.Fld Z U.heap x ST "coder" "B" c0) :
    ∃ (D : Cell) (fV fC : Field), Blank ST x D U ∧ Found ST "value" "[B" fV U ∧ Found ST "coder" "B" fC U ∧ D.slots[fV.slot]? = some v0 ∧ D.slots[fC.slot]? = some c0 ∧ RoadKit.slotOf Z ST "value" "[B" = fV.slot ∧ RoadKit.slotOf Z ST "coder" "B" = fC.slot := by
  obtain ⟨D, cfV, kV, iV, fV, hD, gV, stV, knV, obV, asV, slV⟩ := V
  obtain ⟨D', cfC, kC, iC, fC, hD', gC, stC, -, -, asC, slC⟩ := C
  cases hD.symm.trans hD'
  obtain ⟨D2, kD, e1, e2, e3, e4, e5⟩ := E
  cases hD.symm.trans e1
  obtain ⟨c2, k2, i1, i2, i3, -⟩ := Cond.instantiable_spec wi
  cases e2.symm.trans i1
  cases e3.symm.trans i2
  obtain ⟨kU, u1, u2⟩ := al.2.2 _ _ e3
  exact ⟨D, fV, fC, ⟨hD, ⟨knV, fun q hq => by rw [hq] at obV; cases obV⟩, by rw [al.findClass]; exact e2, kU, u1, by rw [u2]; exact i3, by rw [u2]; exact e5 i3⟩, ⟨SBG.found_only al ⟨cfV, kV, iV, gV⟩, stV⟩, ⟨SBG.found_only al ⟨cfC, kC, iC, gC⟩, stC⟩, slV, slC, by simp [RoadKit.slotOf, gV], by simp [RoadKit.slotOf, gC]⟩
theorem sta_is {Z U : State} (al : Z.vm.Alike U.vm) {C n d : String} {v : Value} (S : RoadKit.Sta Z U.heap C n d v) : StaticIs U C n d v := by
  obtain ⟨cfS, iS, kS, fS, st, cS, t1, t2, t3, t4, t5, t6, t7⟩ := S
  exact StaticIs.there (s := { Z with heap := U.heap }) ⟨cfS, iS, kS, fS, st, cS, t1, t2, t3, t4, t5, (fun q => by rw [q] at t6; cases t6), t7⟩ al rfl
end StrChars.Road
namespace StrChars.Road
open Jvm Sem ClassFile Op Lib Jvm.Stand Jvm.Free Jvm.Free.XT
open Jvm.Lib.Cold (StaticIs)
/-- the road's facts of a String, as the laws ask it -/
theorem txt_of {Z U : State} {a0 : Array Value} {kI : Nat} (wi : (Jvm.Cond.instantiable ST kI).before a0 Z = true) (al : Z.vm.Alike U.vm) {x t : Addr} {kb : ClassId} {cs : List Int32} {cd N2 : Int32} {vs : List Value} (E : RoadKit.Exa Z U.heap x ST) (V : RoadKit.Fld Z U.heap x ST "value" "[B" (.ref t)) (C : RoadKit.Fld Z U.heap x ST "coder" "B" (.int cd)) (K : RoadKit.Arv Z U.heap t kb .byte N2 vs (.int 0)) (hc : CodA cs cd N2 vs) (hb : ∀ c ∈ cs, ¬ c < 0 ∧ ¬ (65535 : Int32) < c) (l2 : cs.length ≤ 4000) :
    ∃ A, Txt x t A cd cs.length (fun j => cs.getD j 0) U := by
  obtain ⟨A, K1, K2, K3, K4, K5, K6⟩ := K
  have hcod := hc.cod (by omega) K3 K5
  obtain ⟨D, fV, fC, hB, F1, F2, g1, g2, -, -⟩ := strObj wi al E V C
  exact ⟨A, ⟨_, hB.2.2.1, D, hB.1, rfl, by cases q : D.vm <;> first | rfl | exact absurd q (hB.2.1.2 _)⟩, Has.of hB F1 g1, Has.of hB F2 g2, ⟨K1.1, State.isArrayOf_alike al K1.2.1, K1.2.2, by rcases hcod with ⟨-, q, -⟩ | ⟨-, q, -⟩ <;> omega⟩, hcod, fun j hj => by
    have e : cs.getD j 0 = cs[j] := by simp [List.getD_eq_getElem?_getD, hj]
    show ¬ cs.getD j 0 < 0 ∧ ¬ 65535 < cs.getD j 0
    rw [e]; exact hb _ (List.getElem_mem _)⟩
end StrChars.Road
namespace StrChars
open Jvm Sem ClassFile Op Lib Jvm.Stand Jvm.Free.XT Jvm.Free.ALB Jvm.Free.JM Jvm.Free
open Jvm.Lib.Cold (StaticIs)
namespace ChN
def yN : MethodName := ⟨"java/lang/String", "charAt", "(I)C"⟩
abbrev yB : ByteArray := jdk_42_method_56_code
theorem d0 : decode yB 0 = .ok (.aload_n 0, 1) := by decide +kernel
theorem d1 : decode yB 1 = .ok (.invokevirtual 492, 3) := by decide +kernel
theorem d4 : decode yB 4 = .ok (.ifCond (.eq) 12, 3) := by decide +kernel
theorem d7 : decode yB 7 = .ok (.aload_n 0, 1) := by decide +kernel
theorem d8 : decode yB 8 = .ok (.getfield 9, 3) := by decide +kernel
theorem d11 : decode yB 11 = .ok (.iload_n 1, 1) := by decide +kernel
theorem d12 : decode yB 12 = .ok (.invokestatic 495, 3) := by decide +kernel
theorem d15 : decode yB 15 = .ok (.ireturn, 1) := by decide +kernel
def site : List Cond := [.fieldLink "java/lang/String" 9 "java/lang/String" "value" "[B", IsL.tab, LChA.tab] ++ virtW "java/lang/String" 492 "java/lang/String" IsL.yN IsL.yN ++ staticW "java/lang/String" 495 LChA.yN
def tab : Cond := tabOf yN yB 2 (some .char) site
def P (x t : Addr) (V : Cell) (n : Nat) (f : Nat → Int32) (z : Int32) (fm : Value) (i : Nat) (args : Array Value) (s : State) : Prop := args = #[.ref x, .int (Int32.ofNat i)] ∧ Txt x t V 0 n f s ∧ i < n ∧ StaticIs s "java/lang/String" "COMPACT_STRINGS" "Z" (.int z) ∧ ¬ z = 0 ∧ StaticIs s "jdk/internal/util/Preconditions" "SIOOBE_FORMATTER" "Ljava/util/function/BiFunction;" fm ∧ fm.isRef = true
def E (f : Nat → Int32) (i : Nat) (r : Option Value) (s u : State) : Prop := XT.PureE (some (.int (f i))) r s u
/-- charAt(i) of a Latin-1 String of n chars, i < n: f i -/
theorem law (l : Launch) (x t : Addr) (V : Cell) (n : Nat) (f : Nat → Int32) (z : Int32) (fm : Value) (i : Nat) : Law l yN 2 1 3 40 yB 2 (some .char) site (P x t V n f z fm i) (E f i) [] 0 0 := by
  refine Law.of_walk (plainFor_of_name (by decide +kernel)) (by decide +kernel) (by decide +kernel) (by decide) (fun _ _ h => by rw [h.1]; rfl) (fun _ U U' hal hh h => ⟨h.1, h.2.1.mv hal hh, h.2.2.1, h.2.2.2.1.there hal hh, h.2.2.2.2.1, h.2.2.2.2.2.1.there hal hh, h.2.2.2.2.2.2⟩) (fun r U U' V V' h1 hal h2 h => XT.PureE.mv r U U' V V' h1 hal h2 h) ?_
  intro p e s m args below meth c s₁ X0 hexec hbytes hml hret hlk hnm hown hh0 W hP
  obtain ⟨rfl, hx, hi, s1, hz, s3, rf⟩ := hP
  have v31 := hx.2.2.2.1.2.2.2
  have hr := hx.2.2.2.2.2 i hi
  have hx0 := hx.mv X0.warmed.alike hh0
  have c1 : Steps p.tables e below (s₁.setTop (entryFrame m #[.ref x, .int (Int32.ofNat i)] 2)) (s₁.setTop (mkF m 1 #[.val (.ref x), .val (.int (Int32.ofNat i))] [.ref x])) := Steps.trans (entry rfl) (by
    show Steps p.tables e below (s₁.setTop (mkF m 0 #[.val (.ref x), .val (.int (Int32.ofNat i))] [])) _
    refine XS.aloadN X0.here hexec rfl (hb hbytes d0) rfl rfl ?_
    exact Steps.refl _)
  obtain ⟨v2, T2, X2, E2, g2⟩ := X0.callV hexec (IsL.law l x 0 z) hown (wks W (virtW "java/lang/String" 492 "java/lang/String" IsL.yN IsL.yN)) rfl (by decide) (wk W IsL.tab) (W := 0) (Nat.le_of_ble_eq_true rfl) (Nat.le_of_ble_eq_true rfl) (Nat.le_refl _) (Nat.le_refl _) (hx0.1.fc X0.warmed.alike) hx0.1.is (g := (mkF m 1 #[.val (.ref x), .val (.int (Int32.ofNat i))] [.ref x])) rfl (by rw [hml]; rfl) c1 (argsL := []) (rest := []) rfl rfl (by show 2 * 0 + 0 ≤ _; decide) (hb hbytes d1) (⟨rfl, hx0.2.2.1, hx.2.2.2.2.1.cd, s1.there X0.warmed.alike hh0, hz⟩)
  obtain ⟨rfl, q2⟩ := E2
  have hh2 := q2.trans hh0
  have hx2 := hx.mv X2.warmed.alike hh2
  obtain ⟨-, k1, k2⟩ | ⟨k0, -⟩ := hx.2.2.2.2.1
  · have c3 : Steps p.tables e below (s₁.setTop (entryFrame m #[.ref x, .int (Int32.ofNat i)] 2)) (T2.setTop (mkF m 8 #[.val (.ref x), .val (.int (Int32.ofNat i))] [.ref x])) := Steps.trans g2 (by
      refine XS.ifNo X2.here hexec rfl (hb hbytes d4) rfl (i0_eq_f (by decide)) ?_
      refine XS.aloadN X2.here hexec rfl (hb hbytes d7) rfl rfl ?_
      exact Steps.refl _)
    obtain ⟨T4, X4, q4, st4⟩ := X2.hget hexec hown (wk W (.fieldLink "java/lang/String" 9 "java/lang/String" "value" "[B")) hx2.2.1 (g := (mkF m 8 #[.val (.ref x), .val (.int (Int32.ofNat i))] [.ref x])) rfl (rest := []) rfl (hb hbytes d8)
    have hh4 := q4.trans hh2
    have c5 : Steps p.tables e below (s₁.setTop (entryFrame m #[.ref x, .int (Int32.ofNat i)] 2)) (T4.setTop (mkF m 12 #[.val (.ref x), .val (.int (Int32.ofNat i))] [.int (Int32.ofNat i), .ref t])) := (c3.trans (st4 _ (Steps.refl _))).trans (by
      refine XS.iloadN X4.here hexec rfl (hb hbytes d11) rfl ?_
      exact Steps.refl _)
    obtain ⟨v6, T6, X6, E6, g6⟩ := X4.callS hexec (LChA.law l t V i (lo8 (f i)) fm) hown (wks W (staticW "java/lang/String" 495 LChA.yN)) (wk W LChA.tab) (W := 0) (Nat.le_of_ble_eq_true rfl) (Nat.le_of_ble_eq_true rfl) (Nat.le_refl _) (Nat.le_refl _) (g := (mkF m 12 #[.val (.ref x), .val (.int (Int32.ofNat i))] [.int (Int32.ofNat i), .ref t])) rfl (by rw [hml]; rfl) c5 (argsL := [.ref t, .int (Int32.ofNat i)]) (rest := []) rfl rfl (by show 2 * 0 + 0 ≤ _; decide) (hb hbytes d12) (⟨rfl, hx.2.2.2.1.mv X4.warmed.alike hh4, (k2 i hi).1, s3.there X4.warmed.alike hh4, rf⟩)
    obtain ⟨rfl, q6⟩ := E6
    rw [chr8_lo8 hr.1 (k2 i hi).2] at g6
    exact ⟨T6, some (.int (f i)), _, _, _, X6, rfl, rfl, rfl, (fun h => by cases h), ⟨rfl, q6.trans hh4⟩, fun fs hl => Steps.trans g6 (X6.ireturnOut hexec hret (narrow_ch hr.1 hr.2) (Or.inr (Or.inr (Or.inr (Or.inl rfl)))) (hb hbytes d15) hl)⟩
  · exact absurd k0 (by decide)
theorem pays {l : Launch} {R : Room} {p : Program} {e : Env} {below : List Frame} {s : State} {sargs : Array Value} {len W : Nat} (x t : Addr) (V : Cell) (n : Nat) (f : Nat → Int32) (z : Int32) (fm : Value) (i : Nat) (htab : tab.before sargs s = true) (hfr : 4 ≤ R.frames) (hlo : W + 53 ≤ R.locals) :
    Back l R p e below s sargs yN len W (fun A₁ a₁ => A₁.cells + 0 ≤ R.cells ∧ A₁.slots + 0 ≤ R.slots ∧ P x t V n f z fm i a₁ A₁.U) (fun A₁ _ v₁ B₁ => E f i v₁ A₁.U B₁.U ∧ B₁.locs = A₁.locs ++ [] ∧ B₁.cells = A₁.cells + 0 ∧ B₁.slots = A₁.slots + 0) :=
  (law l x t V n f z fm i).pays htab hfr (by omega)
end ChN
end StrChars
namespace StrChars.Road
open Jvm Sem ClassFile Op Lib Jvm.Stand Jvm.Free Jvm.Free.XT
open Jvm.Lib.Cold (StaticIs)
/-- the words of String.charAt(int), the Latin-1 road alone -/
abbrev wordsChN : List Jvm.Cond := [.code ChN.yN ChN.yB 2 (some .char), .initialized ST, .fieldLink ST 9 ST "value" "[B", .fieldLink ST 38 ST "COMPACT_STRINGS" "Z", .fieldLink ST 15 ST "coder" "B", .code IsL.yN IsL.yB 1 (some .boolean), .methodLink ST 492 IsL.yN, .declares IsL.yN, .selects ST IsL.yN IsL.yN, .instanceMethod IsL.yN,
  .methodLink ST 495 LChA.yN, .static LChA.yN, .code LChA.yN LChA.yB 2 (some .char), .initialized "java/lang/StringLatin1", .methodLink "java/lang/StringLatin1" 9 JO.Str_checkIndex.yN, .static JO.Str_checkIndex.yN, .code JO.Str_checkIndex.yN JO.Str_checkIndex.yB 2 none,
  .fieldLink ST 1053 "jdk/internal/util/Preconditions" "SIOOBE_FORMATTER" "Ljava/util/function/BiFunction;", .methodLink ST 1059 JC.PreCheck.yN, .static JC.PreCheck.yN, .code JC.PreCheck.yN JC.PreCheck.yB 3 (some .int), .initialized "jdk/internal/util/Preconditions"]
theorem tabChN_of {a : Array Value} {s : State} (h : ∀ w ∈ wordsChN, w.before a s = true) : ChN.tab.before a s = true := by
  have hp : JC.PreCheck.tab.before a s = true := unparts (wk h (.code JC.PreCheck.yN JC.PreCheck.yB 3 (some .int))) (wks h (.initialized JC.PreCheck.yN.cls :: JC.PreCheck.site))
  have qk := consq hp h
  have hk : JO.Str_checkIndex.tab.before a s = true := unparts (wk qk (.code JO.Str_checkIndex.yN JO.Str_checkIndex.yB 2 none)) (wks qk (.initialized JO.Str_checkIndex.yN.cls :: JO.Str_checkIndex.site))
  have ql := consq hk h
  have hl : LChA.tab.before a s = true := unparts (wk ql (.code LChA.yN LChA.yB 2 (some .char))) (wks ql (.initialized LChA.yN.cls :: LChA.site))
  have hi : IsL.tab.before a s = true := unparts (wk h (.code IsL.yN IsL.yB 1 (some .boolean))) (wks h (.initialized IsL.yN.cls :: IsL.site))
  have q := consq hi (consq hl h)
  exact unparts (wk q (.code ChN.yN ChN.yB 2 (some .char))) (wks q (.initialized ChN.yN.cls :: ChN.site))
theorem movedChN {Z s : State} {a0 args : Array Value} (hZ : Z.Warmed39 s.vm) (hw : ∀ d ∈ wordsChN, d.before a0 Z = true) : ∀ d ∈ wordsChN, d.before args s = true := fun d hd => by
  have t : ∀ d ∈ wordsChN, (d.onTables && d.keepsFace) = true := by decide +kernel
  exact RoadKit.mv hZ (hw d hd) (t d hd)
/-- **charAt(i) OF A LATIN-1 STRING**, i < n: the char -/
theorem chN {p : Program} {l : Launch} {e : Env} {R : Room} {s : State} {args : Array Value} {below : List Frame} {len W : Nat} {Z : State} {a0 : Array Value} {h : Heap} (hZ : Z.Warmed39 s.vm) (hw : ∀ d ∈ wordsChN, d.before a0 Z = true) {kI : Nat} (wi : (Jvm.Cond.instantiable ST kI).before a0 Z = true)
    {x t : Addr} {kb : ClassId} {cs : List Int32} {N2 z : Int32} {vs : List Value} {fm : Value} {i : Nat} {j : Int32} (E : RoadKit.Exa Z h x ST) (V : RoadKit.Fld Z h x ST "value" "[B" (.ref t)) (C : RoadKit.Fld Z h x ST "coder" "B" (.int 0)) (K : RoadKit.Arv Z h t kb .byte N2 vs (.int 0)) (hc : CodA cs 0 N2 vs) (hb : ∀ c ∈ cs, ¬ c < 0 ∧ ¬ (65535 : Int32) < c)
    (S : RoadKit.Sta Z h ST "COMPACT_STRINGS" "Z" (.int z)) (hz : ¬ z = 0) (F : RoadKit.Sta Z h "jdk/internal/util/Preconditions" "SIOOBE_FORMATTER" "Ljava/util/function/BiFunction;" fm) (rf : fm.isRef = true) (l2 : cs.length ≤ 4000) (hi : i < cs.length) (hj : j = Int32.ofNat i) (hfr : 4 ≤ R.frames) (hlo : W + 53 ≤ R.locals) :
    Back l R p e below s args (⟨"java/lang/String", "charAt", "(I)C"⟩ : MethodName) len W (fun P a => a = #[.ref x, .int j] ∧ P.U.heap = h ∧ P.cells + 0 ≤ R.cells ∧ P.slots + 0 ≤ R.slots)
      (fun P _ v B => ∃ L, (v = some (.int (cs.getD i 0)) ∧ L = [] ∧ B.U.heap = h) ∧ B.locs = P.locs ++ L ∧ B.cells = P.cells + 0 ∧ B.slots = P.slots + 0) := by
  subst hj
  intro m meth c P g ig mk a X hg hsize hdg hW hn hp'
  obtain ⟨rfl, rfl, r1, r2⟩ := hp'
  have al : Z.vm.Alike P.U.vm := hZ.alike.trans X.warmed.alike
  obtain ⟨A, hx⟩ := txt_of wi al E V C K hc hb l2
  obtain ⟨v, B, X', ⟨⟨hv, hh⟩, hl, hk, hs⟩, st⟩ := ChN.pays x t A cs.length (fun j => cs.getD j 0) z fm i (tabChN_of (movedChN hZ hw)) hfr hlo m meth c P g ig mk _ X hg hsize hdg hW hn ⟨r1, r2, rfl, hx, hi, sta_is al S, hz, sta_is al F, rf⟩
  exact ⟨v, B, X', ⟨[], ⟨hv, rfl, hh⟩, hl, hk, hs⟩, st⟩
/-- what backV says of its String, as the contracts of this text ask it: cs's low bytes, coder 0 -/
theorem codOf {cs : List Int32} {n : Nat} (hn : cs.length = n) (hb : ∀ c ∈ cs, ¬ 255 < c) : CodA cs 0 (Int32.ofNat n) ((cs.map lo8).map Value.int) := Or.inl ⟨rfl, by rw [hn], by simp [List.map_map, Function.comp_def], hb⟩
end StrChars.Road
end Jvm.Pilot.@@N@@

namespace Jvm.Pilot.@@N@@
open Jvm Jvm.ClassFile Sem Op Lib Jvm.Free Jvm.Stand Jvm.LawKit Jvm.RoadKit Bundle Jvm.Pilot.@@N@@.Jvm.D
theorem mI {α : Type} {l : List α} {a : α} (i : Nat) (h : l[i]? = some a) : a ∈ l := List.mem_of_getElem? h
set_option maxRecDepth 65536
set_option maxHeartbeats 40000000
abbrev HW (a0 : Array Value) (Z : State) : Prop := ∀ d ∈ tables_1, d.before a0 Z = true
theorem lE {a b : Nat} (h : Nat.ble a b = true) : a ≤ b := Nat.le_of_ble_eq_true h
theorem own_hw {a b : Nat} (h : 2 * 0 + a = b) : 2 * 0 + a ≤ b := Nat.le_of_eq h
abbrev Sx (p : Program) (e : Env) (b : List Frame) (T : State) (m : MethodId) (pc : Nat) (L : Array Slot) (S : List Value) (t : State) : Prop := Steps p.tables e b (T.setTop (mkF m pc L S)) t
abbrev Pr (p : Program) (e : Env) (b : List Frame) (T : State) (m : MethodId) (pc : Nat) (L : Array Slot) (S : List Value) (s₁ : State) (f : JFrame) : Prop := ∀ t, Steps p.tables e b (T.setTop (mkF m pc L S)) t → Steps p.tables e b (s₁.setTop f) t
section
variable {a0 : Array Value} {Z : State} (hw : ∀ d ∈ tables_1, d.before a0 Z = true)
def w0_ := hw _ (List.mem_of_getElem? (i := 0) rfl)
def w1_ := hw _ (List.mem_of_getElem? (i := 1) rfl)
def w2_ := hw _ (List.mem_of_getElem? (i := 2) rfl)
def w3_ := hw _ (List.mem_of_getElem? (i := 3) rfl)
def w4_ := hw _ (List.mem_of_getElem? (i := 4) rfl)
def w5_ := hw _ (List.mem_of_getElem? (i := 5) rfl)
def w6_ := hw _ (List.mem_of_getElem? (i := 6) rfl)
def w7_ := hw _ (List.mem_of_getElem? (i := 7) rfl)
def w8_ := hw _ (List.mem_of_getElem? (i := 8) rfl)
def w9_ := hw _ (List.mem_of_getElem? (i := 9) rfl)
def w10_ := hw _ (List.mem_of_getElem? (i := 10) rfl)
def w11_ := hw _ (List.mem_of_getElem? (i := 11) rfl)
def w12_ := hw _ (List.mem_of_getElem? (i := 12) rfl)
def w13_ := hw _ (List.mem_of_getElem? (i := 13) rfl)
def w15_ := hw _ (List.mem_of_getElem? (i := 15) rfl)
def w16_ := hw _ (List.mem_of_getElem? (i := 16) rfl)
def w17_ := hw _ (List.mem_of_getElem? (i := 17) rfl)
def w18_ := hw _ (List.mem_of_getElem? (i := 18) rfl)
def w19_ := hw _ (List.mem_of_getElem? (i := 19) rfl)
def w20_ := hw _ (List.mem_of_getElem? (i := 20) rfl)
def w21_ := hw _ (List.mem_of_getElem? (i := 21) rfl)
def w22_ := hw _ (List.mem_of_getElem? (i := 22) rfl)
def w23_ := hw _ (List.mem_of_getElem? (i := 23) rfl)
def w24_ := hw _ (List.mem_of_getElem? (i := 24) rfl)
def w25_ := hw _ (List.mem_of_getElem? (i := 25) rfl)
def w26_ := hw _ (List.mem_of_getElem? (i := 26) rfl)
def w27_ := hw _ (List.mem_of_getElem? (i := 27) rfl)
def w28_ := hw _ (List.mem_of_getElem? (i := 28) rfl)
def w29_ := hw _ (List.mem_of_getElem? (i := 29) rfl)
def w30_ := hw _ (List.mem_of_getElem? (i := 30) rfl)
def w31_ := hw _ (List.mem_of_getElem? (i := 31) rfl)
def w32_ := hw _ (List.mem_of_getElem? (i := 32) rfl)
def w33_ := hw _ (List.mem_of_getElem? (i := 33) rfl)
def w34_ := hw _ (List.mem_of_getElem? (i := 34) rfl)
def w35_ := hw _ (List.mem_of_getElem? (i := 35) rfl)
def w36_ := hw _ (List.mem_of_getElem? (i := 36) rfl)
def w37_ := hw _ (List.mem_of_getElem? (i := 37) rfl)
def w38_ := hw _ (List.mem_of_getElem? (i := 38) rfl)
def w39_ := hw _ (List.mem_of_getElem? (i := 39) rfl)
def w42_ := hw _ (List.mem_of_getElem? (i := 42) rfl)
def w43_ := hw _ (List.mem_of_getElem? (i := 43) rfl)
def w44_ := hw _ (List.mem_of_getElem? (i := 44) rfl)
def w45_ := hw _ (List.mem_of_getElem? (i := 45) rfl)
def w46_ := hw _ (List.mem_of_getElem? (i := 46) rfl)
def w47_ := hw _ (List.mem_of_getElem? (i := 47) rfl)
def w48_ := hw _ (List.mem_of_getElem? (i := 48) rfl)
def w49_ := hw _ (List.mem_of_getElem? (i := 49) rfl)
def w50_ := hw _ (List.mem_of_getElem? (i := 50) rfl)
def w51_ := hw _ (List.mem_of_getElem? (i := 51) rfl)
def w52_ := hw _ (List.mem_of_getElem? (i := 52) rfl)
def w53_ := hw _ (List.mem_of_getElem? (i := 53) rfl)
def w54_ := hw _ (List.mem_of_getElem? (i := 54) rfl)
def w55_ := hw _ (List.mem_of_getElem? (i := 55) rfl)
def w56_ := hw _ (List.mem_of_getElem? (i := 56) rfl)
def w57_ := hw _ (List.mem_of_getElem? (i := 57) rfl)
def w58_ := hw _ (List.mem_of_getElem? (i := 58) rfl)
def w59_ := hw _ (List.mem_of_getElem? (i := 59) rfl)
def w60_ := hw _ (List.mem_of_getElem? (i := 60) rfl)
def w61_ := hw _ (List.mem_of_getElem? (i := 61) rfl)
def w62_ := hw _ (List.mem_of_getElem? (i := 62) rfl)
def w63_ := hw _ (List.mem_of_getElem? (i := 63) rfl)
def w64_ := hw _ (List.mem_of_getElem? (i := 64) rfl)
def w65_ := hw _ (List.mem_of_getElem? (i := 65) rfl)
def w66_ := hw _ (List.mem_of_getElem? (i := 66) rfl)
def w67_ := hw _ (List.mem_of_getElem? (i := 67) rfl)
def w68_ := hw _ (List.mem_of_getElem? (i := 68) rfl)
def w69_ := hw _ (List.mem_of_getElem? (i := 69) rfl)
def w70_ := hw _ (List.mem_of_getElem? (i := 70) rfl)
def w71_ := hw _ (List.mem_of_getElem? (i := 71) rfl)
def w72_ := hw _ (List.mem_of_getElem? (i := 72) rfl)
def w73_ := hw _ (List.mem_of_getElem? (i := 73) rfl)
def w74_ := hw _ (List.mem_of_getElem? (i := 74) rfl)
def w75_ := hw _ (List.mem_of_getElem? (i := 75) rfl)
def w76_ := hw _ (List.mem_of_getElem? (i := 76) rfl)
def w77_ := hw _ (List.mem_of_getElem? (i := 77) rfl)
def w78_ := hw _ (List.mem_of_getElem? (i := 78) rfl)
def w79_ := hw _ (List.mem_of_getElem? (i := 79) rfl)
def w80_ := hw _ (List.mem_of_getElem? (i := 80) rfl)
def w81_ := hw _ (List.mem_of_getElem? (i := 81) rfl)
def w82_ := hw _ (List.mem_of_getElem? (i := 82) rfl)
def w83_ := hw _ (List.mem_of_getElem? (i := 83) rfl)
def w84_ := hw _ (List.mem_of_getElem? (i := 84) rfl)
def w85_ := hw _ (List.mem_of_getElem? (i := 85) rfl)
def w86_ := hw _ (List.mem_of_getElem? (i := 86) rfl)
def w87_ := hw _ (List.mem_of_getElem? (i := 87) rfl)
def w88_ := hw _ (List.mem_of_getElem? (i := 88) rfl)
def w89_ := hw _ (List.mem_of_getElem? (i := 89) rfl)
def w90_ := hw _ (List.mem_of_getElem? (i := 90) rfl)
def w91_ := hw _ (List.mem_of_getElem? (i := 91) rfl)
end
abbrev Y0_ : MethodName := ⟨"com/example/backstop/backstop/WholeNumbersIsDigitsPinLaw", "chars", "(ICCCC)[C"⟩
abbrev Y1_ : MethodName := ⟨"java/lang/String", "<init>", "([CIILjava/lang/Void;)V"⟩
abbrev Y2_ : MethodName := ⟨"java/lang/String", "<init>", "([C)V"⟩
abbrev Y3_ : MethodName := ⟨"com/example/backstop/backstop/WholeNumbersIsDigitsPinLaw", "fine", "(IIIC)Z"⟩
abbrev Y4_ : MethodName := ⟨"com/example/backstop/backstop/WholeNumbers", "isDigits", "(Ljava/lang/String;II)Z"⟩
abbrev Y5_ : MethodName := ⟨"java/lang/String", "charAt", "(I)C"⟩
abbrev Y6_ : MethodName := ⟨"java/lang/StringUTF16", "compress", "([CI[BII)I"⟩
abbrev Y7_ : MethodName := ⟨"java/lang/StringUTF16", "newBytesLength", "(I)I"⟩
abbrev Y8_ : MethodName := ⟨"java/lang/StringUTF16", "newBytesFor", "(I)[B"⟩
abbrev Y9_ : MethodName := ⟨"java/lang/StringUTF16", "putChar", "([BII)V"⟩
abbrev Y10_ : MethodName := ⟨"java/lang/StringUTF16", "toBytes", "([CII)[B"⟩
abbrev Y11_ : MethodName := ⟨"java/lang/StringUTF16", "getChar", "([BI)C"⟩
abbrev Y12_ : MethodName := ⟨"java/lang/StringUTF16", "compress", "([CII)[B"⟩
abbrev Y13_ : MethodName := ⟨"java/lang/StringUTF16", "coderFromArrayLen", "([BI)B"⟩
abbrev Y14_ : MethodName := ⟨"java/lang/String", "isLatin1", "()Z"⟩
abbrev Y15_ : MethodName := ⟨"java/lang/StringUTF16", "length", "([B)I"⟩
abbrev Y16_ : MethodName := ⟨"jdk/internal/util/Preconditions", "checkIndex", "(IILjava/util/function/BiFunction;)I"⟩
abbrev Y17_ : MethodName := ⟨"java/lang/String", "checkIndex", "(II)V"⟩
abbrev Y18_ : MethodName := ⟨"java/lang/StringUTF16", "checkIndex", "(I[B)V"⟩
abbrev Y19_ : MethodName := ⟨"java/lang/StringUTF16", "charAt", "([BI)C"⟩
abbrev ab0_ (p3 : Int32) := (((p3 &&& (7 : Int32)) % (5 : Int32)) + (1 : Int32))
abbrev ab1_ (p1 : Int32) := (((((p1).toUInt32 >>> ((16 : Int32) &&& 31).toUInt32).toInt32)).toUInt32.toUInt16.toUInt32.toInt32)
abbrev ab2_ (p2 : Int32) := (((((p2).toUInt32 >>> ((16 : Int32) &&& 31).toUInt32).toInt32)).toUInt32.toUInt16.toUInt32.toInt32)
abbrev ab3_ (p1 : Int32) := (((p1 &&& (65535 : Int32))).toUInt32.toUInt16.toUInt32.toInt32)
abbrev ab4_ (p2 : Int32) := (((p2 &&& (65535 : Int32))).toUInt32.toUInt16.toUInt32.toInt32)
abbrev ab5_ (p3 : Int32) (p4 : Int32) := ((p4 &&& (2147483647 : Int32)) % (ab0_ p3))
abbrev ab6_ (p3 : Int32) (p5 : Int32) := ((p5 &&& (2147483647 : Int32)) % (ab0_ p3))
abbrev ab7_ (p3 : Int32) := ((p3 &&& (7 : Int32)) % (5 : Int32))
theorem own_cat {v : Value} (h : v.isRef = true) : v.category = 1 := by cases v <;> first | rfl | cases h
theorem own_and255 (x : Int32) : ∃ k : Fin 256, x &&& 255 = Int32.ofNat k.val := by
  have h : (x &&& 255).toBitVec.toNat < 256 := by
    simp only [Int32.toBitVec_and, BitVec.toNat_and]
    exact Nat.lt_succ_of_le Nat.and_le_right
  refine ⟨⟨_, h⟩, ?_⟩
  apply Int32.toBitVec_inj.mp
  show _ = BitVec.ofNat 32 _
  rw [BitVec.ofNat_toNat]; simp
theorem own_lat (x : Int32) : ¬ (((x &&& (255 : Int32))).toUInt32.toUInt16.toUInt32.toInt32) < 0 ∧ ¬ (255 : Int32) < (((x &&& (255 : Int32))).toUInt32.toUInt16.toUInt32.toInt32) := by
  obtain ⟨k, e⟩ := own_and255 x
  have t : ∀ k : Fin 256, ¬ ((Int32.ofNat k.val).toUInt32.toUInt16.toUInt32.toInt32) < 0 ∧ ¬ (255 : Int32) < ((Int32.ofNat k.val).toUInt32.toUInt16.toUInt32.toInt32) := by decide +kernel
  rw [e]; exact t k
theorem own_lat7 (x : Int32) : ¬ (((x &&& (127 : Int32))).toUInt32.toUInt16.toUInt32.toInt32) < 0 ∧ ¬ (255 : Int32) < (((x &&& (127 : Int32))).toUInt32.toUInt16.toUInt32.toInt32) := by
  have e : x &&& (127 : Int32) = (x &&& (127 : Int32)) &&& 255 := by rw [Int32.and_assoc]; rfl
  rw [e]; exact own_lat _
theorem own_nar_i2c (x : Int32) : nar .char (x.toUInt32.toUInt16.toUInt32.toInt32) = x.toUInt32.toUInt16.toUInt32.toInt32 := by simp only [nar, UInt32.toUInt32_toInt32, UInt16.toUInt16_toUInt32]
theorem own_nar_i2b (x : Int32) : nar .byte (x.toInt8.toInt32) = x.toInt8.toInt32 := by simp [nar]
theorem own_nar_lat {x : Int32} (h : ¬ x < 0 ∧ ¬ (255 : Int32) < x) : nar .char x = x := by
  have e0 : (0 : Int32).toInt = 0 := rfl
  have e1 : (255 : Int32).toInt = 255 := rfl
  have h1 := h.1
  have h2 := h.2
  rw [Int32.lt_iff_toInt_lt, e0] at h1
  rw [Int32.lt_iff_toInt_lt, e1] at h2
  have e : x = Int32.ofNat x.toInt.toNat := by
    apply Int32.toInt_inj.mp
    rw [Int32.toInt_ofNat_small (by omega)]; omega
  have t : ∀ k : Fin 256, nar .char (Int32.ofNat k.val) = Int32.ofNat k.val := by decide +kernel
  rw [e]; exact t ⟨x.toInt.toNat, by omega⟩
theorem own_up (cs : List Int32) (h : ∀ c ∈ cs, ¬ c < 0 ∧ ¬ (255 : Int32) < c) : ∀ c ∈ cs, ¬ c < 0 ∧ ¬ (65535 : Int32) < c := fun c hc => ⟨(h c hc).1, fun q => (h c hc).2 (by rw [Int32.lt_iff_toInt_lt] at q ⊢; have e1 : (65535 : Int32).toInt = 65535 := rfl; have e2 : (255 : Int32).toInt = 255 := rfl; omega)⟩
theorem own_sub {a b : Int32} {p : Int32 → Prop} (h : a = b) (hp : p b) : p a := by rw [h]; exact hp
theorem own_cons {a b : Int32} {l m : List Int32} (h : a = b) (h2 : l = m) : a :: l = b :: m := by rw [h, h2]
theorem own_and3 (x : Int32) : x &&& (3 : Int32) = 0 ∨ x &&& (3 : Int32) = 1 ∨ x &&& (3 : Int32) = 2 ∨ x &&& (3 : Int32) = 3 := by
  have h : (x &&& 3).toBitVec.toNat < 4 := by
    simp only [Int32.toBitVec_and, BitVec.toNat_and]
    exact Nat.lt_succ_of_le Nat.and_le_right
  have e : x &&& 3 = Int32.ofNat (x &&& 3).toBitVec.toNat := by
    apply Int32.toBitVec_inj.mp
    show _ = BitVec.ofNat 32 _
    rw [BitVec.ofNat_toNat]; simp
  rw [e]
  generalize (x &&& 3).toBitVec.toNat = n at h
  have : n = 0 ∨ n = 1 ∨ n = 2 ∨ n = 3 := by omega
  rcases this with rfl | rfl | rfl | rfl <;> simp
theorem own_three3 {x : Int32} (h0 : ¬ (x &&& (3 : Int32)) = (0 : Int32)) (h1 : ¬ (x &&& (3 : Int32)) = (1 : Int32)) (h2 : ¬ (x &&& (3 : Int32)) = (2 : Int32)) : (x &&& (3 : Int32)) = (3 : Int32) := by
  rcases own_and3 x with h | h | h | h
  · exact absurd h h0
  · exact absurd h h1
  · exact absurd h h2
  · exact h
section Own
variable {p : Program} {l : Launch} {e : Env} {R : Room} {s : State} {m : MethodId} {args : Array Value} {below : List Frame} {meth : Method} {c : Code} {T : State} {locs : List Loc} (cells slots rc rs C S : Nat) {Z : State} {h : Heap}
theorem own_cb {Q : Option Value → Heap → List Loc → Prop} {P : Option Value → Pt → Prop} (H : ∃ (v : Option Value) (vm₁ : Vm) (B : Pt), s.WarmedH vm₁ ∧ Stand p l e R s m args below meth c B.U B.locs B.cells B.slots ∧ (∃ L, Q v B.U.heap L ∧ B.locs = locs ++ L ∧ B.cells = cells + rc ∧ B.slots = slots + rs) ∧ P v B)
    (hc : cells + rc = C) (hs : slots + rs = S) : ∃ (v : Option Value) (T' : State) (L : List Loc), Stand p l e R s m args below meth c T' (locs ++ L) C S ∧ Q v T'.heap L ∧ P v (T', locs ++ L, C, S) := by
  obtain ⟨v, vm₁, ⟨T', L', k', n'⟩, -, X, ⟨L, hQ, h1, h2, h3⟩, hP⟩ := H
  dsimp only [Pt.U, Pt.locs, Pt.cells, Pt.slots] at X hQ h1 h2 h3
  subst h1 h2 h3 hc hs
  exact ⟨v, T', L, X, hQ, hP⟩
theorem own_cb0 {Q : Option Value → Pt → List Loc → Prop} {P : Option Value → Pt → Prop} (H : ∃ (v : Option Value) (vm₁ : Vm) (B : Pt), s.WarmedH vm₁ ∧ Stand p l e R s m args below meth c B.U B.locs B.cells B.slots ∧ (∃ L, Q v B L ∧ B.locs = locs ++ L ∧ B.cells = cells + rc ∧ B.slots = slots + rs) ∧ P v B)
    (hc : cells + rc = C) (hs : slots + rs = S) : ∃ (v : Option Value) (T' : State) (L : List Loc), Stand p l e R s m args below meth c T' (locs ++ L) C S ∧ Q v (T', locs ++ L, C, S) L ∧ P v (T', locs ++ L, C, S) := by
  obtain ⟨v, vm₁, ⟨T', L', k', n'⟩, -, X, ⟨L, hQ, h1, h2, h3⟩, hP⟩ := H
  dsimp only [Pt.U, Pt.locs, Pt.cells, Pt.slots] at X h1 h2 h3
  subst h1 h2 h3 hc hs
  exact ⟨v, T', L, X, hQ, hP⟩
theorem own_cbS {EL : List (String × Nat)} {vm0 : Vm} {k0 : Nat} {own : String} {Q : Option Value → Heap → List Loc → Prop} {P : Option Value → Pt → Prop} (H : ∃ (v : Option Value) (vm₁ : Vm) (B : Pt), (s.setVm vm0).WarmedH vm₁ ∧ Stand p l e R ((s.setVm vm0).setVm B.U.vm) m args below meth c B.U B.locs B.cells B.slots ∧ (s.setVm vm0).Since B.U.vm B.U.heap.size ∧ T.heap.size ≤ B.U.heap.size ∧ (∃ L, Q v B.U.heap L ∧ B.locs = locs ++ L ∧ B.cells = cells + rc ∧ B.slots = slots + rs ∧ CHr Z EL vm0 h B.U.vm B.U.heap) ∧ P v B)
    (hc : cells + rc = C) (hs : slots + rs = S) (hS : s.Since vm0 k0) (hk : k0 ≤ T.heap.size) (hZ : Z.Warmed39 vm0) (ho : vm0.findClass own = some m.cls) : ∃ (v : Option Value) (T' : State) (L : List Loc), Stand p l e R (s.setVm T'.vm) m args below meth c T' (locs ++ L) C S ∧ Q v T'.heap L ∧ s.Since T'.vm T'.heap.size ∧ Z.Warmed39 T'.vm ∧ T'.vm.findClass own = some m.cls ∧ CHr Z EL vm0 h T'.vm T'.heap ∧ P v (T', locs ++ L, C, S) := by
  obtain ⟨v, vm₁, ⟨T', L', k', n'⟩, -, X, hS2, hg, ⟨L, hQ, h1, h2, h3, hC⟩, hP⟩ := H
  dsimp only [Pt.U, Pt.locs, Pt.cells, Pt.slots] at X hQ h1 h2 h3 hS2 hg hC
  subst h1 h2 h3 hc hs
  exact ⟨v, T', L, X, hQ, hS.trans hS2 (Nat.le_trans hk hg), State.Warmed39.trans (t := s.setVm vm0) hZ hS2.1, by rw [hS2.1.alike.findClass]; exact ho, hC, hP⟩
theorem own_lvG {cells slots : Nat} {h : Heap} {s₁ : State} {fr : JFrame} {Q : Option Value → Heap → List Loc → Prop} (X : Stand p l e R s m args below meth c T locs cells slots) (hlocks : meth.locks = false) {v : Option Value} (hv : meth.sig.returnType = none → v = none) (hE : T.heap = h) (hQ : Q v h locs) (hk : (Nat.ble cells R.cells && Nat.ble slots R.slots) = true)
    (H : ∀ fs, (∀ (f : JFrame) (acts : List Action), f.method = m → f.locked = none → f.entered = [] → (doReturn e (T.setTop f) acts v).1 = T.setFrames fs) → Steps p.tables e below (s₁.setTop fr) (T.setFrames fs)) :
    ∃ s₂ o, Steps p.tables e below (s₁.setTop fr) s₂ ∧ s₂.status = .running ∧ Ended s₂ below o ∧ ∃ v L, o = .returned v ∧ Q v s₂.heap L ∧ FrameEnd s o s₂ L R.cells R.slots := by
  obtain ⟨fs, hr, hrun, hended, hW, hsame⟩ := X.leave hv hlocks
  rw [Bool.and_eq_true] at hk
  subst hE
  exact ⟨_, _, H fs hr, hrun, hended, _, _, rfl, hQ, ⟨_, rfl⟩, hW, hsame.mono (Nat.le_of_ble_eq_true hk.1) (Nat.le_of_ble_eq_true hk.2)⟩
theorem own_lvF {cells slots : Nat} {h : Heap} {s₁ : State} {fr : JFrame} {Q : Option Value → Heap → List Loc → Prop} {y : MethodName} {S : Spec} {cd : ByteArray} {ml : Nat} {t : FieldType} {s' sa : State} {a' : Array Value} {b' : List Frame} (X : Stand p l e R s m args below meth c T locs cells slots) (B : BodyLoose p l y S cd ml (some t) e s' m a' b' meth c sa) (v : Value) (hE : T.heap = h) (hQ : Q (some v) h locs) (hk : (Nat.ble cells R.cells && Nat.ble slots R.slots) = true)
    (H : ∀ fs, (∀ (f : JFrame) (acts : List Action), f.method = m → f.locked = none → f.entered = [] → (doReturn e (T.setTop f) acts (some v)).1 = T.setFrames fs) → Steps p.tables e below (s₁.setTop fr) (T.setFrames fs)) :
    ∃ s₂ o, Steps p.tables e below (s₁.setTop fr) s₂ ∧ s₂.status = .running ∧ Ended s₂ below o ∧ ∃ v L, o = .returned v ∧ Q v s₂.heap L ∧ FrameEnd s o s₂ L R.cells R.slots :=
  own_lvG X B.notSynchronized (v := some v) (fun h => by rw [B.returns] at h; cases h) hE hQ hk H
theorem own_lvN {cells slots : Nat} {h : Heap} {s₁ : State} {fr : JFrame} {Q : Option Value → Heap → List Loc → Prop} {y : MethodName} {S : Spec} {cd : ByteArray} {ml : Nat} {rt : Option FieldType} {s' sa : State} {a' : Array Value} {b' : List Frame} (X : Stand p l e R s m args below meth c T locs cells slots) (B : BodyLoose p l y S cd ml rt e s' m a' b' meth c sa) (hE : T.heap = h) (hQ : Q none h locs) (hk : (Nat.ble cells R.cells && Nat.ble slots R.slots) = true)
    (H : ∀ fs, (∀ (f : JFrame) (acts : List Action), f.method = m → f.locked = none → f.entered = [] → (doReturn e (T.setTop f) acts none).1 = T.setFrames fs) → Steps p.tables e below (s₁.setTop fr) (T.setFrames fs)) :
    ∃ s₂ o, Steps p.tables e below (s₁.setTop fr) s₂ ∧ s₂.status = .running ∧ Ended s₂ below o ∧ ∃ v L, o = .returned v ∧ Q v s₂.heap L ∧ FrameEnd s o s₂ L R.cells R.slots :=
  own_lvG X B.notSynchronized (v := none) (fun _ => rfl) hE hQ hk H
theorem own_lvW {cells slots : Nat} {h h0 : Heap} {s₁ : State} {fr : JFrame} {Q : Option Value → Heap → List Loc → Prop} {EL : List (String × Nat)} {vm1 : Vm} {n : Nat} (X : Stand p l e R (s.setVm vm1) m args below meth c T locs cells slots) (hlocks : meth.locks = false) (hS : s.Since vm1 n) (hk0 : n ≤ h.size) {v : Option Value} (hv : meth.sig.returnType = none → v = none) (hE : T.heap = h) (hh : s.heap = h0) (hQ : Q v h locs) (hC : CHr Z EL s.vm h0 T.vm h) (hk : cells ≤ R.cells) (hn : slots ≤ R.slots)
    (H : ∀ fs, (∀ (f : JFrame) (acts : List Action), f.method = m → f.locked = none → f.entered = [] → (doReturn e (T.setTop f) acts v).1 = T.setFrames fs) → Steps p.tables e below (s₁.setTop fr) (T.setFrames fs)) :
    ∃ s₂ o, Steps p.tables e below (s₁.setTop fr) s₂ ∧ s₂.status = .running ∧ Ended s₂ below o ∧ ∃ v L, o = .returned v ∧ Q v s₂.heap L ∧ CHr Z EL s.vm s.heap s₂.vm s₂.heap ∧ ReturnedEndW s o s₂ L R.cells R.slots := by
  subst hE hh
  obtain ⟨fs, hr, hrun, hended, hEnd⟩ := X.leaveW (s := s) hS hk0 hv hlocks
  exact ⟨_, _, H fs hr, hrun, hended, _, _, rfl, hQ, hC, hEnd.1, hEnd.2.1, hEnd.2.2.1, hEnd.2.2.2.mono hk hn⟩
end Own
abbrev Rm (f c s l : Nat) : Room := { frames := f, cells := c, slots := s, locals := l }
abbrev MF (l : Launch) (Z : State) (y : MethodName) (cd : ByteArray) (ml : Nat) (rt : Option FieldType) (R : Room) (a : Array Value) (h0 : Heap) (Q : Option Value → Heap → List Loc → Prop) : Prop :=
  MetFree l y (head1 [Jvm.Cond.code y cd ml rt] R) (fun b U => b = a ∧ Z.Warmed39 U.vm ∧ U.heap = h0) (fun _ _ _ _ _ => True) (fun _ U o U' => ∃ v L, o = .returned v ∧ Q v U'.heap L ∧ FrameEnd U o U' L R.cells R.slots)
theorem own_sF {l : Launch} {Z : State} {y : MethodName} {cd : ByteArray} {ml : Nat} {rt : Option FieldType} {R : Room} {a : Array Value} {h0 : Heap} {Q : Option Value → Heap → List Loc → Prop} {K : String} {L0 : Array Slot} (hpn : plainName K = true) (hK : y.cls = K) (hE : ∀ m, entryFrame m a ml = mkF m 0 L0 [])
    (H : ∀ p e s m below meth c s₁, BodyLoose p l y (head1 [Jvm.Cond.code y cd ml rt] R) cd ml rt e s m a below meth c s₁ → Z.Warmed39 s.vm → s.heap = h0 → p.tables.exec = Jvm.exec → c.code = cd → c.maxLocals = ml → s.vm.findClass K = some m.cls → meth.name = y.name → Stand p l e R s m a below meth c s₁ [] 0 0 → s₁.heap = h0 → (∀ t, Steps p.tables e below (s₁.setTop (mkF m 0 L0 [])) t → Steps p.tables e below (s₁.setTop (entryFrame m a ml)) t) →
      ∃ s₂ o, Steps p.tables e below (s₁.setTop (entryFrame m a ml)) s₂ ∧ s₂.status = .running ∧ Ended s₂ below o ∧ ∃ v L, o = .returned v ∧ Q v s₂.heap L ∧ FrameEnd s o s₂ L R.cells R.slots) : MF l Z y cd ml rt R a h0 Q := by
  subst hK
  refine MetFree.of_bodySF (plainFor_of_name hpn) hisR ?_
  intro p e s m args below meth c s₁ Bd hml0 hP hK
  obtain ⟨rfl, hZ, hh⟩ := hP
  exact H p e s m below meth c s₁ Bd hZ hh Bd.exec Bd.bytes hml0 (findClass_of_methodNamed Bd.named) (name_of_methodNamed Bd.named Bd.method).1 (Stand.of_body Bd) (by rw [← hh, Bd.state]; rfl) (fun t k => castTop (hE m) k)
section Own3
variable {p : Program} {l : Launch} {e : Env} {R : Room} {s : State} {m : MethodId} {args : Array Value} {below : List Frame} {meth : Method} {c : Code} {T : State} {locs : List Loc} {cells slots : Nat} {Z : State} {h : Heap} {own C : String} {index : Nat} {y z : MethodName} {bytes : ByteArray} {maxL : Nat} {ret : Option FieldType} {rm : Room} {Q : Option Value → Heap → List Loc → Prop} {argsL : List Value} {ps : List FieldType} {r : Option FieldType} {a0 : Array Value}
abbrev own_num (rm R : Room) (rest : List Value) (maxL cells slots : Nat) : Bool := Nat.ble (rm.frames + 1) R.frames && (Nat.ble ((rest.map fun v => v.category).sum + (maxL + 11) + rm.locals) R.locals && (Nat.ble (cells + rm.cells) R.cells && Nat.ble (slots + rm.slots) R.slots))
theorem own_numE {rest : List Value} (h : own_num rm R rest maxL cells slots = true) : rm.frames + 1 ≤ R.frames ∧ (rest.map fun v => v.category).sum + (maxL + 11) + rm.locals ≤ R.locals ∧ cells + rm.cells ≤ R.cells ∧ slots + rm.slots ≤ R.slots := by
  simp only [own_num, Bool.and_eq_true] at h
  exact ⟨Nat.le_of_ble_eq_true h.1, Nat.le_of_ble_eq_true h.2.1, Nat.le_of_ble_eq_true h.2.2.1, Nat.le_of_ble_eq_true h.2.2.2⟩
theorem own_cS (C' S' : Nat) (rest : List Value) (pc : Nat) (Ls : Array Slot) (X : Stand p l e R s m args below meth c T locs cells slots) (hx : p.tables.exec = Jvm.exec) (hZ : Z.Warmed39 s.vm) (hown : s.vm.findClass own = some m.cls) (w1 : (Cond.methodLink own index y).before a0 Z = true) (w2 : (Cond.static y).before a0 Z = true) (w3 : (Cond.initialized y.cls).before a0 Z = true) (w4 : (Cond.code y bytes maxL ret).before a0 Z = true)
    (hM : MF l Z y bytes maxL ret rm argsL.toArray h Q) (pd : parseMethodDescriptor y.desc = some ⟨ps, r⟩) (hsz : Ls.size = c.maxLocals) (hd : decode c.code pc = .ok (.invokestatic index, 3)) (hE : T.heap = h) (hl : argsL.length = ps.length) (hc : cells + rm.cells = C') (hs : slots + rm.slots = S') (hn : own_num rm R rest maxL cells slots = true) (hy : y.cls ≠ "java/lang/invoke/MethodHandle" ∧ y.cls ≠ "java/lang/invoke/VarHandle") :
    ∃ (v : Option Value) (T' : State) (L : List Loc), Stand p l e R s m args below meth c T' (locs ++ L) C' S' ∧ Q v T'.heap L ∧ ∀ target, Steps p.tables e below (T'.setTop (mkF m (pc + 3) Ls (v.toList ++ rest))) target → Steps p.tables e below (T.setTop (mkF m pc Ls (argsL.reverse ++ rest))) target := by
  obtain ⟨n1, n2, n3, n4⟩ := own_numE hn
  exact own_cb cells slots rm.cells rm.slots C' S' (Jvm.LawKit.callS X hx hown (mvT hZ w1) (mvT hZ w2) (mvT hZ w3) (mvT hZ w4) hy (backOf (W := (rest.map fun v => v.category).sum) hM hZ w4 w3 n1 n2) (g := mkF m pc Ls (argsL.reverse ++ rest)) rfl hsz (argsL := argsL) (rest := rest) (lenOf pd hl) rfl (Nat.le_of_eq (Nat.zero_add _)) hd (fun _ _ => ⟨rfl, hE, n3, n4⟩)) hc hs
theorem own_cI (C' S' : Nat) (rest : List Value) (pc : Nat) (Ls : Array Slot) {a : Addr} (X : Stand p l e R s m args below meth c T locs cells slots) (hx : p.tables.exec = Jvm.exec) (hZ : Z.Warmed39 s.vm) (hown : s.vm.findClass own = some m.cls) (w1 : (Cond.methodLink own index y).before a0 Z = true) (w2 : (Cond.instanceMethod y).before a0 Z = true) (w3 : (Cond.initialized y.cls).before a0 Z = true) (w4 : (Cond.code y bytes maxL none).before a0 Z = true)
    (hM : MF l Z y bytes maxL none rm (.ref a :: argsL).toArray h Q) (pd : parseMethodDescriptor y.desc = some ⟨ps, r⟩) (hsz : Ls.size = c.maxLocals) (hd : decode c.code pc = .ok (.invokespecial index, 3)) (hE : T.heap = h) (hl : argsL.length = ps.length) (hc : cells + rm.cells = C') (hs : slots + rm.slots = S') (hn : own_num rm R rest maxL cells slots = true) (hy1 : y.name = "<init>") (hy : y.cls ≠ "java/lang/invoke/MethodHandle" ∧ y.cls ≠ "java/lang/invoke/VarHandle") :
    ∃ (v : Option Value) (T' : State) (L : List Loc), Stand p l e R s m args below meth c T' (locs ++ L) C' S' ∧ Q v T'.heap L ∧ ∀ target, Steps p.tables e below (T'.setTop (mkF m (pc + 3) Ls (v.toList ++ rest))) target → Steps p.tables e below (T.setTop (mkF m pc Ls (argsL.reverse ++ .ref a :: rest))) target := by
  obtain ⟨n1, n2, n3, n4⟩ := own_numE hn
  obtain ⟨v, T', L, h1, h2, h3⟩ := own_cb cells slots rm.cells rm.slots C' S' (X.specialBack hx hy1 hown (mvT hZ w1) (mvT hZ w2) (mvT hZ w4) hy (backOf (W := (rest.map fun v => v.category).sum) hM hZ w4 w3 n1 n2) (g := mkF m pc Ls (argsL.reverse ++ .ref a :: rest)) rfl hsz (Steps.refl _) (a := a) (argsL := argsL) (rest := rest) (lenOf pd hl) rfl (Nat.le_of_eq (Nat.zero_add _)) hd (fun _ _ => ⟨rfl, hE, n3, n4⟩)) hc hs
  exact ⟨v, T', L, h1, h2, fun t k => Steps.trans h3 k⟩
theorem own_cV (C' S' : Nat) (rest : List Value) (pc : Nat) (Ls : Array Slot) {b : Addr} (X : Stand p l e R s m args below meth c T locs cells slots) (hx : p.tables.exec = Jvm.exec) (hZ : Z.Warmed39 s.vm) (hown : s.vm.findClass own = some m.cls) (E : Exa Z h b C) (w1 : (Cond.methodLink own index y).before a0 Z = true) (w2 : (Cond.declares y).before a0 Z = true) (hnf : NotFace s y) (ws : (Cond.selects C y z).before a0 Z = true) (wi : (Cond.instanceMethod z).before a0 Z = true) (w3 : (Cond.initialized z.cls).before a0 Z = true) (w4 : (Cond.code z bytes maxL ret).before a0 Z = true)
    (hM : MF l Z z bytes maxL ret rm (.ref b :: argsL).toArray h Q) (pd : parseMethodDescriptor y.desc = some ⟨ps, r⟩) (hsz : Ls.size = c.maxLocals) (hd : decode c.code pc = .ok (.invokevirtual index, 3)) (hE : T.heap = h) (hl : argsL.length = ps.length) (hc : cells + rm.cells = C') (hs : slots + rm.slots = S') (hn : own_num rm R rest maxL cells slots = true) (hy : y.cls ≠ "java/lang/invoke/MethodHandle" ∧ y.cls ≠ "java/lang/invoke/VarHandle") :
    ∃ (v : Option Value) (T' : State) (L : List Loc), Stand p l e R s m args below meth c T' (locs ++ L) C' S' ∧ Q v T'.heap L ∧ ∀ target, Steps p.tables e below (T'.setTop (mkF m (pc + 3) Ls (v.toList ++ rest))) target → Steps p.tables e below (T.setTop (mkF m pc Ls (argsL.reverse ++ .ref b :: rest))) target := by
  obtain ⟨n1, n2, n3, n4⟩ := own_numE hn
  obtain ⟨cq, kq, qa, qb, qc⟩ := isOf hZ hE E
  obtain ⟨v, T', L, h1, h2, h3⟩ := own_cb cells slots rm.cells rm.slots C' S' (X.virtualBack hx hown (mvT hZ w1) (mvT hZ w2) hnf (mvT hZ ws) (mvT hZ wi) hy (backOf (W := (rest.map fun v => v.category).sum) hM hZ w4 w3 n1 n2) qa qc (g := mkF m pc Ls (argsL.reverse ++ .ref b :: rest)) rfl hsz (Steps.refl _) (argsL := argsL) (rest := rest) (lenOf pd hl) rfl (Nat.le_of_eq (Nat.zero_add _)) hd (fun _ _ => ⟨rfl, hE, n3, n4⟩)) hc hs
  exact ⟨v, T', L, h1, h2, fun t k => Steps.trans h3 k⟩
end Own3
section Own4
variable {p : Program} {l : Launch} {e : Env} {R : Room} {s : State} {m : MethodId} {args : Array Value} {below : List Frame} {meth : Method} {c : Code} {T target : State} {locs : List Loc} {cells slots : Nat} {bs : ByteArray} {pc pc' : Nat} {Ls : Array Slot} {st : List Value} {o i : Int} {y : MethodName} {S : Spec} {ml : Nat} {rt : Option FieldType} {s' sa : State} {a' : Array Value} {b' : List Frame}
theorem zi (X : Stand p l e R s m args below meth c T locs cells slots) (B : BodyLoose p l y S bs ml rt e s' m a' b' meth c sa) {k : Nat} {v : Int32} (hd : decode bs pc = .ok (.iload k, 2)) (hl : Ls[k]? = some (.val (.int v))) (hr : Steps p.tables e below (T.setTop (mkF m (pc + 2) Ls (.int v :: st))) target) : Steps p.tables e below (T.setTop (mkF m pc Ls st)) target := XS.iload X.here B.exec rfl (hb B.bytes hd) hl hr
theorem zj (X : Stand p l e R s m args below meth c T locs cells slots) (B : BodyLoose p l y S bs ml rt e s' m a' b' meth c sa) {k : Fin 4} {v : Int32} (hd : decode bs pc = .ok (.iload_n k, 1)) (hl : Ls[k.val]? = some (.val (.int v))) (hr : Steps p.tables e below (T.setTop (mkF m (pc + 1) Ls (.int v :: st))) target) : Steps p.tables e below (T.setTop (mkF m pc Ls st)) target := XS.iloadN X.here B.exec rfl (hb B.bytes hd) hl hr
theorem za (X : Stand p l e R s m args below meth c T locs cells slots) (B : BodyLoose p l y S bs ml rt e s' m a' b' meth c sa) {k : Nat} {v : Value} (hd : decode bs pc = .ok (.aload k, 2)) (hl : Ls[k]? = some (.val v)) (hv : v.isRef = true) (hr : Steps p.tables e below (T.setTop (mkF m (pc + 2) Ls (v :: st))) target) : Steps p.tables e below (T.setTop (mkF m pc Ls st)) target := XS.aload X.here B.exec rfl (hb B.bytes hd) hl hv hr
theorem zb (X : Stand p l e R s m args below meth c T locs cells slots) (B : BodyLoose p l y S bs ml rt e s' m a' b' meth c sa) {k : Fin 4} {v : Value} (hd : decode bs pc = .ok (.aload_n k, 1)) (hl : Ls[k.val]? = some (.val v)) (hv : v.isRef = true) (hr : Steps p.tables e below (T.setTop (mkF m (pc + 1) Ls (v :: st))) target) : Steps p.tables e below (T.setTop (mkF m pc Ls st)) target := XS.aloadN X.here B.exec rfl (hb B.bytes hd) hl hv hr
theorem zc (X : Stand p l e R s m args below meth c T locs cells slots) (B : BodyLoose p l y S bs ml rt e s' m a' b' meth c sa) (hd : decode bs pc = .ok (.iconst i, 1)) (hr : Steps p.tables e below (T.setTop (mkF m (pc + 1) Ls (.int (Int32.ofInt i) :: st))) target) : Steps p.tables e below (T.setTop (mkF m pc Ls st)) target := XS.iconst X.here B.exec rfl (hb B.bytes hd) hr
theorem zd (X : Stand p l e R s m args below meth c T locs cells slots) (B : BodyLoose p l y S bs ml rt e s' m a' b' meth c sa) (hd : decode bs pc = .ok (.bipush i, 2)) (hr : Steps p.tables e below (T.setTop (mkF m (pc + 2) Ls (.int (Int8.ofInt i).toInt32 :: st))) target) : Steps p.tables e below (T.setTop (mkF m pc Ls st)) target := XS.bipush X.here B.exec rfl (hb B.bytes hd) hr
theorem zs (X : Stand p l e R s m args below meth c T locs cells slots) (B : BodyLoose p l y S bs ml rt e s' m a' b' meth c sa) {k : Nat} {v : Int32} {l' : Array Slot} (hd : decode bs pc = .ok (.istore k, 2)) (hl : storeLocals Ls k (.int v) = some l') (hr : Steps p.tables e below (T.setTop (mkF m (pc + 2) l' st)) target) : Steps p.tables e below (T.setTop (mkF m pc Ls (.int v :: st))) target := XS.istore X.here B.exec rfl (hb B.bytes hd) rfl hl hr
theorem zt (X : Stand p l e R s m args below meth c T locs cells slots) (B : BodyLoose p l y S bs ml rt e s' m a' b' meth c sa) {k : Fin 4} {v : Int32} {l' : Array Slot} (hd : decode bs pc = .ok (.istore_n k, 1)) (hl : storeLocals Ls k.val (.int v) = some l') (hr : Steps p.tables e below (T.setTop (mkF m (pc + 1) l' st)) target) : Steps p.tables e below (T.setTop (mkF m pc Ls (.int v :: st))) target := XS.istoreN X.here B.exec rfl (hb B.bytes hd) rfl hl hr
theorem zn (X : Stand p l e R s m args below meth c T locs cells slots) (B : BodyLoose p l y S bs ml rt e s' m a' b' meth c sa) {cd : ClassFile.Cond} {u v : Int32} (hd : decode bs pc = .ok (.if_icmp cd o, 3)) (hc : if_icmp.holds cd u v = false) (hr : Steps p.tables e below (T.setTop (mkF m (pc + 3) Ls st)) target) : Steps p.tables e below (T.setTop (mkF m pc Ls (.int v :: .int u :: st))) target := XS.icmpNo X.here B.exec rfl (hb B.bytes hd) rfl hc hr
theorem zy (X : Stand p l e R s m args below meth c T locs cells slots) (B : BodyLoose p l y S bs ml rt e s' m a' b' meth c sa) {cd : ClassFile.Cond} {u v : Int32} (hd : decode bs pc = .ok (.if_icmp cd o, 3)) (hc : if_icmp.holds cd u v = true) (q : decide (0 ≤ (pc : Int) + o ∧ ((pc : Int) + o).toNat = pc') = true) (hr : Steps p.tables e below (T.setTop (mkF m pc' Ls st)) target) : Steps p.tables e below (T.setTop (mkF m pc Ls (.int v :: .int u :: st))) target := XS.icmpYes X.here B.exec rfl rfl (hb B.bytes hd) rfl hc (of_decide_eq_true q).1 (of_decide_eq_true q).2 hr
theorem zo (X : Stand p l e R s m args below meth c T locs cells slots) (B : BodyLoose p l y S bs ml rt e s' m a' b' meth c sa) {cd : ClassFile.Cond} {u : Int32} (hd : decode bs pc = .ok (.ifCond cd o, 3)) (hc : ifCond.holds cd u = false) (hr : Steps p.tables e below (T.setTop (mkF m (pc + 3) Ls st)) target) : Steps p.tables e below (T.setTop (mkF m pc Ls (.int u :: st))) target := XS.ifNo X.here B.exec rfl (hb B.bytes hd) rfl hc hr
theorem zp (X : Stand p l e R s m args below meth c T locs cells slots) (B : BodyLoose p l y S bs ml rt e s' m a' b' meth c sa) {cd : ClassFile.Cond} {u : Int32} (hd : decode bs pc = .ok (.ifCond cd o, 3)) (hc : ifCond.holds cd u = true) (q : decide (0 ≤ (pc : Int) + o ∧ ((pc : Int) + o).toNat = pc') = true) (hr : Steps p.tables e below (T.setTop (mkF m pc' Ls st)) target) : Steps p.tables e below (T.setTop (mkF m pc Ls (.int u :: st))) target := XS.ifYes X.here B.exec rfl rfl (hb B.bytes hd) rfl hc (of_decide_eq_true q).1 (of_decide_eq_true q).2 hr
theorem zg (X : Stand p l e R s m args below meth c T locs cells slots) (B : BodyLoose p l y S bs ml rt e s' m a' b' meth c sa) (hd : decode bs pc = .ok (.goto o, 3)) (q : decide (0 ≤ (pc : Int) + o ∧ ((pc : Int) + o).toNat = pc') = true) (hr : Steps p.tables e below (T.setTop (mkF m pc' Ls st)) target) : Steps p.tables e below (T.setTop (mkF m pc Ls st)) target := XS.goto X.here B.exec rfl rfl (hb B.bytes hd) (of_decide_eq_true q).1 (of_decide_eq_true q).2 hr
end Own4
abbrev MW (l : Launch) (Z : State) (EL : List (String × Nat)) (y : MethodName) (cd : ByteArray) (ml : Nat) (rt : Option FieldType) (R : Room) (a : Array Value) (h0 : Heap) (Q : Option Value → Heap → List Loc → Prop) : Prop :=
  MetFree l y (head1 [Jvm.Cond.code y cd ml rt] R) (fun b U => b = a ∧ Z.Warmed39 U.vm ∧ U.heap = h0 ∧ CHv Z EL U.vm h0) (fun _ _ _ _ _ => True) (fun _ U o U' => ∃ v L, o = .returned v ∧ Q v U'.heap L ∧ CHr Z EL U.vm U.heap U'.vm U'.heap ∧ ReturnedEndW U o U' L R.cells R.slots)
theorem own_sW {l : Launch} {Z : State} {EL : List (String × Nat)} {y : MethodName} {cd : ByteArray} {ml : Nat} {rt : Option FieldType} {R : Room} {a : Array Value} {h0 : Heap} {Q : Option Value → Heap → List Loc → Prop} {K : String} {L0 : Array Slot} (hpn : plainName K = true) (hK : y.cls = K) (hE : ∀ m, entryFrame m a ml = mkF m 0 L0 [])
    (H : ∀ p e s m below meth c s₁, BodyLoose p l y (head1 [Jvm.Cond.code y cd ml rt] R) cd ml rt e s m a below meth c s₁ → Z.Warmed39 s.vm → s.heap = h0 → p.tables.exec = Jvm.exec → c.code = cd → c.maxLocals = ml → s.vm.findClass K = some m.cls → meth.name = y.name → Stand p l e R (s.setVm s.vm) m a below meth c s₁ [] 0 0 → s₁.heap = h0 → (∀ t, Steps p.tables e below (s₁.setTop (mkF m 0 L0 [])) t → Steps p.tables e below (s₁.setTop (entryFrame m a ml)) t) →
      CHv Z EL s.vm h0 → s.Since s.vm h0.size → h0.size ≤ h0.size → CHr Z EL s.vm h0 s.vm h0 →
      ∃ s₂ o, Steps p.tables e below (s₁.setTop (entryFrame m a ml)) s₂ ∧ s₂.status = .running ∧ Ended s₂ below o ∧ ∃ v L, o = .returned v ∧ Q v s₂.heap L ∧ CHr Z EL s.vm s.heap s₂.vm s₂.heap ∧ ReturnedEndW s o s₂ L R.cells R.slots) : MW l Z EL y cd ml rt R a h0 Q := by
  subst hK
  refine MetFree.of_bodySF (plainFor_of_name hpn) hisR ?_
  intro p e s m args below meth c s₁ Bd hml0 hP hK
  obtain ⟨rfl, hZ, hh, hC0⟩ := hP
  exact H p e s m below meth c s₁ Bd hZ hh Bd.exec Bd.bytes hml0 (findClass_of_methodNamed Bd.named) (name_of_methodNamed Bd.named Bd.method).1 (Stand.of_body Bd) (by rw [← hh, Bd.state]; rfl) (fun t k => castTop (hE m) k) hC0 ((State.WarmedH.refl s).since _) (Nat.le_refl _) (CHr.refl hC0)
theorem own_nf {s : State} {args : Array Value} {y x z : MethodName} {C : String} (h : (Cond.selects C x z).before args s = true) (e : z.cls = y.cls) : NotFace s y := fun r0 h0 => by
  obtain ⟨c2, r2, m2, q1, q2, q3, q4, kP, hkP, hkPi⟩ := Cond.selects_spec h
  have h1 := findClass_of_methodNamed q3
  have h2 := findClass_of_methodNamed h0
  rw [e] at h1
  have e2 : m2.cls = r0.cls := Option.some.inj (h1.symm.trans h2)
  exact ⟨kP, e2 ▸ hkP, hkPi⟩
theorem own_same {s : State} {args : Array Value} {y x z : MethodName} {C : String} (hi : (Cond.instanceMethod y).before args s = true) (h : (Cond.selects C x z).before args s = true) (e : z.cls = y.cls) (hy : y.cls ≠ "java/lang/invoke/MethodHandle" ∧ y.cls ≠ "java/lang/invoke/VarHandle") : (Cond.sameMethod y.cls y.cls y.name y.desc).before args s = true := by
  obtain ⟨mk, methM, hnamed, hmethM, -, -⟩ := Cond.instanceMethod_spec hi
  have hfound : s.methodFound? y.cls y.name y.desc = some mk := State.methodFound?_of_named hnamed hy
  obtain ⟨kr, k1, k2⟩ := own_nf (y := y) h e mk hnamed
  have hc := findClass_of_methodNamed hnamed
  have hn : s.methodNamed? ⟨y.cls, y.name, y.desc⟩ = some mk := hnamed
  simp [Cond.before, Cond.holds, Cond.value, hc, hfound, hn, k1, k2]
theorem own_ws {a0 : Array Value} {Z : State} (hw : ∀ d ∈ tables_1, d.before a0 Z = true) : ∀ d ∈ StrChars.Road.words, d.before a0 Z = true := fun d hd => hw d ((by decide +kernel : ∀ d ∈ StrChars.Road.words, d ∈ tables_1) d hd)
theorem own_wc {a0 : Array Value} {Z : State} (hw : ∀ d ∈ tables_1, d.before a0 Z = true) : ∀ d ∈ StrChars.Road.wordsChN, d.before a0 Z = true := fun d hd => hw d ((by decide +kernel : ∀ d ∈ StrChars.Road.wordsChN, d ∈ tables_1) d hd)
theorem own_wS {a0 : Array Value} {Z : State} (hw : ∀ d ∈ tables_1, d.before a0 Z = true) : ∀ d ∈ Bundle.stringAtoms, d.before a0 Z = true := fun d hd => hw d ((by decide +kernel : ∀ d ∈ Bundle.stringAtoms, d ∈ tables_1) d hd)
theorem own_safe_null {Z : State} {EL : List (String × Nat)} {vm : Vm} {h : Heap} {x : Addr} (hal : Z.vm.Alike vm) (E : Exa Z h x "java/lang/String") (F : Fld Z h x "java/lang/String" "value" "[B" .null) : Safe Z EL vm h x := fun B => by
  obtain ⟨cell, k, e1, e2, e3, -, -⟩ := E
  obtain ⟨cell', cf, k', i, f, f1, f2, f3, -, -, -, f7⟩ := F
  cases e1.symm.trans f1
  obtain ⟨p, -, u, a, -, q, -, G, rfl | rfl⟩ := B
  · cases (show h[q.sa]? = some q.sC from G.ha).symm.trans e1
    obtain ⟨cS, ⟨⟨s1, s2, s3, ⟨cv, kv, iv, s4, s4'⟩, -, s6, s7, s8, -⟩, -, -⟩, -⟩ := G
    obtain ⟨kv', z4⟩ := ff_back (U := Wst Z vm h) hal s4
    cases z4.symm.trans f2
    rw [s8] at f7
    cases f7
  · cases (show h[q.sd]? = some q.SA from G.hd).symm.trans e1
    obtain ⟨cS, -, -, hB, -⟩ := G
    have hB : vm.findClass "[B" = some q.SA.cls := hB
    rw [hal.findClass] at hB
    obtain ⟨k1, q1, q2⟩ := Vm.findClass_spec hB
    obtain ⟨k2, q3, q4⟩ := Vm.findClass_spec e2
    cases q1.symm.trans q3
    exact absurd (q2.symm.trans q4) (by decide)
theorem own_EW {a0 : Array Value} {Z : State} (hw : ∀ d ∈ tables_1, d.before a0 Z = true) : EW Z a0 consts_1 := (EW.cons (own := "java/lang/String") (index := 7) (text := "") (w39_ hw) (by decide) EW.nil)
abbrev own_at (l : List Int32) (j : Int32) : Int32 := l.getD j.toNatClampNeg 0
theorem own_atV (l : List Int32) (j : Int32) : (l.map Value.int).getD j.toNatClampNeg (.int 0) = .int (own_at l j) := by
  simp only [own_at, List.getD_eq_getElem?_getD, List.getElem?_map]
  cases l[j.toNatClampNeg]? <;> rfl
theorem own_loop1 {G : Prop} (μ : Int32 → Nat) (I : State → List Loc → Int32 → Prop) (step : ∀ T L i, I T L i → (∀ T' L' i', μ i' < μ i → I T' L' i' → G) → G) (T : State) (L : List Loc) (i : Int32) (h : I T L i) : G := by
  have : ∀ k T L i, μ i = k → I T L i → G := by
    intro k
    induction k using Nat.strongRecOn with
    | ind k ih =>
      intro T L i hk hI
      exact step T L i hI (fun T' L' i' hlt hI' => ih (μ i') (hk ▸ hlt) T' L' i' rfl hI')
  exact this _ T L i rfl h
theorem own_c16 {c : Int32} (h : nar .char c = c) : ∃ a b : Fin 256, c = Int32.ofNat (256 * a.val + b.val) := by
  have hk := c.toUInt32.toUInt16.toNat_lt
  have e : c = Int32.ofNat c.toUInt32.toUInt16.toNat := by
    conv => lhs; rw [← h]
    simp only [nar]
    apply Int32.toBitVec_inj.mp
    show _ = BitVec.ofNat 32 _
    apply BitVec.eq_of_toNat_eq
    simp
    have : c.toUInt32.toNat = c.toBitVec.toNat := rfl
    omega
  refine ⟨⟨c.toUInt32.toUInt16.toNat / 256, by omega⟩, ⟨c.toUInt32.toUInt16.toNat % 256, by omega⟩, ?_⟩
  have : 256 * (c.toUInt32.toUInt16.toNat / 256) + c.toUInt32.toUInt16.toNat % 256 = c.toUInt32.toUInt16.toNat := Nat.div_add_mod _ _
  show c = Int32.ofNat (256 * (c.toUInt32.toUInt16.toNat / 256) + c.toUInt32.toUInt16.toNat % 256)
  rw [this]; exact e
theorem own_b8 (x : Int32) : (x.toInt8.toInt32) &&& (255 : Int32) = x &&& (255 : Int32) := by
  apply Int32.toBitVec_inj.mp
  apply BitVec.eq_of_getLsbD_eq
  intro i hi
  simp only [Int32.toBitVec_and, BitVec.getLsbD_and]
  by_cases h : i < 8
  · have : (x.toInt8.toInt32).toBitVec.getLsbD i = x.toBitVec.getLsbD i := by
      show ((x.toBitVec.signExtend 8).signExtend 32).getLsbD i = _
      rw [BitVec.getLsbD_signExtend, BitVec.getLsbD_signExtend]
      simp only [h, hi, decide_true, Bool.true_and, if_true]
    rw [this]
  · have : (255 : Int32).toBitVec.getLsbD i = false := by
      show (255#32).getLsbD i = false
      simp [BitVec.getLsbD_ofNat]
      intro _
      exact Nat.testBit_lt_two_pow (Nat.lt_of_lt_of_le (by decide : 255 < 2 ^ 8) (Nat.pow_le_pow_right (by decide) (Nat.le_of_not_lt h)))
    rw [this]; simp
theorem own_get16 {c : Int32} (h : nar .char c = c) : ((((((((((c >>> ((0 : Int32) &&& 31)))).toInt8.toInt32) &&& (255 : Int32)) <<< ((0 : Int32) &&& 31))) ||| (((((((c >>> ((8 : Int32) &&& 31)))).toInt8.toInt32) &&& (255 : Int32)) <<< ((8 : Int32) &&& 31))))).toUInt32.toUInt16.toUInt32.toInt32) = c := by
  have hn : c.toBitVec.toNat < 65536 := by
    rw [← h]
    show (c.toUInt32.toUInt16.toUInt32.toInt32).toBitVec.toNat < 65536
    have := c.toUInt32.toUInt16.toNat_lt
    simp at this ⊢
    omega
  rw [own_b8, own_b8]
  have s0 : c >>> ((0 : Int32) &&& 31) = c := by
    apply Int32.toBitVec_inj.mp
    show c.toBitVec.sshiftRight 0 = c.toBitVec
    simp
  have s1 : (c &&& (255 : Int32)) <<< ((0 : Int32) &&& 31) = c &&& (255 : Int32) := by
    apply Int32.toBitVec_inj.mp
    show (c &&& (255 : Int32)).toBitVec <<< 0 = (c &&& (255 : Int32)).toBitVec
    simp
  rw [s0, s1]
  have key : (c &&& (255 : Int32)) ||| (((c >>> ((8 : Int32) &&& 31)) &&& (255 : Int32)) <<< ((8 : Int32) &&& 31)) = c := by
    apply Int32.toBitVec_inj.mp
    apply BitVec.eq_of_getLsbD_eq
    intro i hi
    show ((c.toBitVec &&& 255#32) ||| (((c.toBitVec.sshiftRight 8) &&& 255#32) <<< 8)).getLsbD i = c.toBitVec.getLsbD i
    rw [BitVec.getLsbD_or, BitVec.getLsbD_and, BitVec.getLsbD_shiftLeft, BitVec.getLsbD_and, BitVec.getLsbD_sshiftRight]
    have b : ∀ j, (255#32).getLsbD j = decide (j < 8) := by
      intro j
      rw [BitVec.getLsbD_ofNat]
      by_cases q : j < 8
      · have : j = 0 ∨ j = 1 ∨ j = 2 ∨ j = 3 ∨ j = 4 ∨ j = 5 ∨ j = 6 ∨ j = 7 := by omega
        rcases this with rfl | rfl | rfl | rfl | rfl | rfl | rfl | rfl <;> rfl
      · have : (255 : Nat).testBit j = false := Nat.testBit_lt_two_pow (Nat.lt_of_lt_of_le (by decide : 255 < 2 ^ 8) (Nat.pow_le_pow_right (by decide) (Nat.le_of_not_lt q)))
        rw [this]; simp [q]
    rw [b, b]
    by_cases q1 : i < 8
    · simp [q1, hi]
    · by_cases q2 : i < 16
      · have e1 : i - 8 < 8 := by omega
        have e2 : 8 + (i - 8) = i := by omega
        have e3 : 8 + (i - 8) < 32 := by omega
        simp [q1, hi, e1, e2, (by omega : i - 8 < 32)]
      · have e1 : ¬ i - 8 < 8 := by omega
        have e2 : c.toBitVec.getLsbD i = false := by
          rw [BitVec.getLsbD]
          exact Nat.testBit_lt_two_pow (Nat.lt_of_lt_of_le hn (by
            show 2 ^ 16 ≤ 2 ^ i
            exact Nat.pow_le_pow_right (by decide) (Nat.le_of_not_lt q2)))
        rw [e2]; simp [q1, e1]
  rw [key]; exact h
theorem own_get16l {c : Int32} (h : nar .char c = c) (hc : (255 : Int32) < c) : (255 : Int32) < ((((((((((c >>> ((0 : Int32) &&& 31)))).toInt8.toInt32) &&& (255 : Int32)) <<< ((0 : Int32) &&& 31))) ||| (((((((c >>> ((8 : Int32) &&& 31)))).toInt8.toInt32) &&& (255 : Int32)) <<< ((8 : Int32) &&& 31))))).toUInt32.toUInt16.toUInt32.toInt32) := by rw [own_get16 h]; exact hc
theorem own_ch0 {c : Int32} (h : nar .char c = c) : ¬ c < 0 := by
  obtain ⟨a, b, rfl⟩ := own_c16 h
  have e0 : (0 : Int32).toInt = 0 := rfl
  rw [Int32.lt_iff_toInt_lt, e0, Int32.toInt_ofNat_small (by omega)]; omega
def own_max : List Int32 → Int32
  | [] => 0
  | c :: r => if own_max r < c then c else own_max r
theorem own_maxge : ∀ (l : List Int32) (c : Int32), c ∈ l → ¬ own_max l < c
  | x :: r, c, h => by
    have t : ∀ a b c : Int32, ¬ a < b → a < c → ¬ c < b := fun a b c h1 h2 h3 => by rw [Int32.lt_iff_toInt_lt] at *; omega
    rw [own_max]
    rcases List.mem_cons.mp h with rfl | q
    · split
      · exact fun h => Int32.lt_irrefl h
      · assumption
    · have := own_maxge r c q
      split
      · exact t _ _ _ this (by assumption)
      · exact this
theorem own_maxle {l : List Int32} {c : Int32} (h : ¬ (255 : Int32) < own_max l) (hc : c ∈ l) : ¬ (255 : Int32) < c := fun q => by
  have := own_maxge l c hc
  rw [Int32.lt_iff_toInt_lt] at *
  omega
theorem own_maxno : ∀ (l : List Int32), (∀ c ∈ l, ¬ (255 : Int32) < c) → ¬ (255 : Int32) < own_max l
  | [], _ => by decide
  | x :: r, h => by
    rw [own_max]
    split
    · exact h _ (List.mem_cons_self ..)
    · exact own_maxno r (fun c hc => h c (List.mem_cons_of_mem _ hc))
theorem own_ltn {j : Int32} {k : Nat} (hk : k < 1000) (h : ¬ j < 0 ∧ j < Int32.ofNat k) : j.toNatClampNeg < k := by
  obtain ⟨h0, h1⟩ := h
  have e0 : (0 : Int32).toInt = 0 := rfl
  have ek : (Int32.ofNat k).toInt = k := Int32.toInt_ofNat_small (by omega)
  rw [Int32.lt_iff_toInt_lt, e0] at h0
  rw [Int32.lt_iff_toInt_lt, ek] at h1
  simp only [Int32.toNatClampNeg]; omega
abbrev own_L1 (b0 b1 : Int32) : List Int32 := ([((((((b0 &&& (255 : Int32)) <<< ((0 : Int32) &&& 31))) ||| (((b1 &&& (255 : Int32)) <<< ((8 : Int32) &&& 31))))).toUInt32.toUInt16.toUInt32.toInt32)] : List Int32)
theorem own_lt1 {j : Int32} (h0 : ¬ j < 0) (h1 : j < (1 : Int32)) : j = (0 : Int32) := by
  have e0 : (0 : Int32).toInt = 0 := rfl
  have e1 : (1 : Int32).toInt = 1 := rfl
  rw [Int32.lt_iff_toInt_lt, e0] at h0
  rw [Int32.lt_iff_toInt_lt, e1] at h1
  have e : ∀ k : Int32, j.toInt = k.toInt → j = k := fun k h => Int32.toInt_inj.mp h
  have : j.toInt = 0 := by omega
  exact e _ this
theorem own_cat1 (b0 b1 j : Int32) (h0 : ¬ j < 0) (h1 : j < (1 : Int32)) : (((((((own_at ([b0, b1] : List Int32) ((j <<< ((1 : Int32) &&& 31)))) &&& (255 : Int32)) <<< ((0 : Int32) &&& 31))) ||| ((((own_at ([b0, b1] : List Int32) (((j <<< ((1 : Int32) &&& 31))) + (1 : Int32))) &&& (255 : Int32)) <<< ((8 : Int32) &&& 31))))).toUInt32.toUInt16.toUInt32.toInt32) = own_at (own_L1 b0 b1) j := by
  rcases own_lt1 h0 h1 with rfl <;> rfl
theorem own_shla1 {j : Int32} (h0 : ¬ j < 0) (h1 : j < (1 : Int32)) : ¬ ((j <<< ((1 : Int32) &&& 31))) < 0 ∧ ((j <<< ((1 : Int32) &&& 31))) < (2 : Int32) := by
  rcases own_lt1 h0 h1 with rfl <;> decide
theorem own_shlb1 {j : Int32} (h0 : ¬ j < 0) (h1 : j < (1 : Int32)) : ¬ (((j <<< ((1 : Int32) &&& 31))) + (1 : Int32)) < 0 ∧ (((j <<< ((1 : Int32) &&& 31))) + (1 : Int32)) < (2 : Int32) := by
  rcases own_lt1 h0 h1 with rfl <;> decide
abbrev own_L2 (b0 b1 b2 b3 : Int32) : List Int32 := ([((((((b0 &&& (255 : Int32)) <<< ((0 : Int32) &&& 31))) ||| (((b1 &&& (255 : Int32)) <<< ((8 : Int32) &&& 31))))).toUInt32.toUInt16.toUInt32.toInt32), ((((((b2 &&& (255 : Int32)) <<< ((0 : Int32) &&& 31))) ||| (((b3 &&& (255 : Int32)) <<< ((8 : Int32) &&& 31))))).toUInt32.toUInt16.toUInt32.toInt32)] : List Int32)
theorem own_lt2 {j : Int32} (h0 : ¬ j < 0) (h1 : j < (2 : Int32)) : j = (0 : Int32) ∨ j = (1 : Int32) := by
  have e0 : (0 : Int32).toInt = 0 := rfl
  have e1 : (2 : Int32).toInt = 2 := rfl
  rw [Int32.lt_iff_toInt_lt, e0] at h0
  rw [Int32.lt_iff_toInt_lt, e1] at h1
  have e : ∀ k : Int32, j.toInt = k.toInt → j = k := fun k h => Int32.toInt_inj.mp h
  have : j.toInt = 0 ∨ j.toInt = 1 := by omega
  rcases this with h | h
  · exact Or.inl (e _ h)
  · exact Or.inr (e _ h)
theorem own_cat2 (b0 b1 b2 b3 j : Int32) (h0 : ¬ j < 0) (h1 : j < (2 : Int32)) : (((((((own_at ([b0, b1, b2, b3] : List Int32) ((j <<< ((1 : Int32) &&& 31)))) &&& (255 : Int32)) <<< ((0 : Int32) &&& 31))) ||| ((((own_at ([b0, b1, b2, b3] : List Int32) (((j <<< ((1 : Int32) &&& 31))) + (1 : Int32))) &&& (255 : Int32)) <<< ((8 : Int32) &&& 31))))).toUInt32.toUInt16.toUInt32.toInt32) = own_at (own_L2 b0 b1 b2 b3) j := by
  rcases own_lt2 h0 h1 with rfl | rfl <;> rfl
theorem own_shla2 {j : Int32} (h0 : ¬ j < 0) (h1 : j < (2 : Int32)) : ¬ ((j <<< ((1 : Int32) &&& 31))) < 0 ∧ ((j <<< ((1 : Int32) &&& 31))) < (4 : Int32) := by
  rcases own_lt2 h0 h1 with rfl | rfl <;> decide
theorem own_shlb2 {j : Int32} (h0 : ¬ j < 0) (h1 : j < (2 : Int32)) : ¬ (((j <<< ((1 : Int32) &&& 31))) + (1 : Int32)) < 0 ∧ (((j <<< ((1 : Int32) &&& 31))) + (1 : Int32)) < (4 : Int32) := by
  rcases own_lt2 h0 h1 with rfl | rfl <;> decide
abbrev own_L3 (b0 b1 b2 b3 b4 b5 : Int32) : List Int32 := ([((((((b0 &&& (255 : Int32)) <<< ((0 : Int32) &&& 31))) ||| (((b1 &&& (255 : Int32)) <<< ((8 : Int32) &&& 31))))).toUInt32.toUInt16.toUInt32.toInt32), ((((((b2 &&& (255 : Int32)) <<< ((0 : Int32) &&& 31))) ||| (((b3 &&& (255 : Int32)) <<< ((8 : Int32) &&& 31))))).toUInt32.toUInt16.toUInt32.toInt32), ((((((b4 &&& (255 : Int32)) <<< ((0 : Int32) &&& 31))) ||| (((b5 &&& (255 : Int32)) <<< ((8 : Int32) &&& 31))))).toUInt32.toUInt16.toUInt32.toInt32)] : List Int32)
theorem own_lt3 {j : Int32} (h0 : ¬ j < 0) (h1 : j < (3 : Int32)) : j = (0 : Int32) ∨ j = (1 : Int32) ∨ j = (2 : Int32) := by
  have e0 : (0 : Int32).toInt = 0 := rfl
  have e1 : (3 : Int32).toInt = 3 := rfl
  rw [Int32.lt_iff_toInt_lt, e0] at h0
  rw [Int32.lt_iff_toInt_lt, e1] at h1
  have e : ∀ k : Int32, j.toInt = k.toInt → j = k := fun k h => Int32.toInt_inj.mp h
  have : j.toInt = 0 ∨ j.toInt = 1 ∨ j.toInt = 2 := by omega
  rcases this with h | h | h
  · exact Or.inl (e _ h)
  · exact Or.inr (Or.inl (e _ h))
  · exact Or.inr (Or.inr (e _ h))
theorem own_cat3 (b0 b1 b2 b3 b4 b5 j : Int32) (h0 : ¬ j < 0) (h1 : j < (3 : Int32)) : (((((((own_at ([b0, b1, b2, b3, b4, b5] : List Int32) ((j <<< ((1 : Int32) &&& 31)))) &&& (255 : Int32)) <<< ((0 : Int32) &&& 31))) ||| ((((own_at ([b0, b1, b2, b3, b4, b5] : List Int32) (((j <<< ((1 : Int32) &&& 31))) + (1 : Int32))) &&& (255 : Int32)) <<< ((8 : Int32) &&& 31))))).toUInt32.toUInt16.toUInt32.toInt32) = own_at (own_L3 b0 b1 b2 b3 b4 b5) j := by
  rcases own_lt3 h0 h1 with rfl | rfl | rfl <;> rfl
theorem own_shla3 {j : Int32} (h0 : ¬ j < 0) (h1 : j < (3 : Int32)) : ¬ ((j <<< ((1 : Int32) &&& 31))) < 0 ∧ ((j <<< ((1 : Int32) &&& 31))) < (6 : Int32) := by
  rcases own_lt3 h0 h1 with rfl | rfl | rfl <;> decide
theorem own_shlb3 {j : Int32} (h0 : ¬ j < 0) (h1 : j < (3 : Int32)) : ¬ (((j <<< ((1 : Int32) &&& 31))) + (1 : Int32)) < 0 ∧ (((j <<< ((1 : Int32) &&& 31))) + (1 : Int32)) < (6 : Int32) := by
  rcases own_lt3 h0 h1 with rfl | rfl | rfl <;> decide
abbrev own_L4 (b0 b1 b2 b3 b4 b5 b6 b7 : Int32) : List Int32 := ([((((((b0 &&& (255 : Int32)) <<< ((0 : Int32) &&& 31))) ||| (((b1 &&& (255 : Int32)) <<< ((8 : Int32) &&& 31))))).toUInt32.toUInt16.toUInt32.toInt32), ((((((b2 &&& (255 : Int32)) <<< ((0 : Int32) &&& 31))) ||| (((b3 &&& (255 : Int32)) <<< ((8 : Int32) &&& 31))))).toUInt32.toUInt16.toUInt32.toInt32), ((((((b4 &&& (255 : Int32)) <<< ((0 : Int32) &&& 31))) ||| (((b5 &&& (255 : Int32)) <<< ((8 : Int32) &&& 31))))).toUInt32.toUInt16.toUInt32.toInt32), ((((((b6 &&& (255 : Int32)) <<< ((0 : Int32) &&& 31))) ||| (((b7 &&& (255 : Int32)) <<< ((8 : Int32) &&& 31))))).toUInt32.toUInt16.toUInt32.toInt32)] : List Int32)
theorem own_lt4 {j : Int32} (h0 : ¬ j < 0) (h1 : j < (4 : Int32)) : j = (0 : Int32) ∨ j = (1 : Int32) ∨ j = (2 : Int32) ∨ j = (3 : Int32) := by
  have e0 : (0 : Int32).toInt = 0 := rfl
  have e1 : (4 : Int32).toInt = 4 := rfl
  rw [Int32.lt_iff_toInt_lt, e0] at h0
  rw [Int32.lt_iff_toInt_lt, e1] at h1
  have e : ∀ k : Int32, j.toInt = k.toInt → j = k := fun k h => Int32.toInt_inj.mp h
  have : j.toInt = 0 ∨ j.toInt = 1 ∨ j.toInt = 2 ∨ j.toInt = 3 := by omega
  rcases this with h | h | h | h
  · exact Or.inl (e _ h)
  · exact Or.inr (Or.inl (e _ h))
  · exact Or.inr (Or.inr (Or.inl (e _ h)))
  · exact Or.inr (Or.inr (Or.inr (e _ h)))
theorem own_cat4 (b0 b1 b2 b3 b4 b5 b6 b7 j : Int32) (h0 : ¬ j < 0) (h1 : j < (4 : Int32)) : (((((((own_at ([b0, b1, b2, b3, b4, b5, b6, b7] : List Int32) ((j <<< ((1 : Int32) &&& 31)))) &&& (255 : Int32)) <<< ((0 : Int32) &&& 31))) ||| ((((own_at ([b0, b1, b2, b3, b4, b5, b6, b7] : List Int32) (((j <<< ((1 : Int32) &&& 31))) + (1 : Int32))) &&& (255 : Int32)) <<< ((8 : Int32) &&& 31))))).toUInt32.toUInt16.toUInt32.toInt32) = own_at (own_L4 b0 b1 b2 b3 b4 b5 b6 b7) j := by
  rcases own_lt4 h0 h1 with rfl | rfl | rfl | rfl <;> rfl
theorem own_shla4 {j : Int32} (h0 : ¬ j < 0) (h1 : j < (4 : Int32)) : ¬ ((j <<< ((1 : Int32) &&& 31))) < 0 ∧ ((j <<< ((1 : Int32) &&& 31))) < (8 : Int32) := by
  rcases own_lt4 h0 h1 with rfl | rfl | rfl | rfl <;> decide
theorem own_shlb4 {j : Int32} (h0 : ¬ j < 0) (h1 : j < (4 : Int32)) : ¬ (((j <<< ((1 : Int32) &&& 31))) + (1 : Int32)) < 0 ∧ (((j <<< ((1 : Int32) &&& 31))) + (1 : Int32)) < (8 : Int32) := by
  rcases own_lt4 h0 h1 with rfl | rfl | rfl | rfl <;> decide
theorem own_rem5g (x : Int32) (h0 : ¬ ((x &&& (7 : Int32)) % (5 : Int32)) = (0 : Int32)) (h1 : ¬ ((x &&& (7 : Int32)) % (5 : Int32)) = (1 : Int32)) (h2 : ¬ ((x &&& (7 : Int32)) % (5 : Int32)) = (2 : Int32)) (h3 : ¬ ((x &&& (7 : Int32)) % (5 : Int32)) = (3 : Int32)) : ((x &&& (7 : Int32)) % (5 : Int32)) = (4 : Int32) := by
  have g0 : ¬ (x &&& (7 : Int32)) < 0 := fun h => absurd ((XT.and_neg32 _ _).mp h).2 (by decide)
  have g1 : 0 ≤ (x &&& (7 : Int32)).toInt := by rw [XT.negI32] at g0; omega
  have e8 : (5 : Int32).toInt = 5 := rfl
  have a1 := Int.tmod_nonneg 5 g1
  have a2 := Int.tmod_lt_of_pos (x &&& (7 : Int32)).toInt (b := 5) (by decide)
  have e : ((x &&& (7 : Int32)) % (5 : Int32)).toInt = (x &&& (7 : Int32)).toInt.tmod 5 := by rw [Int32.toInt_mod, e8]
  have ne : ∀ k : Int32, ¬ ((x &&& (7 : Int32)) % (5 : Int32)) = k → ¬ ((x &&& (7 : Int32)) % (5 : Int32)).toInt = k.toInt := fun k h q => h (Int32.toInt_inj.mp q)
  have b0 := ne _ h0; have b1 := ne _ h1; have b2 := ne _ h2; have b3 := ne _ h3
  have c0 : (0 : Int32).toInt = 0 := rfl
  have c1 : (1 : Int32).toInt = 1 := rfl
  have c2 : (2 : Int32).toInt = 2 := rfl
  have c3 : (3 : Int32).toInt = 3 := rfl
  have c4 : (4 : Int32).toInt = 4 := rfl
  apply Int32.toInt_inj.mp
  rw [c0] at b0; rw [c1] at b1; rw [c2] at b2; rw [c3] at b3
  rw [c4]; omega
theorem own_rb (x : Int32) {m : Int32} {k : Nat} (hm : m = Int32.ofNat k) (hk : k < 100) : ¬ ((x &&& (2147483647 : Int32)) % (m + (1 : Int32))) < 0 ∧ ¬ Int32.ofNat k < ((x &&& (2147483647 : Int32)) % (m + (1 : Int32))) := by
  subst hm
  have g0 : ¬ (x &&& (2147483647 : Int32)) < 0 := fun h => absurd ((XT.and_neg32 _ _).mp h).2 (by decide)
  have g1 : 0 ≤ (x &&& (2147483647 : Int32)).toInt := by rw [XT.negI32] at g0; omega
  have e0 : (0 : Int32).toInt = 0 := rfl
  have e1 : (1 : Int32).toInt = 1 := rfl
  have ek : (Int32.ofNat k).toInt = k := Int32.toInt_ofNat_small (by omega)
  have em : (Int32.ofNat k + 1).toInt = k + 1 := by rw [XT.add32 (by rw [ek, e1]; constructor <;> omega), ek, e1]
  rw [Int32.lt_iff_toInt_lt, Int32.lt_iff_toInt_lt, Int32.toInt_mod, em, e0, ek]
  have a1 := Int.tmod_nonneg ((k : Int) + 1) g1
  have a2 := Int.tmod_lt_of_pos (x &&& (2147483647 : Int32)).toInt (b := (k : Int) + 1) (by omega)
  omega
def own_digN (cs : List Int32) : Nat → Nat → Int32
  | _, 0 => 1
  | i, k + 1 => if cs.getD i 0 < (48 : Int32) then 0 else if (57 : Int32) < cs.getD i 0 then 0 else own_digN cs (i + 1) k
def own_digI (cs : List Int32) (i e : Int32) : Int32 := own_digN cs i.toNatClampNeg (e.toInt - i.toInt).toNat
def own_isd (cs : List Int32) (s e : Int32) : Int32 := if s < e then own_digI cs s e else 0
def own_fine (i s e c : Int32) : Int32 := if i < s then 1 else if i < e then if c < (48 : Int32) then 0 else if (57 : Int32) < c then 0 else 1 else 1
def own_ex (s e c0 c1 c2 c3 : Int32) : Int32 := if s < e then if own_fine (0 : Int32) s e c0 = (0 : Int32) then 0 else if own_fine (1 : Int32) s e c1 = (0 : Int32) then 0 else if own_fine (2 : Int32) s e c2 = (0 : Int32) then 0 else if own_fine (3 : Int32) s e c3 = (0 : Int32) then 0 else 1 else 0
theorem own_incI {i e : Int32} (h0 : ¬ i < 0) (h : i < e) : (i + (1 : Int32)).toInt = i.toInt + 1 := by
  have e0 : (0 : Int32).toInt = 0 := rfl
  have e1 : (1 : Int32).toInt = 1 := rfl
  have := e.toInt_lt
  rw [Int32.lt_iff_toInt_lt, e0] at h0
  rw [Int32.lt_iff_toInt_lt] at h
  rw [XT.add32 (by rw [e1]; constructor <;> omega), e1]
theorem own_inc0 {i e : Int32} (h0 : ¬ i < 0) (h : i < e) : ¬ (i + (1 : Int32)) < 0 := by
  have e0 : (0 : Int32).toInt = 0 := rfl
  rw [Int32.lt_iff_toInt_lt, own_incI h0 h, e0]
  rw [Int32.lt_iff_toInt_lt, e0] at h0
  omega
theorem own_left {i e : Int32} (h0 : ¬ i < 0) (h : i < e) : (e.toInt - i.toInt).toNat = (e.toInt - (i + (1 : Int32)).toInt).toNat + 1 := by
  rw [own_incI h0 h]
  rw [Int32.lt_iff_toInt_lt] at h
  omega
theorem own_decr {i e : Int32} (h0 : ¬ i < 0) (h : i < e) : (e.toInt - (i + (1 : Int32)).toInt).toNat < (e.toInt - i.toInt).toNat := by
  rw [own_left h0 h]; omega
theorem own_nat1 {i e : Int32} (h0 : ¬ i < 0) (h : i < e) : (i + (1 : Int32)).toNatClampNeg = i.toNatClampNeg + 1 := by
  have e0 : (0 : Int32).toInt = 0 := rfl
  simp only [Int32.toNatClampNeg]
  rw [own_incI h0 h]
  rw [Int32.lt_iff_toInt_lt, e0] at h0
  omega
theorem own_digS {cs : List Int32} {i e : Int32} (h : i < e) (h0 : ¬ i < 0) (h1 : ¬ (own_at cs i) < (48 : Int32)) (h2 : ¬ (57 : Int32) < (own_at cs i)) : own_digI cs i e = own_digI cs (i + (1 : Int32)) e := by
  rw [own_digI, own_digI, own_left h0 h, own_nat1 h0 h, own_digN, if_neg h1, if_neg h2]
theorem own_dig0 {cs : List Int32} {i e : Int32} (h : i < e) (h0 : ¬ i < 0) (h1 : (own_at cs i) < (48 : Int32) ∨ (57 : Int32) < (own_at cs i)) : own_digI cs i e = 0 := by
  rw [own_digI, own_left h0 h, own_digN]
  rcases h1 with q | q
  · rw [if_pos q]
  · split
    · rfl
    · first | rfl | rw [if_pos q]
theorem own_dig1 {cs : List Int32} {i e : Int32} (h : ¬ i < e) : own_digI cs i e = 1 := by
  rw [Int32.lt_iff_toInt_lt] at h
  have : (e.toInt - i.toInt).toNat = 0 := by omega
  rw [own_digI, this, own_digN]
theorem own_ilt {i e : Int32} {k : Nat} (hk : k < 1000) (h0 : ¬ i < 0) (h1 : i < e) (h2 : ¬ Int32.ofNat k < e) : i.toNatClampNeg < k := by
  have e0 : (0 : Int32).toInt = 0 := rfl
  have ek : (Int32.ofNat k).toInt = k := Int32.toInt_ofNat_small (by omega)
  rw [Int32.lt_iff_toInt_lt] at h0 h1 h2
  rw [ek] at h2; rw [e0] at h0
  simp only [Int32.toNatClampNeg]; omega
theorem own_iltk {i e k : Int32} (h1 : i < e) (h2 : ¬ k < e) : i < k := by
  rw [Int32.lt_iff_toInt_lt] at *; omega
theorem own_ofn {i : Int32} (h0 : ¬ i < 0) : i = Int32.ofNat i.toNatClampNeg := by
  have e0 : (0 : Int32).toInt = 0 := rfl
  have := i.toInt_lt
  rw [Int32.lt_iff_toInt_lt, e0] at h0
  apply Int32.toInt_inj.mp
  rw [Int32.toInt_ofNat_small (by simp only [Int32.toNatClampNeg]; omega)]
  simp only [Int32.toNatClampNeg]; omega
theorem own_fe_in {i s e c r : Int32} (h1 : ¬ i < s) (h2 : i < e) : (if own_fine i s e c = (0 : Int32) then (0 : Int32) else r) = if c < (48 : Int32) then 0 else if (57 : Int32) < c then 0 else r := by
  rw [own_fine, if_neg h1, if_pos h2]
  split
  · rw [if_pos rfl]
  · split
    · rw [if_pos rfl]
    · rw [if_neg (by decide)]
theorem own_fe_out {i s e c r : Int32} (h : i < s ∨ ¬ i < e) : (if own_fine i s e c = (0 : Int32) then (0 : Int32) else r) = r := by
  have : own_fine i s e c = 1 := by
    rw [own_fine]
    rcases h with h | h
    · rw [if_pos h]
    · rw [if_neg h]; split <;> rfl
  rw [this, if_neg (by decide)]
theorem own_le0 {j : Int32} (h0 : ¬ j < 0) (h1 : ¬ (0 : Int32) < j) : j = (0 : Int32) := by
  have e0 : (0 : Int32).toInt = 0 := rfl
  have e1 : (0 : Int32).toInt = 0 := rfl
  rw [Int32.lt_iff_toInt_lt, e0] at h0
  rw [Int32.lt_iff_toInt_lt, e1] at h1
  have e : ∀ k : Int32, j.toInt = k.toInt → j = k := fun k h => Int32.toInt_inj.mp h
  have : j.toInt = 0 := by omega
  exact e _ this
theorem own_f0_0_0 (c0 c1 c2 c3 : Int32) : own_isd ([] : List Int32) (0 : Int32) (0 : Int32) = own_ex (0 : Int32) (0 : Int32) c0 c1 c2 c3 := by
  rw [own_isd, own_ex, if_neg (by decide), if_neg (by decide)]
theorem own_fin0 (s e c0 c1 c2 c3 : Int32) (h1 : ¬ s < 0) (h2 : ¬ (0 : Int32) < s) (h3 : ¬ e < 0) (h4 : ¬ (0 : Int32) < e) : own_isd ([] : List Int32) s e = own_ex s e c0 c1 c2 c3 := by
  rcases own_le0 h1 h2 with rfl <;> rcases own_le0 h3 h4 with rfl
  · exact own_f0_0_0 c0 c1 c2 c3
theorem own_le1 {j : Int32} (h0 : ¬ j < 0) (h1 : ¬ (1 : Int32) < j) : j = (0 : Int32) ∨ j = (1 : Int32) := by
  have e0 : (0 : Int32).toInt = 0 := rfl
  have e1 : (1 : Int32).toInt = 1 := rfl
  rw [Int32.lt_iff_toInt_lt, e0] at h0
  rw [Int32.lt_iff_toInt_lt, e1] at h1
  have e : ∀ k : Int32, j.toInt = k.toInt → j = k := fun k h => Int32.toInt_inj.mp h
  have : j.toInt = 0 ∨ j.toInt = 1 := by omega
  rcases this with h | h
  · exact Or.inl (e _ h)
  · exact Or.inr (e _ h)
theorem own_f1_0_0 (c0 c1 c2 c3 : Int32) : own_isd ([c0] : List Int32) (0 : Int32) (0 : Int32) = own_ex (0 : Int32) (0 : Int32) c0 c1 c2 c3 := by
  rw [own_isd, own_ex, if_neg (by decide), if_neg (by decide)]
theorem own_f1_0_1 (c0 c1 c2 c3 : Int32) : own_isd ([c0] : List Int32) (0 : Int32) (1 : Int32) = own_ex (0 : Int32) (1 : Int32) c0 c1 c2 c3 := by
  rw [own_isd, own_ex, if_pos (by decide), if_pos (by decide), own_fe_in (i := 0) (s := 0) (e := 1) (by decide) (by decide), own_fe_out (i := 1) (s := 0) (e := 1) (by decide), own_fe_out (i := 2) (s := 0) (e := 1) (by decide), own_fe_out (i := 3) (s := 0) (e := 1) (by decide)]
  rfl
theorem own_f1_1_0 (c0 c1 c2 c3 : Int32) : own_isd ([c0] : List Int32) (1 : Int32) (0 : Int32) = own_ex (1 : Int32) (0 : Int32) c0 c1 c2 c3 := by
  rw [own_isd, own_ex, if_neg (by decide), if_neg (by decide)]
theorem own_f1_1_1 (c0 c1 c2 c3 : Int32) : own_isd ([c0] : List Int32) (1 : Int32) (1 : Int32) = own_ex (1 : Int32) (1 : Int32) c0 c1 c2 c3 := by
  rw [own_isd, own_ex, if_neg (by decide), if_neg (by decide)]
theorem own_fin1 (s e c0 c1 c2 c3 : Int32) (h1 : ¬ s < 0) (h2 : ¬ (1 : Int32) < s) (h3 : ¬ e < 0) (h4 : ¬ (1 : Int32) < e) : own_isd ([c0] : List Int32) s e = own_ex s e c0 c1 c2 c3 := by
  rcases own_le1 h1 h2 with rfl | rfl <;> rcases own_le1 h3 h4 with rfl | rfl
  · exact own_f1_0_0 c0 c1 c2 c3
  · exact own_f1_0_1 c0 c1 c2 c3
  · exact own_f1_1_0 c0 c1 c2 c3
  · exact own_f1_1_1 c0 c1 c2 c3
theorem own_le2 {j : Int32} (h0 : ¬ j < 0) (h1 : ¬ (2 : Int32) < j) : j = (0 : Int32) ∨ j = (1 : Int32) ∨ j = (2 : Int32) := by
  have e0 : (0 : Int32).toInt = 0 := rfl
  have e1 : (2 : Int32).toInt = 2 := rfl
  rw [Int32.lt_iff_toInt_lt, e0] at h0
  rw [Int32.lt_iff_toInt_lt, e1] at h1
  have e : ∀ k : Int32, j.toInt = k.toInt → j = k := fun k h => Int32.toInt_inj.mp h
  have : j.toInt = 0 ∨ j.toInt = 1 ∨ j.toInt = 2 := by omega
  rcases this with h | h | h
  · exact Or.inl (e _ h)
  · exact Or.inr (Or.inl (e _ h))
  · exact Or.inr (Or.inr (e _ h))
theorem own_f2_0_0 (c0 c1 c2 c3 : Int32) : own_isd ([c0, c1] : List Int32) (0 : Int32) (0 : Int32) = own_ex (0 : Int32) (0 : Int32) c0 c1 c2 c3 := by
  rw [own_isd, own_ex, if_neg (by decide), if_neg (by decide)]
theorem own_f2_0_1 (c0 c1 c2 c3 : Int32) : own_isd ([c0, c1] : List Int32) (0 : Int32) (1 : Int32) = own_ex (0 : Int32) (1 : Int32) c0 c1 c2 c3 := by
  rw [own_isd, own_ex, if_pos (by decide), if_pos (by decide), own_fe_in (i := 0) (s := 0) (e := 1) (by decide) (by decide), own_fe_out (i := 1) (s := 0) (e := 1) (by decide), own_fe_out (i := 2) (s := 0) (e := 1) (by decide), own_fe_out (i := 3) (s := 0) (e := 1) (by decide)]
  rfl
theorem own_f2_0_2 (c0 c1 c2 c3 : Int32) : own_isd ([c0, c1] : List Int32) (0 : Int32) (2 : Int32) = own_ex (0 : Int32) (2 : Int32) c0 c1 c2 c3 := by
  rw [own_isd, own_ex, if_pos (by decide), if_pos (by decide), own_fe_in (i := 0) (s := 0) (e := 2) (by decide) (by decide), own_fe_in (i := 1) (s := 0) (e := 2) (by decide) (by decide), own_fe_out (i := 2) (s := 0) (e := 2) (by decide), own_fe_out (i := 3) (s := 0) (e := 2) (by decide)]
  rfl
theorem own_f2_1_0 (c0 c1 c2 c3 : Int32) : own_isd ([c0, c1] : List Int32) (1 : Int32) (0 : Int32) = own_ex (1 : Int32) (0 : Int32) c0 c1 c2 c3 := by
  rw [own_isd, own_ex, if_neg (by decide), if_neg (by decide)]
theorem own_f2_1_1 (c0 c1 c2 c3 : Int32) : own_isd ([c0, c1] : List Int32) (1 : Int32) (1 : Int32) = own_ex (1 : Int32) (1 : Int32) c0 c1 c2 c3 := by
  rw [own_isd, own_ex, if_neg (by decide), if_neg (by decide)]
theorem own_f2_1_2 (c0 c1 c2 c3 : Int32) : own_isd ([c0, c1] : List Int32) (1 : Int32) (2 : Int32) = own_ex (1 : Int32) (2 : Int32) c0 c1 c2 c3 := by
  rw [own_isd, own_ex, if_pos (by decide), if_pos (by decide), own_fe_out (i := 0) (s := 1) (e := 2) (by decide), own_fe_in (i := 1) (s := 1) (e := 2) (by decide) (by decide), own_fe_out (i := 2) (s := 1) (e := 2) (by decide), own_fe_out (i := 3) (s := 1) (e := 2) (by decide)]
  rfl
theorem own_f2_2_0 (c0 c1 c2 c3 : Int32) : own_isd ([c0, c1] : List Int32) (2 : Int32) (0 : Int32) = own_ex (2 : Int32) (0 : Int32) c0 c1 c2 c3 := by
  rw [own_isd, own_ex, if_neg (by decide), if_neg (by decide)]
theorem own_f2_2_1 (c0 c1 c2 c3 : Int32) : own_isd ([c0, c1] : List Int32) (2 : Int32) (1 : Int32) = own_ex (2 : Int32) (1 : Int32) c0 c1 c2 c3 := by
  rw [own_isd, own_ex, if_neg (by decide), if_neg (by decide)]
theorem own_f2_2_2 (c0 c1 c2 c3 : Int32) : own_isd ([c0, c1] : List Int32) (2 : Int32) (2 : Int32) = own_ex (2 : Int32) (2 : Int32) c0 c1 c2 c3 := by
  rw [own_isd, own_ex, if_neg (by decide), if_neg (by decide)]
theorem own_fin2 (s e c0 c1 c2 c3 : Int32) (h1 : ¬ s < 0) (h2 : ¬ (2 : Int32) < s) (h3 : ¬ e < 0) (h4 : ¬ (2 : Int32) < e) : own_isd ([c0, c1] : List Int32) s e = own_ex s e c0 c1 c2 c3 := by
  rcases own_le2 h1 h2 with rfl | rfl | rfl <;> rcases own_le2 h3 h4 with rfl | rfl | rfl
  · exact own_f2_0_0 c0 c1 c2 c3
  · exact own_f2_0_1 c0 c1 c2 c3
  · exact own_f2_0_2 c0 c1 c2 c3
  · exact own_f2_1_0 c0 c1 c2 c3
  · exact own_f2_1_1 c0 c1 c2 c3
  · exact own_f2_1_2 c0 c1 c2 c3
  · exact own_f2_2_0 c0 c1 c2 c3
  · exact own_f2_2_1 c0 c1 c2 c3
  · exact own_f2_2_2 c0 c1 c2 c3
theorem own_le3 {j : Int32} (h0 : ¬ j < 0) (h1 : ¬ (3 : Int32) < j) : j = (0 : Int32) ∨ j = (1 : Int32) ∨ j = (2 : Int32) ∨ j = (3 : Int32) := by
  have e0 : (0 : Int32).toInt = 0 := rfl
  have e1 : (3 : Int32).toInt = 3 := rfl
  rw [Int32.lt_iff_toInt_lt, e0] at h0
  rw [Int32.lt_iff_toInt_lt, e1] at h1
  have e : ∀ k : Int32, j.toInt = k.toInt → j = k := fun k h => Int32.toInt_inj.mp h
  have : j.toInt = 0 ∨ j.toInt = 1 ∨ j.toInt = 2 ∨ j.toInt = 3 := by omega
  rcases this with h | h | h | h
  · exact Or.inl (e _ h)
  · exact Or.inr (Or.inl (e _ h))
  · exact Or.inr (Or.inr (Or.inl (e _ h)))
  · exact Or.inr (Or.inr (Or.inr (e _ h)))
theorem own_f3_0_0 (c0 c1 c2 c3 : Int32) : own_isd ([c0, c1, c2] : List Int32) (0 : Int32) (0 : Int32) = own_ex (0 : Int32) (0 : Int32) c0 c1 c2 c3 := by
  rw [own_isd, own_ex, if_neg (by decide), if_neg (by decide)]
theorem own_f3_0_1 (c0 c1 c2 c3 : Int32) : own_isd ([c0, c1, c2] : List Int32) (0 : Int32) (1 : Int32) = own_ex (0 : Int32) (1 : Int32) c0 c1 c2 c3 := by
  rw [own_isd, own_ex, if_pos (by decide), if_pos (by decide), own_fe_in (i := 0) (s := 0) (e := 1) (by decide) (by decide), own_fe_out (i := 1) (s := 0) (e := 1) (by decide), own_fe_out (i := 2) (s := 0) (e := 1) (by decide), own_fe_out (i := 3) (s := 0) (e := 1) (by decide)]
  rfl
theorem own_f3_0_2 (c0 c1 c2 c3 : Int32) : own_isd ([c0, c1, c2] : List Int32) (0 : Int32) (2 : Int32) = own_ex (0 : Int32) (2 : Int32) c0 c1 c2 c3 := by
  rw [own_isd, own_ex, if_pos (by decide), if_pos (by decide), own_fe_in (i := 0) (s := 0) (e := 2) (by decide) (by decide), own_fe_in (i := 1) (s := 0) (e := 2) (by decide) (by decide), own_fe_out (i := 2) (s := 0) (e := 2) (by decide), own_fe_out (i := 3) (s := 0) (e := 2) (by decide)]
  rfl
theorem own_f3_0_3 (c0 c1 c2 c3 : Int32) : own_isd ([c0, c1, c2] : List Int32) (0 : Int32) (3 : Int32) = own_ex (0 : Int32) (3 : Int32) c0 c1 c2 c3 := by
  rw [own_isd, own_ex, if_pos (by decide), if_pos (by decide), own_fe_in (i := 0) (s := 0) (e := 3) (by decide) (by decide), own_fe_in (i := 1) (s := 0) (e := 3) (by decide) (by decide), own_fe_in (i := 2) (s := 0) (e := 3) (by decide) (by decide), own_fe_out (i := 3) (s := 0) (e := 3) (by decide)]
  rfl
theorem own_f3_1_0 (c0 c1 c2 c3 : Int32) : own_isd ([c0, c1, c2] : List Int32) (1 : Int32) (0 : Int32) = own_ex (1 : Int32) (0 : Int32) c0 c1 c2 c3 := by
  rw [own_isd, own_ex, if_neg (by decide), if_neg (by decide)]
theorem own_f3_1_1 (c0 c1 c2 c3 : Int32) : own_isd ([c0, c1, c2] : List Int32) (1 : Int32) (1 : Int32) = own_ex (1 : Int32) (1 : Int32) c0 c1 c2 c3 := by
  rw [own_isd, own_ex, if_neg (by decide), if_neg (by decide)]
theorem own_f3_1_2 (c0 c1 c2 c3 : Int32) : own_isd ([c0, c1, c2] : List Int32) (1 : Int32) (2 : Int32) = own_ex (1 : Int32) (2 : Int32) c0 c1 c2 c3 := by
  rw [own_isd, own_ex, if_pos (by decide), if_pos (by decide), own_fe_out (i := 0) (s := 1) (e := 2) (by decide), own_fe_in (i := 1) (s := 1) (e := 2) (by decide) (by decide), own_fe_out (i := 2) (s := 1) (e := 2) (by decide), own_fe_out (i := 3) (s := 1) (e := 2) (by decide)]
  rfl
theorem own_f3_1_3 (c0 c1 c2 c3 : Int32) : own_isd ([c0, c1, c2] : List Int32) (1 : Int32) (3 : Int32) = own_ex (1 : Int32) (3 : Int32) c0 c1 c2 c3 := by
  rw [own_isd, own_ex, if_pos (by decide), if_pos (by decide), own_fe_out (i := 0) (s := 1) (e := 3) (by decide), own_fe_in (i := 1) (s := 1) (e := 3) (by decide) (by decide), own_fe_in (i := 2) (s := 1) (e := 3) (by decide) (by decide), own_fe_out (i := 3) (s := 1) (e := 3) (by decide)]
  rfl
theorem own_f3_2_0 (c0 c1 c2 c3 : Int32) : own_isd ([c0, c1, c2] : List Int32) (2 : Int32) (0 : Int32) = own_ex (2 : Int32) (0 : Int32) c0 c1 c2 c3 := by
  rw [own_isd, own_ex, if_neg (by decide), if_neg (by decide)]
theorem own_f3_2_1 (c0 c1 c2 c3 : Int32) : own_isd ([c0, c1, c2] : List Int32) (2 : Int32) (1 : Int32) = own_ex (2 : Int32) (1 : Int32) c0 c1 c2 c3 := by
  rw [own_isd, own_ex, if_neg (by decide), if_neg (by decide)]
theorem own_f3_2_2 (c0 c1 c2 c3 : Int32) : own_isd ([c0, c1, c2] : List Int32) (2 : Int32) (2 : Int32) = own_ex (2 : Int32) (2 : Int32) c0 c1 c2 c3 := by
  rw [own_isd, own_ex, if_neg (by decide), if_neg (by decide)]
theorem own_f3_2_3 (c0 c1 c2 c3 : Int32) : own_isd ([c0, c1, c2] : List Int32) (2 : Int32) (3 : Int32) = own_ex (2 : Int32) (3 : Int32) c0 c1 c2 c3 := by
  rw [own_isd, own_ex, if_pos (by decide), if_pos (by decide), own_fe_out (i := 0) (s := 2) (e := 3) (by decide), own_fe_out (i := 1) (s := 2) (e := 3) (by decide), own_fe_in (i := 2) (s := 2) (e := 3) (by decide) (by decide), own_fe_out (i := 3) (s := 2) (e := 3) (by decide)]
  rfl
theorem own_f3_3_0 (c0 c1 c2 c3 : Int32) : own_isd ([c0, c1, c2] : List Int32) (3 : Int32) (0 : Int32) = own_ex (3 : Int32) (0 : Int32) c0 c1 c2 c3 := by
  rw [own_isd, own_ex, if_neg (by decide), if_neg (by decide)]
theorem own_f3_3_1 (c0 c1 c2 c3 : Int32) : own_isd ([c0, c1, c2] : List Int32) (3 : Int32) (1 : Int32) = own_ex (3 : Int32) (1 : Int32) c0 c1 c2 c3 := by
  rw [own_isd, own_ex, if_neg (by decide), if_neg (by decide)]
theorem own_f3_3_2 (c0 c1 c2 c3 : Int32) : own_isd ([c0, c1, c2] : List Int32) (3 : Int32) (2 : Int32) = own_ex (3 : Int32) (2 : Int32) c0 c1 c2 c3 := by
  rw [own_isd, own_ex, if_neg (by decide), if_neg (by decide)]
theorem own_f3_3_3 (c0 c1 c2 c3 : Int32) : own_isd ([c0, c1, c2] : List Int32) (3 : Int32) (3 : Int32) = own_ex (3 : Int32) (3 : Int32) c0 c1 c2 c3 := by
  rw [own_isd, own_ex, if_neg (by decide), if_neg (by decide)]
theorem own_fin3 (s e c0 c1 c2 c3 : Int32) (h1 : ¬ s < 0) (h2 : ¬ (3 : Int32) < s) (h3 : ¬ e < 0) (h4 : ¬ (3 : Int32) < e) : own_isd ([c0, c1, c2] : List Int32) s e = own_ex s e c0 c1 c2 c3 := by
  rcases own_le3 h1 h2 with rfl | rfl | rfl | rfl <;> rcases own_le3 h3 h4 with rfl | rfl | rfl | rfl
  · exact own_f3_0_0 c0 c1 c2 c3
  · exact own_f3_0_1 c0 c1 c2 c3
  · exact own_f3_0_2 c0 c1 c2 c3
  · exact own_f3_0_3 c0 c1 c2 c3
  · exact own_f3_1_0 c0 c1 c2 c3
  · exact own_f3_1_1 c0 c1 c2 c3
  · exact own_f3_1_2 c0 c1 c2 c3
  · exact own_f3_1_3 c0 c1 c2 c3
  · exact own_f3_2_0 c0 c1 c2 c3
  · exact own_f3_2_1 c0 c1 c2 c3
  · exact own_f3_2_2 c0 c1 c2 c3
  · exact own_f3_2_3 c0 c1 c2 c3
  · exact own_f3_3_0 c0 c1 c2 c3
  · exact own_f3_3_1 c0 c1 c2 c3
  · exact own_f3_3_2 c0 c1 c2 c3
  · exact own_f3_3_3 c0 c1 c2 c3
theorem own_le4 {j : Int32} (h0 : ¬ j < 0) (h1 : ¬ (4 : Int32) < j) : j = (0 : Int32) ∨ j = (1 : Int32) ∨ j = (2 : Int32) ∨ j = (3 : Int32) ∨ j = (4 : Int32) := by
  have e0 : (0 : Int32).toInt = 0 := rfl
  have e1 : (4 : Int32).toInt = 4 := rfl
  rw [Int32.lt_iff_toInt_lt, e0] at h0
  rw [Int32.lt_iff_toInt_lt, e1] at h1
  have e : ∀ k : Int32, j.toInt = k.toInt → j = k := fun k h => Int32.toInt_inj.mp h
  have : j.toInt = 0 ∨ j.toInt = 1 ∨ j.toInt = 2 ∨ j.toInt = 3 ∨ j.toInt = 4 := by omega
  rcases this with h | h | h | h | h
  · exact Or.inl (e _ h)
  · exact Or.inr (Or.inl (e _ h))
  · exact Or.inr (Or.inr (Or.inl (e _ h)))
  · exact Or.inr (Or.inr (Or.inr (Or.inl (e _ h))))
  · exact Or.inr (Or.inr (Or.inr (Or.inr (e _ h))))
theorem own_f4_0_0 (c0 c1 c2 c3 : Int32) : own_isd ([c0, c1, c2, c3] : List Int32) (0 : Int32) (0 : Int32) = own_ex (0 : Int32) (0 : Int32) c0 c1 c2 c3 := by
  rw [own_isd, own_ex, if_neg (by decide), if_neg (by decide)]
theorem own_f4_0_1 (c0 c1 c2 c3 : Int32) : own_isd ([c0, c1, c2, c3] : List Int32) (0 : Int32) (1 : Int32) = own_ex (0 : Int32) (1 : Int32) c0 c1 c2 c3 := by
  rw [own_isd, own_ex, if_pos (by decide), if_pos (by decide), own_fe_in (i := 0) (s := 0) (e := 1) (by decide) (by decide), own_fe_out (i := 1) (s := 0) (e := 1) (by decide), own_fe_out (i := 2) (s := 0) (e := 1) (by decide), own_fe_out (i := 3) (s := 0) (e := 1) (by decide)]
  rfl
theorem own_f4_0_2 (c0 c1 c2 c3 : Int32) : own_isd ([c0, c1, c2, c3] : List Int32) (0 : Int32) (2 : Int32) = own_ex (0 : Int32) (2 : Int32) c0 c1 c2 c3 := by
  rw [own_isd, own_ex, if_pos (by decide), if_pos (by decide), own_fe_in (i := 0) (s := 0) (e := 2) (by decide) (by decide), own_fe_in (i := 1) (s := 0) (e := 2) (by decide) (by decide), own_fe_out (i := 2) (s := 0) (e := 2) (by decide), own_fe_out (i := 3) (s := 0) (e := 2) (by decide)]
  rfl
theorem own_f4_0_3 (c0 c1 c2 c3 : Int32) : own_isd ([c0, c1, c2, c3] : List Int32) (0 : Int32) (3 : Int32) = own_ex (0 : Int32) (3 : Int32) c0 c1 c2 c3 := by
  rw [own_isd, own_ex, if_pos (by decide), if_pos (by decide), own_fe_in (i := 0) (s := 0) (e := 3) (by decide) (by decide), own_fe_in (i := 1) (s := 0) (e := 3) (by decide) (by decide), own_fe_in (i := 2) (s := 0) (e := 3) (by decide) (by decide), own_fe_out (i := 3) (s := 0) (e := 3) (by decide)]
  rfl
theorem own_f4_0_4 (c0 c1 c2 c3 : Int32) : own_isd ([c0, c1, c2, c3] : List Int32) (0 : Int32) (4 : Int32) = own_ex (0 : Int32) (4 : Int32) c0 c1 c2 c3 := by
  rw [own_isd, own_ex, if_pos (by decide), if_pos (by decide), own_fe_in (i := 0) (s := 0) (e := 4) (by decide) (by decide), own_fe_in (i := 1) (s := 0) (e := 4) (by decide) (by decide), own_fe_in (i := 2) (s := 0) (e := 4) (by decide) (by decide), own_fe_in (i := 3) (s := 0) (e := 4) (by decide) (by decide)]
  rfl
theorem own_f4_1_0 (c0 c1 c2 c3 : Int32) : own_isd ([c0, c1, c2, c3] : List Int32) (1 : Int32) (0 : Int32) = own_ex (1 : Int32) (0 : Int32) c0 c1 c2 c3 := by
  rw [own_isd, own_ex, if_neg (by decide), if_neg (by decide)]
theorem own_f4_1_1 (c0 c1 c2 c3 : Int32) : own_isd ([c0, c1, c2, c3] : List Int32) (1 : Int32) (1 : Int32) = own_ex (1 : Int32) (1 : Int32) c0 c1 c2 c3 := by
  rw [own_isd, own_ex, if_neg (by decide), if_neg (by decide)]
theorem own_f4_1_2 (c0 c1 c2 c3 : Int32) : own_isd ([c0, c1, c2, c3] : List Int32) (1 : Int32) (2 : Int32) = own_ex (1 : Int32) (2 : Int32) c0 c1 c2 c3 := by
  rw [own_isd, own_ex, if_pos (by decide), if_pos (by decide), own_fe_out (i := 0) (s := 1) (e := 2) (by decide), own_fe_in (i := 1) (s := 1) (e := 2) (by decide) (by decide), own_fe_out (i := 2) (s := 1) (e := 2) (by decide), own_fe_out (i := 3) (s := 1) (e := 2) (by decide)]
  rfl
theorem own_f4_1_3 (c0 c1 c2 c3 : Int32) : own_isd ([c0, c1, c2, c3] : List Int32) (1 : Int32) (3 : Int32) = own_ex (1 : Int32) (3 : Int32) c0 c1 c2 c3 := by
  rw [own_isd, own_ex, if_pos (by decide), if_pos (by decide), own_fe_out (i := 0) (s := 1) (e := 3) (by decide), own_fe_in (i := 1) (s := 1) (e := 3) (by decide) (by decide), own_fe_in (i := 2) (s := 1) (e := 3) (by decide) (by decide), own_fe_out (i := 3) (s := 1) (e := 3) (by decide)]
  rfl
theorem own_f4_1_4 (c0 c1 c2 c3 : Int32) : own_isd ([c0, c1, c2, c3] : List Int32) (1 : Int32) (4 : Int32) = own_ex (1 : Int32) (4 : Int32) c0 c1 c2 c3 := by
  rw [own_isd, own_ex, if_pos (by decide), if_pos (by decide), own_fe_out (i := 0) (s := 1) (e := 4) (by decide), own_fe_in (i := 1) (s := 1) (e := 4) (by decide) (by decide), own_fe_in (i := 2) (s := 1) (e := 4) (by decide) (by decide), own_fe_in (i := 3) (s := 1) (e := 4) (by decide) (by decide)]
  rfl
theorem own_f4_2_0 (c0 c1 c2 c3 : Int32) : own_isd ([c0, c1, c2, c3] : List Int32) (2 : Int32) (0 : Int32) = own_ex (2 : Int32) (0 : Int32) c0 c1 c2 c3 := by
  rw [own_isd, own_ex, if_neg (by decide), if_neg (by decide)]
theorem own_f4_2_1 (c0 c1 c2 c3 : Int32) : own_isd ([c0, c1, c2, c3] : List Int32) (2 : Int32) (1 : Int32) = own_ex (2 : Int32) (1 : Int32) c0 c1 c2 c3 := by
  rw [own_isd, own_ex, if_neg (by decide), if_neg (by decide)]
theorem own_f4_2_2 (c0 c1 c2 c3 : Int32) : own_isd ([c0, c1, c2, c3] : List Int32) (2 : Int32) (2 : Int32) = own_ex (2 : Int32) (2 : Int32) c0 c1 c2 c3 := by
  rw [own_isd, own_ex, if_neg (by decide), if_neg (by decide)]
theorem own_f4_2_3 (c0 c1 c2 c3 : Int32) : own_isd ([c0, c1, c2, c3] : List Int32) (2 : Int32) (3 : Int32) = own_ex (2 : Int32) (3 : Int32) c0 c1 c2 c3 := by
  rw [own_isd, own_ex, if_pos (by decide), if_pos (by decide), own_fe_out (i := 0) (s := 2) (e := 3) (by decide), own_fe_out (i := 1) (s := 2) (e := 3) (by decide), own_fe_in (i := 2) (s := 2) (e := 3) (by decide) (by decide), own_fe_out (i := 3) (s := 2) (e := 3) (by decide)]
  rfl
theorem own_f4_2_4 (c0 c1 c2 c3 : Int32) : own_isd ([c0, c1, c2, c3] : List Int32) (2 : Int32) (4 : Int32) = own_ex (2 : Int32) (4 : Int32) c0 c1 c2 c3 := by
  rw [own_isd, own_ex, if_pos (by decide), if_pos (by decide), own_fe_out (i := 0) (s := 2) (e := 4) (by decide), own_fe_out (i := 1) (s := 2) (e := 4) (by decide), own_fe_in (i := 2) (s := 2) (e := 4) (by decide) (by decide), own_fe_in (i := 3) (s := 2) (e := 4) (by decide) (by decide)]
  rfl
theorem own_f4_3_0 (c0 c1 c2 c3 : Int32) : own_isd ([c0, c1, c2, c3] : List Int32) (3 : Int32) (0 : Int32) = own_ex (3 : Int32) (0 : Int32) c0 c1 c2 c3 := by
  rw [own_isd, own_ex, if_neg (by decide), if_neg (by decide)]
theorem own_f4_3_1 (c0 c1 c2 c3 : Int32) : own_isd ([c0, c1, c2, c3] : List Int32) (3 : Int32) (1 : Int32) = own_ex (3 : Int32) (1 : Int32) c0 c1 c2 c3 := by
  rw [own_isd, own_ex, if_neg (by decide), if_neg (by decide)]
theorem own_f4_3_2 (c0 c1 c2 c3 : Int32) : own_isd ([c0, c1, c2, c3] : List Int32) (3 : Int32) (2 : Int32) = own_ex (3 : Int32) (2 : Int32) c0 c1 c2 c3 := by
  rw [own_isd, own_ex, if_neg (by decide), if_neg (by decide)]
theorem own_f4_3_3 (c0 c1 c2 c3 : Int32) : own_isd ([c0, c1, c2, c3] : List Int32) (3 : Int32) (3 : Int32) = own_ex (3 : Int32) (3 : Int32) c0 c1 c2 c3 := by
  rw [own_isd, own_ex, if_neg (by decide), if_neg (by decide)]
theorem own_f4_3_4 (c0 c1 c2 c3 : Int32) : own_isd ([c0, c1, c2, c3] : List Int32) (3 : Int32) (4 : Int32) = own_ex (3 : Int32) (4 : Int32) c0 c1 c2 c3 := by
  rw [own_isd, own_ex, if_pos (by decide), if_pos (by decide), own_fe_out (i := 0) (s := 3) (e := 4) (by decide), own_fe_out (i := 1) (s := 3) (e := 4) (by decide), own_fe_out (i := 2) (s := 3) (e := 4) (by decide), own_fe_in (i := 3) (s := 3) (e := 4) (by decide) (by decide)]
  rfl
theorem own_f4_4_0 (c0 c1 c2 c3 : Int32) : own_isd ([c0, c1, c2, c3] : List Int32) (4 : Int32) (0 : Int32) = own_ex (4 : Int32) (0 : Int32) c0 c1 c2 c3 := by
  rw [own_isd, own_ex, if_neg (by decide), if_neg (by decide)]
theorem own_f4_4_1 (c0 c1 c2 c3 : Int32) : own_isd ([c0, c1, c2, c3] : List Int32) (4 : Int32) (1 : Int32) = own_ex (4 : Int32) (1 : Int32) c0 c1 c2 c3 := by
  rw [own_isd, own_ex, if_neg (by decide), if_neg (by decide)]
theorem own_f4_4_2 (c0 c1 c2 c3 : Int32) : own_isd ([c0, c1, c2, c3] : List Int32) (4 : Int32) (2 : Int32) = own_ex (4 : Int32) (2 : Int32) c0 c1 c2 c3 := by
  rw [own_isd, own_ex, if_neg (by decide), if_neg (by decide)]
theorem own_f4_4_3 (c0 c1 c2 c3 : Int32) : own_isd ([c0, c1, c2, c3] : List Int32) (4 : Int32) (3 : Int32) = own_ex (4 : Int32) (3 : Int32) c0 c1 c2 c3 := by
  rw [own_isd, own_ex, if_neg (by decide), if_neg (by decide)]
theorem own_f4_4_4 (c0 c1 c2 c3 : Int32) : own_isd ([c0, c1, c2, c3] : List Int32) (4 : Int32) (4 : Int32) = own_ex (4 : Int32) (4 : Int32) c0 c1 c2 c3 := by
  rw [own_isd, own_ex, if_neg (by decide), if_neg (by decide)]
theorem own_fin4 (s e c0 c1 c2 c3 : Int32) (h1 : ¬ s < 0) (h2 : ¬ (4 : Int32) < s) (h3 : ¬ e < 0) (h4 : ¬ (4 : Int32) < e) : own_isd ([c0, c1, c2, c3] : List Int32) s e = own_ex s e c0 c1 c2 c3 := by
  rcases own_le4 h1 h2 with rfl | rfl | rfl | rfl | rfl <;> rcases own_le4 h3 h4 with rfl | rfl | rfl | rfl | rfl
  · exact own_f4_0_0 c0 c1 c2 c3
  · exact own_f4_0_1 c0 c1 c2 c3
  · exact own_f4_0_2 c0 c1 c2 c3
  · exact own_f4_0_3 c0 c1 c2 c3
  · exact own_f4_0_4 c0 c1 c2 c3
  · exact own_f4_1_0 c0 c1 c2 c3
  · exact own_f4_1_1 c0 c1 c2 c3
  · exact own_f4_1_2 c0 c1 c2 c3
  · exact own_f4_1_3 c0 c1 c2 c3
  · exact own_f4_1_4 c0 c1 c2 c3
  · exact own_f4_2_0 c0 c1 c2 c3
  · exact own_f4_2_1 c0 c1 c2 c3
  · exact own_f4_2_2 c0 c1 c2 c3
  · exact own_f4_2_3 c0 c1 c2 c3
  · exact own_f4_2_4 c0 c1 c2 c3
  · exact own_f4_3_0 c0 c1 c2 c3
  · exact own_f4_3_1 c0 c1 c2 c3
  · exact own_f4_3_2 c0 c1 c2 c3
  · exact own_f4_3_3 c0 c1 c2 c3
  · exact own_f4_3_4 c0 c1 c2 c3
  · exact own_f4_4_0 c0 c1 c2 c3
  · exact own_f4_4_1 c0 c1 c2 c3
  · exact own_f4_4_2 c0 c1 c2 c3
  · exact own_f4_4_3 c0 c1 c2 c3
  · exact own_f4_4_4 c0 c1 c2 c3
theorem ef0 (m : MethodId) (x0 : Int32) (x1 : Int32) (x2 : Int32) (x3 : Int32) (x4 : Int32) : entryFrame m #[.int x0, .int x1, .int x2, .int x3, .int x4] maxLocals = mkF m 0 #[.val (.int x0), .val (.int x1), .val (.int x2), .val (.int x3), .val (.int x4), .unset, .unset, .unset, .unset, .unset, .unset, .unset, .unset, .unset] [] := by first | (simp [entryFrame, mkF, argsToLocals, Value.category, maxLocals]; done) | rfl
theorem pn0 : plainName "com/example/backstop/backstop/WholeNumbersIsDigitsPinLaw" = true := by first | (simp [plainName, overriddenIn]; done) | decide +kernel
theorem ef1 (m : MethodId) (x0 : Int32) (x1 : Int32) (x2 : Int32) (x3 : Int32) (x4 : Int32) : entryFrame m #[.int x0, .int x1, .int x2, .int x3, .int x4] 5 = mkF m 0 #[.val (.int x0), .val (.int x1), .val (.int x2), .val (.int x3), .val (.int x4)] [] := by first | (simp [entryFrame, mkF, argsToLocals, Value.category]; done) | rfl
theorem d0_0 : decode method_4_code 0 = .ok (.iload_n 0, 1) := by decide +kernel
theorem d0_1 : decode method_4_code 1 = .ok (.ifCond .ne 7, 3) := by decide +kernel
theorem d0_4 : decode method_4_code 4 = .ok (.iconst 0, 1) := by decide +kernel
theorem d0_5 : decode method_4_code 5 = .ok (.newarray .char, 2) := by decide +kernel
theorem d0_7 : decode method_4_code 7 = .ok (.areturn, 1) := by decide +kernel
-- com/example/backstop/backstop/WholeNumbersIsDigitsPinLaw.chars(ICCCC)[C
def Q1 (Z : State)  (h0 : Heap) (n0 : Nat) (v : Option Value) (h : Heap) (L : List Loc) : Prop := ∃ b2 : Addr, ∃ c2 : ClassId, v = some (.ref b2) ∧ Fr n0 L ∧ Keep h0 h [] ∧ h0.size ≤ b2 ∧ Arv Z h b2 c2 .char (0 : Int32) [] (.int 0)
theorem rm1 (l : Launch) (Z : State) (a0 : Array Value) (hw : HW a0 Z) (qi1 : Int32) (qi2 : Int32) (qi3 : Int32) (qi4 : Int32) (qi5 : Int32) (h0 : Heap) (n0 : Nat) (X00 : Old Z n0 h0) (hc1 : qi1 = (0 : Int32)) :
    MF l Z Y0_ method_4_code 5 (some (.array .char)) (Rm 0 1 0 0) #[.int qi1, .int qi2, .int qi3, .int qi4, .int qi5] h0 (Q1 Z  h0 n0) := by
 refine own_sF pn0 rfl (fun m => ef1 m qi1 qi2 qi3 qi4 qi5) ?_
 intro p e s m below meth c s₁ Bd hZ hh hx hby hml hown hnm X0 e0 pre0
 have N0 := Fr.nil n0
 obtain ⟨T2, h2, c2, X2, e2, E2, A2, st2⟩ := newP (aty := .char) X0 hx hZ (w8_ hw) e0 (g := (mkF m 5 #[iv qi1, iv qi2, iv qi3, iv qi4, iv qi5] [.int 0])) rfl (hb hby d0_5) rfl (by decide) (cap := 0) (by decide) (lE rfl) (lE rfl) (lE rfl)
 obtain ⟨b2, g2⟩ : ∃ z, z = h0.size := ⟨_, rfl⟩
 rw [← g2] at A2 st2
 replace X2 : Stand p l e (Rm 0 1 0 0) s m #[.int qi1, .int qi2, .int qi3, .int qi4, .int qi5] below meth c T2 _ 1 0 := X2
 have K3 := (Keep.refl h0 []).ext E2
 have A4_ : Arv Z h2 b2 c2 .char (0 : Int32) [] (.int 0) := (Arv.new A2 (by decide)).pad (pad_rep [] (.int 0) 0)
 have sz_b2 : h0.size ≤ b2 := (Nat.le_of_eq g2.symm)
 refine own_lvF X2 Bd (.ref b2) e2 ⟨b2, c2, rfl, N0, K3, sz_b2, A4_⟩ rfl (fun fs hr => pre0 _ (by
  show Sx p e below s₁ m 0 #[iv qi1, iv qi2, iv qi3, iv qi4, iv qi5] [] _
  refine zj X0 Bd d0_0 rfl ?_
  refine zo X0 Bd d0_1 (XT.i0_ne_f (hc1 : qi1 = (0 : Int32))) ?_
  refine zc X0 Bd d0_4 ?_
  refine st2 _ ?_
  exact retOut X2 hx Bd.returns rfl (Or.inr (Or.inr (Or.inr (Or.inr ⟨rfl, rfl, rfl⟩)))) (hb hby d0_7) hr))
theorem pd0 : parseMethodDescriptor "(ICCCC)[C" = some ⟨[.int, .char, .char, .char, .char], some (.array .char)⟩ := by decide +kernel
theorem ef2 (m : MethodId) (x0 : Addr) (x1 : Addr) : entryFrame m #[.ref x0, .ref x1] 2 = mkF m 0 #[.val (.ref x0), .val (.ref x1)] [] := by first | (simp [entryFrame, mkF, argsToLocals, Value.category]; done) | rfl
theorem pn1 : plainName "java/lang/String" = true := by first | (simp [plainName, overriddenIn]; done) | decide +kernel
theorem d1_0 : decode jdk_42_method_3_code 0 = .ok (.aload_n 0, 1) := by decide +kernel
theorem d1_1 : decode jdk_42_method_3_code 1 = .ok (.aload_n 1, 1) := by decide +kernel
theorem d1_2 : decode jdk_42_method_3_code 2 = .ok (.iconst 0, 1) := by decide +kernel
theorem d1_3 : decode jdk_42_method_3_code 3 = .ok (.aload_n 1, 1) := by decide +kernel
theorem d1_4 : decode jdk_42_method_3_code 4 = .ok (.arraylength, 1) := by decide +kernel
theorem d1_5 : decode jdk_42_method_3_code 5 = .ok (.aconst_null, 1) := by decide +kernel
theorem d1_6 : decode jdk_42_method_3_code 6 = .ok (.invokespecial 27, 3) := by decide +kernel
theorem ef3 (m : MethodId) (x0 : Addr) (x1 : Addr) (x2 : Int32) (x3 : Int32) : entryFrame m #[.ref x0, .ref x1, .int x2, .int x3, .null] 6 = mkF m 0 #[.val (.ref x0), .val (.ref x1), .val (.int x2), .val (.int x3), .val .null, .unset] [] := by first | (simp [entryFrame, mkF, argsToLocals, Value.category]; done) | rfl
theorem d2_0 : decode jdk_42_method_149_code 0 = .ok (.aload_n 0, 1) := by decide +kernel
theorem d2_1 : decode jdk_42_method_149_code 1 = .ok (.invokespecial 1, 3) := by decide +kernel
theorem d2_4 : decode jdk_42_method_149_code 4 = .ok (.iload_n 3, 1) := by decide +kernel
theorem d2_5 : decode jdk_42_method_149_code 5 = .ok (.ifCond .ne 22, 3) := by decide +kernel
theorem d2_8 : decode jdk_42_method_149_code 8 = .ok (.aload_n 0, 1) := by decide +kernel
theorem d2_9 : decode jdk_42_method_149_code 9 = .ok (.ldc 7, 2) := by decide +kernel
theorem d2_11 : decode jdk_42_method_149_code 11 = .ok (.getfield 9, 3) := by decide +kernel
theorem d2_14 : decode jdk_42_method_149_code 14 = .ok (.putfield 9, 3) := by decide +kernel
theorem d2_17 : decode jdk_42_method_149_code 17 = .ok (.aload_n 0, 1) := by decide +kernel
theorem d2_18 : decode jdk_42_method_149_code 18 = .ok (.ldc 7, 2) := by decide +kernel
theorem d2_20 : decode jdk_42_method_149_code 20 = .ok (.getfield 15, 3) := by decide +kernel
theorem d2_23 : decode jdk_42_method_149_code 23 = .ok (.putfield 15, 3) := by decide +kernel
theorem d2_26 : decode jdk_42_method_149_code 26 = .ok (.return_, 1) := by decide +kernel
-- java/lang/String.<init>([CIILjava/lang/Void;)V
def Q2 (Z : State) (qa1 : Addr) (h0 : Heap) (n0 : Nat) (v : Option Value) (h : Heap) (L : List Loc) : Prop := ∃ t2 : Addr, ∃ c2 : ClassId, v = none ∧ Fr n0 L ∧ Keep h0 h [qa1] ∧ Exa Z h qa1 "java/lang/String" ∧ Fld Z h qa1 "java/lang/String" "value" "[B" (.ref t2) ∧ Fld Z h qa1 "java/lang/String" "coder" "B" (.int 0) ∧ Arv Z h t2 c2 .byte (0 : Int32) [] (.int 0)
theorem rm2 (l : Launch) (Z : State) (a0 : Array Value) (hw : HW a0 Z) (qa1 : Addr) (qa2 : Addr) (h0 : Heap) (n0 : Nat) (X00 : Old Z n0 h0) (E_qa1 : Exa Z h0 qa1 "java/lang/String") (F_qa1_value : Fld Z h0 qa1 "java/lang/String" "value" "[B" .null) (g_qa1 : n0 ≤ qa1) (F_qa1_coder : Fld Z h0 qa1 "java/lang/String" "coder" "B" (.int 0)) :
    MW l Z consts_1 Y1_ jdk_42_method_149_code 6 none (Rm 1 4 8 12) #[.ref qa1, .ref qa2, .int 0, .int 0, .null] h0 (Q2 Z qa1 h0 n0) := by
 refine own_sW pn1 rfl (fun m => ef3 m qa1 qa2 (0 : Int32) (0 : Int32)) ?_
 intro p e s m below meth c s₁ Bd hZ hh hx hby hml hown hnm X0 e0 pre0 hC0 hS0 hk0 hR0
 have N0 := Fr.nil n0
 have hEL := own_EW hw
 have hwS := own_wS hw
 obtain ⟨T1, X1, e1, st1⟩ := initO X0 hx hZ hown (w16_ hw) (w17_ hw) (w18_ hw) e0 (g := (mkF m 1 #[rv qa1, rv qa2, iv 0, iv 0, .val .null, .unset] [.ref qa1])) rfl hml.symm rfl (hb hby d2_1) (by decide) (W := 0) (own_hw rfl) (lE rfl)
 obtain ⟨b2, T2, h2, k2, t2, c2, X2, e2, E2, hS2, hk2, hZ2, ho2, Ex2, Fc2, Fv2, Av2, lb2, lt2, CR2, -, sf2, st2⟩ := ldcCH (text := "") (EL := consts_1) X1 hx hZ hown (w39_ hw) hwS e1 hS0 hk0 hEL (by decide) hC0 (vs := []) (z := (0 : Int32)) ⟨by decide, by decide⟩ (by decide) (by decide) (g := (mkF m 9 #[rv qa1, rv qa2, iv 0, iv 0, .val .null, .unset] [.ref qa1])) rfl (hb hby d2_9) (n := 0) (by decide) (lE rfl) (lE rfl) (lE rfl)
 have K3 := (Keep.refl h0 [qa1]).ext E2
 have R5 := hR0.trans CR2
 replace X2 : Stand p l e (Rm 1 4 8 12) (s.setVm T2.vm) m #[.ref qa1, .ref qa2, .int 0, .int 0, .null] below meth c T2 _ 2 4 := X2
 obtain ⟨T6, X6, e6, st6⟩ := getF X2 hx hZ2 ho2 (host := "") (Or.inl (w33_ hw)) Via.refl e2 Fv2 (g := (mkF m 11 #[rv qa1, rv qa2, iv 0, iv 0, .val .null, .unset] [.ref b2, .ref qa1])) rfl rfl (hb hby d2_11)
 have F7_ := F_qa1_value.ext E2
 have E8_ := E_qa1.ext E2
 obtain ⟨T9, h9, X9, e9, W9, st9⟩ := putF X6 hx hZ2 ho2 (host := "") (Or.inl (w33_ hw)) Via.refl e6 F7_ E8_ (Or.inr ⟨(w34_ hw), rfl, hnm⟩) (w2_ hw) (ty := (.array .byte)) (by decide) rfl rfl (g := (mkF m 14 #[rv qa1, rv qa2, iv 0, iv 0, .val .null, .unset] [.ref t2, .ref qa1])) rfl rfl (hb hby d2_14)
 have N9 := Fr.snoc X9 N0 g_qa1
 have K10 := K3.wr W9 (Or.inl (mI 0 rfl))
 have f12 : Safe Z consts_1 T2.vm h2 qa1 := CR2.safe E_qa1.lt (own_safe_null hZ.alike E_qa1 F_qa1_value)
 have C11 : CHv Z consts_1 T2.vm h9 := CHv.wr W9 f12 CR2.1
 have R13 : CHr Z consts_1 s.vm h0 T2.vm h9 := R5.trans (CHr.wr W9 f12 CR2.1)
 have F14_ : Fld Z h9 qa1 "java/lang/String" "value" "[B" (.ref t2) := F7_.same W9
 have hk16' : _ ≤ h9.size := (Nat.le_trans hk2 (Nat.le_of_eq W9.size.symm))
 obtain ⟨b15, T15, h15, k15, t15, c15, X15, e15, E15, hS15, hk15, hZ15, ho15, Ex15, Fc15, Fv15, Av15, lb15, lt15, CR15, -, sf15, st15⟩ := ldcCH (text := "") (EL := consts_1) X9 hx hZ2 ho2 (w39_ hw) hwS e9 hS2 hk16' hEL (by decide) C11 (vs := []) (z := (0 : Int32)) ⟨by decide, by decide⟩ (by decide) (by decide) (g := (mkF m 18 #[rv qa1, rv qa2, iv 0, iv 0, .val .null, .unset] [.ref qa1])) rfl (hb hby d2_18) (n := 0) (by decide) (lE rfl) (lE rfl) (lE rfl)
 have K17 := K10.ext E15
 have R19 := R13.trans CR15
 replace X15 : Stand p l e (Rm 1 4 8 12) (s.setVm T15.vm) m #[.ref qa1, .ref qa2, .int 0, .int 0, .null] below meth c T15 _ 4 8 := X15
 obtain ⟨T20, X20, e20, st20⟩ := getF X15 hx hZ15 ho15 (host := "") (Or.inl (w31_ hw)) Via.refl e15 Fc15 (g := (mkF m 20 #[rv qa1, rv qa2, iv 0, iv 0, .val .null, .unset] [.ref b15, .ref qa1])) rfl rfl (hb hby d2_20)
 have F21_ := F_qa1_coder.ext E2
 have F22_ := F21_.other W9 (Or.inr (slot_ne (Or.inr (w32_ hw)) (Or.inr (w34_ hw)) (by decide) (t := .byte) (t' := (.array .byte)) (by decide) (by decide)))
 have F23_ := F22_.ext E15
 have E24_ := E8_.wr W9
 have E25_ := E24_.ext E15
 obtain ⟨T26, h26, X26, e26, W26, st26⟩ := putF X20 hx hZ15 ho15 (host := "") (Or.inl (w31_ hw)) Via.refl e20 F23_ E25_ (Or.inr ⟨(w32_ hw), rfl, hnm⟩) (w2_ hw) (ty := .byte) (by decide) rfl rfl (g := (mkF m 23 #[rv qa1, rv qa2, iv 0, iv 0, .val .null, .unset] [.int 0, .ref qa1])) rfl rfl (hb hby d2_23)
 have N26 := Fr.snoc X26 N9 g_qa1
 have K27 := K17.wr W26 (Or.inl (mI 0 rfl))
 have f29 : Safe Z consts_1 T2.vm h9 qa1 := Safe.wr W9 f12 CR2.1 f12
 have f30 : Safe Z consts_1 T15.vm h15 qa1 := CR15.safe (Nat.lt_of_lt_of_le E_qa1.lt (Nat.le_trans E2.1 (Nat.le_of_eq W9.size.symm))) f29
 have C28 : CHv Z consts_1 T15.vm h26 := CHv.wr W26 f30 CR15.1
 have R31 : CHr Z consts_1 s.vm h0 T15.vm h26 := R19.trans (CHr.wr W26 f30 CR15.1)
 have F32_ : Fld Z h26 qa1 "java/lang/String" "coder" "B" (.int 0) := F23_.same W26
 have E33_ := E25_.wr W26
 have F34_ := F14_.ext E15
 have F35_ := F34_.other W26 (Or.inr (slot_ne (Or.inr (w34_ hw)) (Or.inr (w32_ hw)) (by decide) (t := (.array .byte)) (t' := .byte) (by decide) (by decide)))
 have A36_ := Av2.other W9 (Ne.symm (sf2 qa1 f12).2)
 have A37_ := A36_.ext E15
 have A38_ := A37_.other W26 (Ne.symm (sf2 qa1 f12).2)
 have hk39' : _ ≤ h26.size := (Nat.le_trans hk15 (Nat.le_of_eq W26.size.symm))
 refine own_lvW X26 Bd.notSynchronized hS15 hk39' (v := none) (fun _ => rfl) e26 hh ⟨t2, c2, rfl, N26, K27, E33_, F35_, F32_, A38_⟩ (R31.trans (CHv.at X26 hZ15 hEL C28)) (lE rfl) (lE rfl) (fun fs hr => pre0 _ (by
  show Sx p e below s₁ m 0 #[rv qa1, rv qa2, iv 0, iv 0, .val .null, .unset] [] _
  refine zb X0 Bd d2_0 rfl rfl ?_
  refine st1 _ ?_
  refine zj X1 Bd d2_4 rfl ?_
  refine zo X1 Bd d2_5 (XT.i0_ne_f ((by decide) : (0 : Int32) = (0 : Int32))) ?_
  refine zb X1 Bd d2_8 rfl rfl ?_
  refine st2 _ ?_
  refine st6 _ ?_
  refine st9 _ ?_
  refine zb X9 Bd d2_17 rfl rfl ?_
  refine st15 _ ?_
  refine st20 _ ?_
  refine st26 _ ?_
  exact X26.returnOut hx Bd.returns (hb hby d2_26) hr))
theorem pd1 : parseMethodDescriptor "([CIILjava/lang/Void;)V" = some ⟨[(.array .char), .int, .int, (.object "java/lang/Void")], none⟩ := by decide +kernel
theorem d1_9 : decode jdk_42_method_3_code 9 = .ok (.return_, 1) := by decide +kernel
-- java/lang/String.<init>([C)V
def Q3 (Z : State) (qa1 : Addr) (h0 : Heap) (n0 : Nat) (v : Option Value) (h : Heap) (L : List Loc) : Prop := ∃ b3 : Addr, ∃ c4_ : ClassId, v = none ∧ Fr n0 L ∧ Keep h0 h [qa1] ∧ Exa Z h qa1 "java/lang/String" ∧ Fld Z h qa1 "java/lang/String" "value" "[B" (.ref b3) ∧ Fld Z h qa1 "java/lang/String" "coder" "B" (.int 0) ∧ Arv Z h b3 c4_ .byte (0 : Int32) [] (.int 0)
theorem rm3 (l : Launch) (Z : State) (a0 : Array Value) (hw : HW a0 Z) (qa1 : Addr) (qa2 : Addr) (qk3 : ClassId) (h0 : Heap) (n0 : Nat) (X00 : Old Z n0 h0) (A_qa2 : Arv Z h0 qa2 qk3 .char (0 : Int32) [] (.int 0)) (E_qa1 : Exa Z h0 qa1 "java/lang/String") (F_qa1_value : Fld Z h0 qa1 "java/lang/String" "value" "[B" .null) (g_qa1 : n0 ≤ qa1) (F_qa1_coder : Fld Z h0 qa1 "java/lang/String" "coder" "B" (.int 0)) :
    MW l Z consts_1 Y2_ jdk_42_method_3_code 2 none (Rm 2 4 8 29) #[.ref qa1, .ref qa2] h0 (Q3 Z qa1 h0 n0) := by
 refine own_sW pn1 rfl (fun m => ef2 m qa1 qa2) ?_
 intro p e s m below meth c s₁ Bd hZ hh hx hby hml hown hnm X0 e0 pre0 hC0 hS0 hk0 hR0
 have N0 := Fr.nil n0
 have hEL := own_EW hw
 have hwS := own_wS hw
 have av1 := A_qa2
 obtain ⟨cl1, Ar1, q1, S1, N1, H1, Gf1⟩ := av1
 obtain ⟨_, T2, L2, X2, hQ2, hS2, hZ2, ho2, CR2, st2⟩ := own_cbS 0 0 4 8 4 8 (X0.specialBackS hx (y := Y1_) rfl hown (mvT hZ (w12_ hw)) (mvT hZ (w13_ hw)) (mvT hZ (w15_ hw)) (by decide) (backOfSH (W := 0) (EL := consts_1) (s := s) (rm2 l Z a0 hw  qa1 qa2 h0 n0 X00 E_qa1 F_qa1_value g_qa1 F_qa1_coder) hZ (w15_ hw) (w3_ hw) (lE rfl) (lE rfl) hEL hC0) (g := (mkF m 6 #[rv qa1, rv qa2] [.null, .int 0, .int 0, .ref qa2, .ref qa1])) rfl hml.symm (Steps.refl _) (a := qa1) (argsL := [.ref qa2, .int 0, .int 0, .null]) (rest := []) (lenOf pd1 rfl) rfl (own_hw rfl) (hb hby d1_6) (fun _ _ => ⟨rfl, e0, (lE rfl : 0 + 4 ≤ _), (lE rfl : 0 + 8 ≤ _)⟩)) rfl rfl hS0 (by rw [e0]; exact hk0) hZ hown
 obtain ⟨b3, c4_, rfl, N2q, K2q, w5, w6, w7, w8⟩ := hQ2
 have N2 := Fr.app N0 N2q
 have hk2 : T2.heap.size ≤ T2.heap.size := Nat.le_refl _
 have K9 := (Keep.refl h0 [qa1]).trans K2q (allS (Or.inl (mI 0 rfl)) all0)
 have R11 := hR0.trans CR2
 have E12_ := E_qa1.keep K2q
 refine own_lvW X2 Bd.notSynchronized hS2 hk2 (v := none) (fun _ => rfl) rfl hh ⟨b3, c4_, rfl, N2, K9, E12_, w6, w7, w8⟩ (R11.trans (CHv.at X2 hZ2 hEL CR2.1)) (lE rfl) (lE rfl) (fun fs hr => pre0 _ (by
  show Sx p e below s₁ m 0 #[rv qa1, rv qa2] [] _
  refine zb X0 Bd d1_0 rfl rfl ?_
  refine zb X0 Bd d1_1 rfl rfl ?_
  refine zc X0 Bd d1_2 ?_
  refine zb X0 Bd d1_3 rfl rfl ?_
  refine X0.arraylength hx (by rw [e0]; exact Ar1.1) (State.isArrayOf_alike hZ.alike Ar1.2.1) (g := (mkF m 4 #[rv qa1, rv qa2] [.ref qa2, .int 0, .ref qa2, .ref qa1])) rfl rfl (hb hby d1_4) _ ?_
  rw [len_of S1 N1]
  refine XS.aconstNull X0.here hx rfl (hb hby d1_5) ?_
  refine st2.trans ?_
  exact X2.returnOut hx Bd.returns (hb hby d1_9) hr))
theorem pd2 : parseMethodDescriptor "([C)V" = some ⟨[(.array .char)], none⟩ := by decide +kernel
theorem ef4 (m : MethodId) (x0 : Int32) (x1 : Int32) (x2 : Int32) (x3 : Int32) : entryFrame m #[.int x0, .int x1, .int x2, .int x3] 4 = mkF m 0 #[.val (.int x0), .val (.int x1), .val (.int x2), .val (.int x3)] [] := by first | (simp [entryFrame, mkF, argsToLocals, Value.category]; done) | rfl
theorem d3_0 : decode method_3_code 0 = .ok (.iload_n 0, 1) := by decide +kernel
theorem d3_1 : decode method_3_code 1 = .ok (.iload_n 1, 1) := by decide +kernel
theorem d3_2 : decode method_3_code 2 = .ok (.if_icmp .lt 20, 3) := by decide +kernel
theorem d3_22 : decode method_3_code 22 = .ok (.iconst 1, 1) := by decide +kernel
theorem d3_23 : decode method_3_code 23 = .ok (.goto 4, 3) := by decide +kernel
theorem d3_27 : decode method_3_code 27 = .ok (.ireturn, 1) := by decide +kernel
theorem d3_5 : decode method_3_code 5 = .ok (.iload_n 0, 1) := by decide +kernel
theorem d3_6 : decode method_3_code 6 = .ok (.iload_n 2, 1) := by decide +kernel
theorem d3_7 : decode method_3_code 7 = .ok (.if_icmp .ge 15, 3) := by decide +kernel
theorem d3_10 : decode method_3_code 10 = .ok (.iload_n 3, 1) := by decide +kernel
theorem d3_11 : decode method_3_code 11 = .ok (.bipush 48, 2) := by decide +kernel
theorem d3_13 : decode method_3_code 13 = .ok (.if_icmp .lt 13, 3) := by decide +kernel
theorem d3_26 : decode method_3_code 26 = .ok (.iconst 0, 1) := by decide +kernel
theorem d3_16 : decode method_3_code 16 = .ok (.iload_n 3, 1) := by decide +kernel
theorem d3_17 : decode method_3_code 17 = .ok (.bipush 57, 2) := by decide +kernel
theorem d3_19 : decode method_3_code 19 = .ok (.if_icmp .gt 7, 3) := by decide +kernel
-- com/example/backstop/backstop/WholeNumbersIsDigitsPinLaw.fine(IIIC)Z
def Q4 (Z : State) (qi1 : Int32) (qi2 : Int32) (qi3 : Int32) (h0 : Heap) (n0 : Nat) (v : Option Value) (h : Heap) (L : List Loc) : Prop := v = some (.int (own_fine (0 : Int32) qi1 qi2 qi3)) ∧ Fr n0 L ∧ h = h0
theorem rm4 (l : Launch) (Z : State) (a0 : Array Value) (hw : HW a0 Z) (qi1 : Int32) (qi2 : Int32) (qi3 : Int32) (h0 : Heap) (n0 : Nat) (X00 : Old Z n0 h0)  :
    MF l Z Y3_ method_3_code 4 (some .boolean) (Rm 0 0 0 0) #[.int 0, .int qi1, .int qi2, .int qi3] h0 (Q4 Z qi1 qi2 qi3 h0 n0) := by
 refine own_sF pn0 rfl (fun m => ef4 m (0 : Int32) qi1 qi2 qi3) ?_
 intro p e s m below meth c s₁ Bd hZ hh hx hby hml hown hnm X0 e0 pre0
 have N0 := Fr.nil n0
 have pr1 : Pr p e below s₁ m 2 #[iv 0, iv qi1, iv qi2, iv qi3] [.int qi1, .int 0] s₁ (entryFrame m #[.int 0, .int qi1, .int qi2, .int qi3] 4) := fun t k => pre0 t (by
  show Sx p e below s₁ m 0 #[iv 0, iv qi1, iv qi2, iv qi3] [] _
  refine zj X0 Bd d3_0 rfl ?_
  refine zj X0 Bd d3_1 rfl ?_
  exact k)
 by_cases hc2 : (0 : Int32) < qi1
 ·
  skip
  refine own_lvF X0 Bd (.int 1) e0 ⟨(by rw [own_fine, if_pos hc2]), N0, rfl⟩ rfl (fun fs hr => pr1 _ (by
   show Sx p e below s₁ m 2 #[iv 0, iv qi1, iv qi2, iv qi3] [.int qi1, .int 0] _
   refine zy (pc' := 22) X0 Bd d3_2 (XT.ii_lt_t (hc2 : (0 : Int32) < qi1)) rfl ?_
   refine zc X0 Bd d3_22 ?_
   refine zg (pc' := 27) X0 Bd d3_23 rfl ?_
   exact retN X0 hx (t := .boolean) Bd.returns (by simp) (hb hby d3_27) hr))
 ·
  skip
  have pr3 : Pr p e below s₁ m 7 #[iv 0, iv qi1, iv qi2, iv qi3] [.int qi2, .int 0] s₁ (entryFrame m #[.int 0, .int qi1, .int qi2, .int qi3] 4) := fun t k => pr1 t (by
   show Sx p e below s₁ m 2 #[iv 0, iv qi1, iv qi2, iv qi3] [.int qi1, .int 0] _
   refine zn X0 Bd d3_2 (XT.ii_lt_f (hc2 : ¬ ((0 : Int32) < qi1))) ?_
   refine zj X0 Bd d3_5 rfl ?_
   refine zj X0 Bd d3_6 rfl ?_
   exact k)
  by_cases hc4 : (0 : Int32) < qi2
  ·
   skip
   have pr5 : Pr p e below s₁ m 13 #[iv 0, iv qi1, iv qi2, iv qi3] [.int 48, .int qi3] s₁ (entryFrame m #[.int 0, .int qi1, .int qi2, .int qi3] 4) := fun t k => pr3 t (by
    show Sx p e below s₁ m 7 #[iv 0, iv qi1, iv qi2, iv qi3] [.int qi2, .int 0] _
    refine zn X0 Bd d3_7 (XT.ii_ge_f (hc4 : (0 : Int32) < qi2)) ?_
    refine zj X0 Bd d3_10 rfl ?_
    refine zd X0 Bd d3_11 ?_
    exact k)
   by_cases hc6 : qi3 < (48 : Int32)
   ·
    skip
    refine own_lvF X0 Bd (.int 0) e0 ⟨(by rw [own_fine, if_neg hc2, if_pos hc4, if_pos hc6]), N0, rfl⟩ rfl (fun fs hr => pr5 _ (by
     show Sx p e below s₁ m 13 #[iv 0, iv qi1, iv qi2, iv qi3] [.int 48, .int qi3] _
     refine zy (pc' := 26) X0 Bd d3_13 (XT.ii_lt_t (hc6 : qi3 < (48 : Int32))) rfl ?_
     refine zc X0 Bd d3_26 ?_
     exact retN X0 hx (t := .boolean) Bd.returns (by simp) (hb hby d3_27) hr))
   ·
    skip
    have pr7 : Pr p e below s₁ m 19 #[iv 0, iv qi1, iv qi2, iv qi3] [.int 57, .int qi3] s₁ (entryFrame m #[.int 0, .int qi1, .int qi2, .int qi3] 4) := fun t k => pr5 t (by
     show Sx p e below s₁ m 13 #[iv 0, iv qi1, iv qi2, iv qi3] [.int 48, .int qi3] _
     refine zn X0 Bd d3_13 (XT.ii_lt_f (hc6 : ¬ (qi3 < (48 : Int32)))) ?_
     refine zj X0 Bd d3_16 rfl ?_
     refine zd X0 Bd d3_17 ?_
     exact k)
    by_cases hc8 : (57 : Int32) < qi3
    ·
     skip
     refine own_lvF X0 Bd (.int 0) e0 ⟨(by rw [own_fine, if_neg hc2, if_pos hc4, if_neg hc6, if_pos hc8]), N0, rfl⟩ rfl (fun fs hr => pr7 _ (by
      show Sx p e below s₁ m 19 #[iv 0, iv qi1, iv qi2, iv qi3] [.int 57, .int qi3] _
      refine zy (pc' := 26) X0 Bd d3_19 (XT.ii_gt_t (hc8 : (57 : Int32) < qi3)) rfl ?_
      refine zc X0 Bd d3_26 ?_
      exact retN X0 hx (t := .boolean) Bd.returns (by simp) (hb hby d3_27) hr))
    ·
     skip
     refine own_lvF X0 Bd (.int 1) e0 ⟨(by rw [own_fine, if_neg hc2, if_pos hc4, if_neg hc6, if_neg hc8]), N0, rfl⟩ rfl (fun fs hr => pr7 _ (by
      show Sx p e below s₁ m 19 #[iv 0, iv qi1, iv qi2, iv qi3] [.int 57, .int qi3] _
      refine zn X0 Bd d3_19 (XT.ii_gt_f (hc8 : ¬ ((57 : Int32) < qi3))) ?_
      refine zc X0 Bd d3_22 ?_
      refine zg (pc' := 27) X0 Bd d3_23 rfl ?_
      exact retN X0 hx (t := .boolean) Bd.returns (by simp) (hb hby d3_27) hr))
  ·
   skip
   refine own_lvF X0 Bd (.int 1) e0 ⟨(by rw [own_fine, if_neg hc2, if_neg hc4]), N0, rfl⟩ rfl (fun fs hr => pr3 _ (by
    show Sx p e below s₁ m 7 #[iv 0, iv qi1, iv qi2, iv qi3] [.int qi2, .int 0] _
    refine zy (pc' := 22) X0 Bd d3_7 (XT.ii_ge_t (hc4 : ¬ ((0 : Int32) < qi2))) rfl ?_
    refine zc X0 Bd d3_22 ?_
    refine zg (pc' := 27) X0 Bd d3_23 rfl ?_
    exact retN X0 hx (t := .boolean) Bd.returns (by simp) (hb hby d3_27) hr))
theorem pd3 : parseMethodDescriptor "(IIIC)Z" = some ⟨[.int, .int, .int, .char], some .boolean⟩ := by decide +kernel
-- com/example/backstop/backstop/WholeNumbersIsDigitsPinLaw.fine(IIIC)Z
def Q5 (Z : State) (qi1 : Int32) (qi2 : Int32) (qi3 : Int32) (h0 : Heap) (n0 : Nat) (v : Option Value) (h : Heap) (L : List Loc) : Prop := v = some (.int (own_fine (1 : Int32) qi1 qi2 qi3)) ∧ Fr n0 L ∧ h = h0
theorem rm5 (l : Launch) (Z : State) (a0 : Array Value) (hw : HW a0 Z) (qi1 : Int32) (qi2 : Int32) (qi3 : Int32) (h0 : Heap) (n0 : Nat) (X00 : Old Z n0 h0)  :
    MF l Z Y3_ method_3_code 4 (some .boolean) (Rm 0 0 0 0) #[.int 1, .int qi1, .int qi2, .int qi3] h0 (Q5 Z qi1 qi2 qi3 h0 n0) := by
 refine own_sF pn0 rfl (fun m => ef4 m (1 : Int32) qi1 qi2 qi3) ?_
 intro p e s m below meth c s₁ Bd hZ hh hx hby hml hown hnm X0 e0 pre0
 have N0 := Fr.nil n0
 have pr1 : Pr p e below s₁ m 2 #[iv 1, iv qi1, iv qi2, iv qi3] [.int qi1, .int 1] s₁ (entryFrame m #[.int 1, .int qi1, .int qi2, .int qi3] 4) := fun t k => pre0 t (by
  show Sx p e below s₁ m 0 #[iv 1, iv qi1, iv qi2, iv qi3] [] _
  refine zj X0 Bd d3_0 rfl ?_
  refine zj X0 Bd d3_1 rfl ?_
  exact k)
 by_cases hc2 : (1 : Int32) < qi1
 ·
  skip
  refine own_lvF X0 Bd (.int 1) e0 ⟨(by rw [own_fine, if_pos hc2]), N0, rfl⟩ rfl (fun fs hr => pr1 _ (by
   show Sx p e below s₁ m 2 #[iv 1, iv qi1, iv qi2, iv qi3] [.int qi1, .int 1] _
   refine zy (pc' := 22) X0 Bd d3_2 (XT.ii_lt_t (hc2 : (1 : Int32) < qi1)) rfl ?_
   refine zc X0 Bd d3_22 ?_
   refine zg (pc' := 27) X0 Bd d3_23 rfl ?_
   exact retN X0 hx (t := .boolean) Bd.returns (by simp) (hb hby d3_27) hr))
 ·
  skip
  have pr3 : Pr p e below s₁ m 7 #[iv 1, iv qi1, iv qi2, iv qi3] [.int qi2, .int 1] s₁ (entryFrame m #[.int 1, .int qi1, .int qi2, .int qi3] 4) := fun t k => pr1 t (by
   show Sx p e below s₁ m 2 #[iv 1, iv qi1, iv qi2, iv qi3] [.int qi1, .int 1] _
   refine zn X0 Bd d3_2 (XT.ii_lt_f (hc2 : ¬ ((1 : Int32) < qi1))) ?_
   refine zj X0 Bd d3_5 rfl ?_
   refine zj X0 Bd d3_6 rfl ?_
   exact k)
  by_cases hc4 : (1 : Int32) < qi2
  ·
   skip
   have pr5 : Pr p e below s₁ m 13 #[iv 1, iv qi1, iv qi2, iv qi3] [.int 48, .int qi3] s₁ (entryFrame m #[.int 1, .int qi1, .int qi2, .int qi3] 4) := fun t k => pr3 t (by
    show Sx p e below s₁ m 7 #[iv 1, iv qi1, iv qi2, iv qi3] [.int qi2, .int 1] _
    refine zn X0 Bd d3_7 (XT.ii_ge_f (hc4 : (1 : Int32) < qi2)) ?_
    refine zj X0 Bd d3_10 rfl ?_
    refine zd X0 Bd d3_11 ?_
    exact k)
   by_cases hc6 : qi3 < (48 : Int32)
   ·
    skip
    refine own_lvF X0 Bd (.int 0) e0 ⟨(by rw [own_fine, if_neg hc2, if_pos hc4, if_pos hc6]), N0, rfl⟩ rfl (fun fs hr => pr5 _ (by
     show Sx p e below s₁ m 13 #[iv 1, iv qi1, iv qi2, iv qi3] [.int 48, .int qi3] _
     refine zy (pc' := 26) X0 Bd d3_13 (XT.ii_lt_t (hc6 : qi3 < (48 : Int32))) rfl ?_
     refine zc X0 Bd d3_26 ?_
     exact retN X0 hx (t := .boolean) Bd.returns (by simp) (hb hby d3_27) hr))
   ·
    skip
    have pr7 : Pr p e below s₁ m 19 #[iv 1, iv qi1, iv qi2, iv qi3] [.int 57, .int qi3] s₁ (entryFrame m #[.int 1, .int qi1, .int qi2, .int qi3] 4) := fun t k => pr5 t (by
     show Sx p e below s₁ m 13 #[iv 1, iv qi1, iv qi2, iv qi3] [.int 48, .int qi3] _
     refine zn X0 Bd d3_13 (XT.ii_lt_f (hc6 : ¬ (qi3 < (48 : Int32)))) ?_
     refine zj X0 Bd d3_16 rfl ?_
     refine zd X0 Bd d3_17 ?_
     exact k)
    by_cases hc8 : (57 : Int32) < qi3
    ·
     skip
     refine own_lvF X0 Bd (.int 0) e0 ⟨(by rw [own_fine, if_neg hc2, if_pos hc4, if_neg hc6, if_pos hc8]), N0, rfl⟩ rfl (fun fs hr => pr7 _ (by
      show Sx p e below s₁ m 19 #[iv 1, iv qi1, iv qi2, iv qi3] [.int 57, .int qi3] _
      refine zy (pc' := 26) X0 Bd d3_19 (XT.ii_gt_t (hc8 : (57 : Int32) < qi3)) rfl ?_
      refine zc X0 Bd d3_26 ?_
      exact retN X0 hx (t := .boolean) Bd.returns (by simp) (hb hby d3_27) hr))
    ·
     skip
     refine own_lvF X0 Bd (.int 1) e0 ⟨(by rw [own_fine, if_neg hc2, if_pos hc4, if_neg hc6, if_neg hc8]), N0, rfl⟩ rfl (fun fs hr => pr7 _ (by
      show Sx p e below s₁ m 19 #[iv 1, iv qi1, iv qi2, iv qi3] [.int 57, .int qi3] _
      refine zn X0 Bd d3_19 (XT.ii_gt_f (hc8 : ¬ ((57 : Int32) < qi3))) ?_
      refine zc X0 Bd d3_22 ?_
      refine zg (pc' := 27) X0 Bd d3_23 rfl ?_
      exact retN X0 hx (t := .boolean) Bd.returns (by simp) (hb hby d3_27) hr))
  ·
   skip
   refine own_lvF X0 Bd (.int 1) e0 ⟨(by rw [own_fine, if_neg hc2, if_neg hc4]), N0, rfl⟩ rfl (fun fs hr => pr3 _ (by
    show Sx p e below s₁ m 7 #[iv 1, iv qi1, iv qi2, iv qi3] [.int qi2, .int 1] _
    refine zy (pc' := 22) X0 Bd d3_7 (XT.ii_ge_t (hc4 : ¬ ((1 : Int32) < qi2))) rfl ?_
    refine zc X0 Bd d3_22 ?_
    refine zg (pc' := 27) X0 Bd d3_23 rfl ?_
    exact retN X0 hx (t := .boolean) Bd.returns (by simp) (hb hby d3_27) hr))
-- com/example/backstop/backstop/WholeNumbersIsDigitsPinLaw.fine(IIIC)Z
def Q6 (Z : State) (qi1 : Int32) (qi2 : Int32) (qi3 : Int32) (h0 : Heap) (n0 : Nat) (v : Option Value) (h : Heap) (L : List Loc) : Prop := v = some (.int (own_fine (2 : Int32) qi1 qi2 qi3)) ∧ Fr n0 L ∧ h = h0
theorem rm6 (l : Launch) (Z : State) (a0 : Array Value) (hw : HW a0 Z) (qi1 : Int32) (qi2 : Int32) (qi3 : Int32) (h0 : Heap) (n0 : Nat) (X00 : Old Z n0 h0)  :
    MF l Z Y3_ method_3_code 4 (some .boolean) (Rm 0 0 0 0) #[.int 2, .int qi1, .int qi2, .int qi3] h0 (Q6 Z qi1 qi2 qi3 h0 n0) := by
 refine own_sF pn0 rfl (fun m => ef4 m (2 : Int32) qi1 qi2 qi3) ?_
 intro p e s m below meth c s₁ Bd hZ hh hx hby hml hown hnm X0 e0 pre0
 have N0 := Fr.nil n0
 have pr1 : Pr p e below s₁ m 2 #[iv 2, iv qi1, iv qi2, iv qi3] [.int qi1, .int 2] s₁ (entryFrame m #[.int 2, .int qi1, .int qi2, .int qi3] 4) := fun t k => pre0 t (by
  show Sx p e below s₁ m 0 #[iv 2, iv qi1, iv qi2, iv qi3] [] _
  refine zj X0 Bd d3_0 rfl ?_
  refine zj X0 Bd d3_1 rfl ?_
  exact k)
 by_cases hc2 : (2 : Int32) < qi1
 ·
  skip
  refine own_lvF X0 Bd (.int 1) e0 ⟨(by rw [own_fine, if_pos hc2]), N0, rfl⟩ rfl (fun fs hr => pr1 _ (by
   show Sx p e below s₁ m 2 #[iv 2, iv qi1, iv qi2, iv qi3] [.int qi1, .int 2] _
   refine zy (pc' := 22) X0 Bd d3_2 (XT.ii_lt_t (hc2 : (2 : Int32) < qi1)) rfl ?_
   refine zc X0 Bd d3_22 ?_
   refine zg (pc' := 27) X0 Bd d3_23 rfl ?_
   exact retN X0 hx (t := .boolean) Bd.returns (by simp) (hb hby d3_27) hr))
 ·
  skip
  have pr3 : Pr p e below s₁ m 7 #[iv 2, iv qi1, iv qi2, iv qi3] [.int qi2, .int 2] s₁ (entryFrame m #[.int 2, .int qi1, .int qi2, .int qi3] 4) := fun t k => pr1 t (by
   show Sx p e below s₁ m 2 #[iv 2, iv qi1, iv qi2, iv qi3] [.int qi1, .int 2] _
   refine zn X0 Bd d3_2 (XT.ii_lt_f (hc2 : ¬ ((2 : Int32) < qi1))) ?_
   refine zj X0 Bd d3_5 rfl ?_
   refine zj X0 Bd d3_6 rfl ?_
   exact k)
  by_cases hc4 : (2 : Int32) < qi2
  ·
   skip
   have pr5 : Pr p e below s₁ m 13 #[iv 2, iv qi1, iv qi2, iv qi3] [.int 48, .int qi3] s₁ (entryFrame m #[.int 2, .int qi1, .int qi2, .int qi3] 4) := fun t k => pr3 t (by
    show Sx p e below s₁ m 7 #[iv 2, iv qi1, iv qi2, iv qi3] [.int qi2, .int 2] _
    refine zn X0 Bd d3_7 (XT.ii_ge_f (hc4 : (2 : Int32) < qi2)) ?_
    refine zj X0 Bd d3_10 rfl ?_
    refine zd X0 Bd d3_11 ?_
    exact k)
   by_cases hc6 : qi3 < (48 : Int32)
   ·
    skip
    refine own_lvF X0 Bd (.int 0) e0 ⟨(by rw [own_fine, if_neg hc2, if_pos hc4, if_pos hc6]), N0, rfl⟩ rfl (fun fs hr => pr5 _ (by
     show Sx p e below s₁ m 13 #[iv 2, iv qi1, iv qi2, iv qi3] [.int 48, .int qi3] _
     refine zy (pc' := 26) X0 Bd d3_13 (XT.ii_lt_t (hc6 : qi3 < (48 : Int32))) rfl ?_
     refine zc X0 Bd d3_26 ?_
     exact retN X0 hx (t := .boolean) Bd.returns (by simp) (hb hby d3_27) hr))
   ·
    skip
    have pr7 : Pr p e below s₁ m 19 #[iv 2, iv qi1, iv qi2, iv qi3] [.int 57, .int qi3] s₁ (entryFrame m #[.int 2, .int qi1, .int qi2, .int qi3] 4) := fun t k => pr5 t (by
     show Sx p e below s₁ m 13 #[iv 2, iv qi1, iv qi2, iv qi3] [.int 48, .int qi3] _
     refine zn X0 Bd d3_13 (XT.ii_lt_f (hc6 : ¬ (qi3 < (48 : Int32)))) ?_
     refine zj X0 Bd d3_16 rfl ?_
     refine zd X0 Bd d3_17 ?_
     exact k)
    by_cases hc8 : (57 : Int32) < qi3
    ·
     skip
     refine own_lvF X0 Bd (.int 0) e0 ⟨(by rw [own_fine, if_neg hc2, if_pos hc4, if_neg hc6, if_pos hc8]), N0, rfl⟩ rfl (fun fs hr => pr7 _ (by
      show Sx p e below s₁ m 19 #[iv 2, iv qi1, iv qi2, iv qi3] [.int 57, .int qi3] _
      refine zy (pc' := 26) X0 Bd d3_19 (XT.ii_gt_t (hc8 : (57 : Int32) < qi3)) rfl ?_
      refine zc X0 Bd d3_26 ?_
      exact retN X0 hx (t := .boolean) Bd.returns (by simp) (hb hby d3_27) hr))
    ·
     skip
     refine own_lvF X0 Bd (.int 1) e0 ⟨(by rw [own_fine, if_neg hc2, if_pos hc4, if_neg hc6, if_neg hc8]), N0, rfl⟩ rfl (fun fs hr => pr7 _ (by
      show Sx p e below s₁ m 19 #[iv 2, iv qi1, iv qi2, iv qi3] [.int 57, .int qi3] _
      refine zn X0 Bd d3_19 (XT.ii_gt_f (hc8 : ¬ ((57 : Int32) < qi3))) ?_
      refine zc X0 Bd d3_22 ?_
      refine zg (pc' := 27) X0 Bd d3_23 rfl ?_
      exact retN X0 hx (t := .boolean) Bd.returns (by simp) (hb hby d3_27) hr))
  ·
   skip
   refine own_lvF X0 Bd (.int 1) e0 ⟨(by rw [own_fine, if_neg hc2, if_neg hc4]), N0, rfl⟩ rfl (fun fs hr => pr3 _ (by
    show Sx p e below s₁ m 7 #[iv 2, iv qi1, iv qi2, iv qi3] [.int qi2, .int 2] _
    refine zy (pc' := 22) X0 Bd d3_7 (XT.ii_ge_t (hc4 : ¬ ((2 : Int32) < qi2))) rfl ?_
    refine zc X0 Bd d3_22 ?_
    refine zg (pc' := 27) X0 Bd d3_23 rfl ?_
    exact retN X0 hx (t := .boolean) Bd.returns (by simp) (hb hby d3_27) hr))
-- com/example/backstop/backstop/WholeNumbersIsDigitsPinLaw.fine(IIIC)Z
def Q7 (Z : State) (qi1 : Int32) (qi2 : Int32) (qi3 : Int32) (h0 : Heap) (n0 : Nat) (v : Option Value) (h : Heap) (L : List Loc) : Prop := v = some (.int (own_fine (3 : Int32) qi1 qi2 qi3)) ∧ Fr n0 L ∧ h = h0
theorem rm7 (l : Launch) (Z : State) (a0 : Array Value) (hw : HW a0 Z) (qi1 : Int32) (qi2 : Int32) (qi3 : Int32) (h0 : Heap) (n0 : Nat) (X00 : Old Z n0 h0)  :
    MF l Z Y3_ method_3_code 4 (some .boolean) (Rm 0 0 0 0) #[.int 3, .int qi1, .int qi2, .int qi3] h0 (Q7 Z qi1 qi2 qi3 h0 n0) := by
 refine own_sF pn0 rfl (fun m => ef4 m (3 : Int32) qi1 qi2 qi3) ?_
 intro p e s m below meth c s₁ Bd hZ hh hx hby hml hown hnm X0 e0 pre0
 have N0 := Fr.nil n0
 have pr1 : Pr p e below s₁ m 2 #[iv 3, iv qi1, iv qi2, iv qi3] [.int qi1, .int 3] s₁ (entryFrame m #[.int 3, .int qi1, .int qi2, .int qi3] 4) := fun t k => pre0 t (by
  show Sx p e below s₁ m 0 #[iv 3, iv qi1, iv qi2, iv qi3] [] _
  refine zj X0 Bd d3_0 rfl ?_
  refine zj X0 Bd d3_1 rfl ?_
  exact k)
 by_cases hc2 : (3 : Int32) < qi1
 ·
  skip
  refine own_lvF X0 Bd (.int 1) e0 ⟨(by rw [own_fine, if_pos hc2]), N0, rfl⟩ rfl (fun fs hr => pr1 _ (by
   show Sx p e below s₁ m 2 #[iv 3, iv qi1, iv qi2, iv qi3] [.int qi1, .int 3] _
   refine zy (pc' := 22) X0 Bd d3_2 (XT.ii_lt_t (hc2 : (3 : Int32) < qi1)) rfl ?_
   refine zc X0 Bd d3_22 ?_
   refine zg (pc' := 27) X0 Bd d3_23 rfl ?_
   exact retN X0 hx (t := .boolean) Bd.returns (by simp) (hb hby d3_27) hr))
 ·
  skip
  have pr3 : Pr p e below s₁ m 7 #[iv 3, iv qi1, iv qi2, iv qi3] [.int qi2, .int 3] s₁ (entryFrame m #[.int 3, .int qi1, .int qi2, .int qi3] 4) := fun t k => pr1 t (by
   show Sx p e below s₁ m 2 #[iv 3, iv qi1, iv qi2, iv qi3] [.int qi1, .int 3] _
   refine zn X0 Bd d3_2 (XT.ii_lt_f (hc2 : ¬ ((3 : Int32) < qi1))) ?_
   refine zj X0 Bd d3_5 rfl ?_
   refine zj X0 Bd d3_6 rfl ?_
   exact k)
  by_cases hc4 : (3 : Int32) < qi2
  ·
   skip
   have pr5 : Pr p e below s₁ m 13 #[iv 3, iv qi1, iv qi2, iv qi3] [.int 48, .int qi3] s₁ (entryFrame m #[.int 3, .int qi1, .int qi2, .int qi3] 4) := fun t k => pr3 t (by
    show Sx p e below s₁ m 7 #[iv 3, iv qi1, iv qi2, iv qi3] [.int qi2, .int 3] _
    refine zn X0 Bd d3_7 (XT.ii_ge_f (hc4 : (3 : Int32) < qi2)) ?_
    refine zj X0 Bd d3_10 rfl ?_
    refine zd X0 Bd d3_11 ?_
    exact k)
   by_cases hc6 : qi3 < (48 : Int32)
   ·
    skip
    refine own_lvF X0 Bd (.int 0) e0 ⟨(by rw [own_fine, if_neg hc2, if_pos hc4, if_pos hc6]), N0, rfl⟩ rfl (fun fs hr => pr5 _ (by
     show Sx p e below s₁ m 13 #[iv 3, iv qi1, iv qi2, iv qi3] [.int 48, .int qi3] _
     refine zy (pc' := 26) X0 Bd d3_13 (XT.ii_lt_t (hc6 : qi3 < (48 : Int32))) rfl ?_
     refine zc X0 Bd d3_26 ?_
     exact retN X0 hx (t := .boolean) Bd.returns (by simp) (hb hby d3_27) hr))
   ·
    skip
    have pr7 : Pr p e below s₁ m 19 #[iv 3, iv qi1, iv qi2, iv qi3] [.int 57, .int qi3] s₁ (entryFrame m #[.int 3, .int qi1, .int qi2, .int qi3] 4) := fun t k => pr5 t (by
     show Sx p e below s₁ m 13 #[iv 3, iv qi1, iv qi2, iv qi3] [.int 48, .int qi3] _
     refine zn X0 Bd d3_13 (XT.ii_lt_f (hc6 : ¬ (qi3 < (48 : Int32)))) ?_
     refine zj X0 Bd d3_16 rfl ?_
     refine zd X0 Bd d3_17 ?_
     exact k)
    by_cases hc8 : (57 : Int32) < qi3
    ·
     skip
     refine own_lvF X0 Bd (.int 0) e0 ⟨(by rw [own_fine, if_neg hc2, if_pos hc4, if_neg hc6, if_pos hc8]), N0, rfl⟩ rfl (fun fs hr => pr7 _ (by
      show Sx p e below s₁ m 19 #[iv 3, iv qi1, iv qi2, iv qi3] [.int 57, .int qi3] _
      refine zy (pc' := 26) X0 Bd d3_19 (XT.ii_gt_t (hc8 : (57 : Int32) < qi3)) rfl ?_
      refine zc X0 Bd d3_26 ?_
      exact retN X0 hx (t := .boolean) Bd.returns (by simp) (hb hby d3_27) hr))
    ·
     skip
     refine own_lvF X0 Bd (.int 1) e0 ⟨(by rw [own_fine, if_neg hc2, if_pos hc4, if_neg hc6, if_neg hc8]), N0, rfl⟩ rfl (fun fs hr => pr7 _ (by
      show Sx p e below s₁ m 19 #[iv 3, iv qi1, iv qi2, iv qi3] [.int 57, .int qi3] _
      refine zn X0 Bd d3_19 (XT.ii_gt_f (hc8 : ¬ ((57 : Int32) < qi3))) ?_
      refine zc X0 Bd d3_22 ?_
      refine zg (pc' := 27) X0 Bd d3_23 rfl ?_
      exact retN X0 hx (t := .boolean) Bd.returns (by simp) (hb hby d3_27) hr))
  ·
   skip
   refine own_lvF X0 Bd (.int 1) e0 ⟨(by rw [own_fine, if_neg hc2, if_neg hc4]), N0, rfl⟩ rfl (fun fs hr => pr3 _ (by
    show Sx p e below s₁ m 7 #[iv 3, iv qi1, iv qi2, iv qi3] [.int qi2, .int 3] _
    refine zy (pc' := 22) X0 Bd d3_7 (XT.ii_ge_t (hc4 : ¬ ((3 : Int32) < qi2))) rfl ?_
    refine zc X0 Bd d3_22 ?_
    refine zg (pc' := 27) X0 Bd d3_23 rfl ?_
    exact retN X0 hx (t := .boolean) Bd.returns (by simp) (hb hby d3_27) hr))
theorem ef5 (m : MethodId) (x0 : Addr) (x1 : Int32) (x2 : Int32) : entryFrame m #[.ref x0, .int x1, .int x2] 5 = mkF m 0 #[.val (.ref x0), .val (.int x1), .val (.int x2), .unset, .unset] [] := by first | (simp [entryFrame, mkF, argsToLocals, Value.category]; done) | rfl
theorem pn2 : plainName "com/example/backstop/backstop/WholeNumbers" = true := by first | (simp [plainName, overriddenIn]; done) | decide +kernel
theorem d4_0 : decode prog_50_method_3_code 0 = .ok (.iload_n 1, 1) := by decide +kernel
theorem d4_1 : decode prog_50_method_3_code 1 = .ok (.iload_n 2, 1) := by decide +kernel
theorem d4_2 : decode prog_50_method_3_code 2 = .ok (.if_icmp .lt 5, 3) := by decide +kernel
theorem d4_7 : decode prog_50_method_3_code 7 = .ok (.iload_n 1, 1) := by decide +kernel
theorem d4_8 : decode prog_50_method_3_code 8 = .ok (.istore_n 3, 1) := by decide +kernel
theorem d4_9 : decode prog_50_method_3_code 9 = .ok (.iload_n 3, 1) := by decide +kernel
theorem d4_10 : decode prog_50_method_3_code 10 = .ok (.iload_n 2, 1) := by decide +kernel
theorem d4_11 : decode prog_50_method_3_code 11 = .ok (.if_icmp .ge 32, 3) := by decide +kernel
theorem d4_14 : decode prog_50_method_3_code 14 = .ok (.aload_n 0, 1) := by decide +kernel
theorem d4_15 : decode prog_50_method_3_code 15 = .ok (.iload_n 3, 1) := by decide +kernel
theorem d4_16 : decode prog_50_method_3_code 16 = .ok (.invokevirtual 46, 3) := by decide +kernel
theorem pd4 : parseMethodDescriptor "(I)C" = some ⟨[.int], some .char⟩ := by decide +kernel
theorem d4_19 : decode prog_50_method_3_code 19 = .ok (.istore 4, 2) := by decide +kernel
theorem d4_21 : decode prog_50_method_3_code 21 = .ok (.iload 4, 2) := by decide +kernel
theorem d4_23 : decode prog_50_method_3_code 23 = .ok (.bipush 48, 2) := by decide +kernel
theorem d4_25 : decode prog_50_method_3_code 25 = .ok (.if_icmp .lt 10, 3) := by decide +kernel
theorem d4_35 : decode prog_50_method_3_code 35 = .ok (.iconst 0, 1) := by decide +kernel
theorem d4_36 : decode prog_50_method_3_code 36 = .ok (.ireturn, 1) := by decide +kernel
theorem d4_28 : decode prog_50_method_3_code 28 = .ok (.iload 4, 2) := by decide +kernel
theorem d4_30 : decode prog_50_method_3_code 30 = .ok (.bipush 57, 2) := by decide +kernel
theorem d4_32 : decode prog_50_method_3_code 32 = .ok (.if_icmp .le 5, 3) := by decide +kernel
theorem d4_37 : decode prog_50_method_3_code 37 = .ok (.iinc 3 1, 3) := by decide +kernel
theorem d4_40 : decode prog_50_method_3_code 40 = .ok (.goto (-31), 3) := by decide +kernel
theorem d4_43 : decode prog_50_method_3_code 43 = .ok (.iconst 1, 1) := by decide +kernel
theorem d4_44 : decode prog_50_method_3_code 44 = .ok (.ireturn, 1) := by decide +kernel
theorem d4_5 : decode prog_50_method_3_code 5 = .ok (.iconst 0, 1) := by decide +kernel
theorem d4_6 : decode prog_50_method_3_code 6 = .ok (.ireturn, 1) := by decide +kernel
-- com/example/backstop/backstop/WholeNumbers.isDigits(Ljava/lang/String;II)Z
def Q8 (Z : State) (qi2 : Int32) (qi3 : Int32) (h0 : Heap) (n0 : Nat) (v : Option Value) (h : Heap) (L : List Loc) : Prop := v = some (.int (own_isd ([] : List Int32) qi2 qi3)) ∧ Fr n0 L ∧ h = h0
theorem rm8 (l : Launch) (Z : State) (a0 : Array Value) (hw : HW a0 Z) (G3 : Value) (G1 : Int32) (qa1 : Addr) (qi2 : Int32) (qi3 : Int32) (qa4 : Addr) (qk5 : ClassId) (h0 : Heap) (n0 : Nat) (X00 : Old Z n0 h0) (O4 : Sta Z Z.heap "jdk/internal/util/Preconditions" "SIOOBE_FORMATTER" "Ljava/util/function/BiFunction;" G3) (rG3 : G3.isRef = true) (O2 : Sta Z Z.heap "java/lang/String" "COMPACT_STRINGS" "Z" (.int G1)) (P5 : ¬ (G1 = (0 : Int32))) (F_qa1_value : Fld Z h0 qa1 "java/lang/String" "value" "[B" (.ref qa4)) (F_qa1_coder : Fld Z h0 qa1 "java/lang/String" "coder" "B" (.int 0)) (A_qa4 : Arv Z h0 qa4 qk5 .byte (0 : Int32) [] (.int 0)) (E_qa1 : Exa Z h0 qa1 "java/lang/String") (hs0 : ¬ qi2 < 0) (he0 : ¬ (0 : Int32) < qi3) :
    MF l Z Y4_ prog_50_method_3_code 5 (some .boolean) (Rm 4 0 0 53) #[.ref qa1, .int qi2, .int qi3] h0 (Q8 Z qi2 qi3 h0 n0) := by
 refine own_sF pn2 rfl (fun m => ef5 m qa1 qi2 qi3) ?_
 intro p e s m below meth c s₁ Bd hZ hh hx hby hml hown hnm X0 e0 pre0
 have N0 := Fr.nil n0
 have hp1 : ∀ c ∈ ([] : List Int32), ¬ c < 0 ∧ ¬ (255 : Int32) < c := (fun _ q => nomatch q)
 have pr2 : Pr p e below s₁ m 2 #[rv qa1, iv qi2, iv qi3, .unset, .unset] [.int qi3, .int qi2] s₁ (entryFrame m #[.ref qa1, .int qi2, .int qi3] 5) := fun t k => pre0 t (by
  show Sx p e below s₁ m 0 #[rv qa1, iv qi2, iv qi3, .unset, .unset] [] _
  refine zj X0 Bd d4_0 rfl ?_
  refine zj X0 Bd d4_1 rfl ?_
  exact k)
 by_cases hc3 : qi2 < qi3
 ·
  skip
  have pr4 : Pr p e below s₁ m 9 #[rv qa1, iv qi2, iv qi3, iv qi2, .unset] [] s₁ (entryFrame m #[.ref qa1, .int qi2, .int qi3] 5) := fun t k => pr2 t (by
   show Sx p e below s₁ m 2 #[rv qa1, iv qi2, iv qi3, .unset, .unset] [.int qi3, .int qi2] _
   refine zy (pc' := 7) X0 Bd d4_2 (XT.ii_lt_t (hc3 : qi2 < qi3)) rfl ?_
   refine zj X0 Bd d4_7 rfl ?_
   refine zt X0 Bd d4_8 (l' := #[rv qa1, iv qi2, iv qi3, iv qi2, .unset]) rfl ?_
   exact k)
  refine own_loop1 (fun i_ => (qi3.toInt - i_.toInt).toNat) (fun T5 L5 i_ => ∃ sl5_4 : Slot, Stand p l e (Rm 4 0 0 53) s m #[.ref qa1, .int qi2, .int qi3] below meth c T5 L5 0 0 ∧ T5.heap = h0 ∧ Fr n0 L5 ∧ (¬ i_ < 0) ∧ ((own_digI ([] : List Int32) qi2 qi3) = own_digI ([] : List Int32) i_ qi3) ∧ (sl5_4 = .unset ∨ ∃ w, sl5_4 = .val w ∧ w.category = 1) ∧ Pr p e below T5 m 9 #[rv qa1, iv qi2, iv qi3, iv i_, sl5_4] [] s₁ (entryFrame m #[.ref qa1, .int qi2, .int qi3] 5)) ?_ s₁ _ qi2 ⟨.unset, X0, e0, N0, hs0, rfl, (Or.inl rfl), (fun t k => pr4 t k)⟩
  intro T5 L5 i_ hI5 ih5
  obtain ⟨sl5_4, X5, e5, N5, hq5_0, hq5_1, one5_4, pr5⟩ := hI5
  have pr6 : Pr p e below T5 m 11 #[rv qa1, iv qi2, iv qi3, iv i_, sl5_4] [.int qi3, .int i_] s₁ (entryFrame m #[.ref qa1, .int qi2, .int qi3] 5) := fun t k => pr5 t (by
   show Sx p e below T5 m 9 #[rv qa1, iv qi2, iv qi3, iv i_, sl5_4] [] _
   refine zj X5 Bd d4_9 rfl ?_
   refine zj X5 Bd d4_10 rfl ?_
   exact k)
  by_cases hc7 : i_ < qi3
  ·
   skip
   have hcd9 : StrChars.Road.CodA ([] : List Int32) 0 (0 : Int32) [] := StrChars.Road.codOf (n := 0) rfl (fun x hx => (hp1 x hx).2)
   have hbd9 : ∀ x ∈ ([] : List Int32), ¬ x < 0 ∧ ¬ (65535 : Int32) < x := own_up _ hp1
   obtain ⟨cq8, kq8, q8a, q8b, q8c⟩ := isOf hZ e5 E_qa1
   obtain ⟨_, T8, L8, X8, hQ8, st8⟩ := own_cb0 0 0 0 0 0 0 (X5.virtualBack hx (y := Y5_) (z := Y5_) hown (mvT hZ (w65_ hw)) (mvT hZ (w66_ hw)) (notFace_of_selects (args := #[]) (mvT hZ (w68_ hw))) (mvT hZ (w68_ hw)) (mvT hZ (w67_ hw)) (by decide) (StrChars.Road.chN (W := 0) hZ (own_wc hw) (kI := 4) (w2_ hw) E_qa1 F_qa1_value F_qa1_coder A_qa4 hcd9 hbd9 (O2.ext X00.2) P5 (O4.ext X00.2) rG3 (lE rfl) (i := (i_).toNatClampNeg) (own_ilt (k := 0) (by decide) hq5_0 hc7 he0) (j := i_) (own_ofn hq5_0) (lE rfl) (lE rfl)) q8a q8c (g := (mkF m 16 #[rv qa1, iv qi2, iv qi3, iv i_, sl5_4] [.int i_, .ref qa1])) rfl hml.symm (Steps.refl _) (argsL := [.int i_]) (rest := []) (lenOf pd4 rfl) rfl (own_hw rfl) (hb hby d4_16) (fun _ _ => ⟨rfl, e5, (lE rfl : 0 + 0 ≤ _), (lE rfl : 0 + 0 ≤ _)⟩)) rfl rfl
   dsimp only [Pt.U, Pt.locs, Pt.cells, Pt.slots] at hQ8
   obtain ⟨rfl, rfl, e8q⟩ := hQ8
   have N8 := Fr.app N5 (Fr.nil n0)
   have pr10 : Pr p e below T8 m 25 #[rv qa1, iv qi2, iv qi3, iv i_, iv (own_at ([] : List Int32) i_)] [.int 48, (.int (own_at ([] : List Int32) i_))] s₁ (entryFrame m #[.ref qa1, .int qi2, .int qi3] 5) := fun t k => pr6 t (by
    show Sx p e below T5 m 11 #[rv qa1, iv qi2, iv qi3, iv i_, sl5_4] [.int qi3, .int i_] _
    refine zn X5 Bd d4_11 (XT.ii_ge_f (hc7 : i_ < qi3)) ?_
    refine zb X5 Bd d4_14 rfl rfl ?_
    refine zj X5 Bd d4_15 rfl ?_
    refine st8.trans ?_
    refine XS.istoreS X8.here hx rfl (hb hby d4_19) rfl rfl one5_4 ?_
    refine zi X8 Bd d4_21 rfl ?_
    refine zd X8 Bd d4_23 ?_
    exact k)
   by_cases hc11 : (own_at ([] : List Int32) i_) < (48 : Int32)
   ·
    skip
    refine own_lvF X8 Bd (.int 0) e8q ⟨(by rw [own_isd, if_pos hc3, hq5_1, own_dig0 hc7 hq5_0 (Or.inl hc11)]), N8, rfl⟩ rfl (fun fs hr => pr10 _ (by
     show Sx p e below T8 m 25 #[rv qa1, iv qi2, iv qi3, iv i_, iv (own_at ([] : List Int32) i_)] [.int 48, (.int (own_at ([] : List Int32) i_))] _
     refine zy (pc' := 35) X8 Bd d4_25 (XT.ii_lt_t (hc11 : (own_at ([] : List Int32) i_) < (48 : Int32))) rfl ?_
     refine zc X8 Bd d4_35 ?_
     exact retN X8 hx (t := .boolean) Bd.returns (by simp) (hb hby d4_36) hr))
   ·
    skip
    have pr12 : Pr p e below T8 m 32 #[rv qa1, iv qi2, iv qi3, iv i_, iv (own_at ([] : List Int32) i_)] [.int 57, (.int (own_at ([] : List Int32) i_))] s₁ (entryFrame m #[.ref qa1, .int qi2, .int qi3] 5) := fun t k => pr10 t (by
     show Sx p e below T8 m 25 #[rv qa1, iv qi2, iv qi3, iv i_, iv (own_at ([] : List Int32) i_)] [.int 48, (.int (own_at ([] : List Int32) i_))] _
     refine zn X8 Bd d4_25 (XT.ii_lt_f (hc11 : ¬ ((own_at ([] : List Int32) i_) < (48 : Int32)))) ?_
     refine zi X8 Bd d4_28 rfl ?_
     refine zd X8 Bd d4_30 ?_
     exact k)
    by_cases hc13 : (57 : Int32) < (own_at ([] : List Int32) i_)
    ·
     skip
     refine own_lvF X8 Bd (.int 0) e8q ⟨(by rw [own_isd, if_pos hc3, hq5_1, own_dig0 hc7 hq5_0 (Or.inr hc13)]), N8, rfl⟩ rfl (fun fs hr => pr12 _ (by
      show Sx p e below T8 m 32 #[rv qa1, iv qi2, iv qi3, iv i_, iv (own_at ([] : List Int32) i_)] [.int 57, (.int (own_at ([] : List Int32) i_))] _
      refine zn X8 Bd d4_32 (XT.ii_le_f (hc13 : (57 : Int32) < (own_at ([] : List Int32) i_))) ?_
      refine zc X8 Bd d4_35 ?_
      exact retN X8 hx (t := .boolean) Bd.returns (by simp) (hb hby d4_36) hr))
    ·
     skip
     have pr14 : Pr p e below T8 m 9 #[rv qa1, iv qi2, iv qi3, iv (i_ + (1 : Int32)), iv (own_at ([] : List Int32) i_)] [] s₁ (entryFrame m #[.ref qa1, .int qi2, .int qi3] 5) := fun t k => pr12 t (by
      show Sx p e below T8 m 32 #[rv qa1, iv qi2, iv qi3, iv i_, iv (own_at ([] : List Int32) i_)] [.int 57, (.int (own_at ([] : List Int32) i_))] _
      refine zy (pc' := 37) X8 Bd d4_32 (XT.ii_le_t (hc13 : ¬ ((57 : Int32) < (own_at ([] : List Int32) i_)))) rfl ?_
      refine XS.iinc X8.here hx rfl (hb hby d4_37) rfl (l' := #[rv qa1, iv qi2, iv qi3, iv (i_ + (1 : Int32)), iv (own_at ([] : List Int32) i_)]) rfl ?_
      refine zg (pc' := 9) X8 Bd d4_40 rfl ?_
      exact k)
     exact ih5 T8 _ (i_ + (1 : Int32)) (own_decr hq5_0 hc7) ⟨iv (own_at ([] : List Int32) i_), X8, e8q, N8, (own_inc0 hq5_0 hc7), (hq5_1.trans (own_digS hc7 hq5_0 hc11 hc13)), (Or.inr ⟨_, rfl, rfl⟩), (fun t k => pr14 t k)⟩
  ·
   skip
   refine own_lvF X5 Bd (.int 1) e5 ⟨(by rw [own_isd, if_pos hc3, hq5_1, own_dig1 hc7]), N5, rfl⟩ rfl (fun fs hr => pr6 _ (by
    show Sx p e below T5 m 11 #[rv qa1, iv qi2, iv qi3, iv i_, sl5_4] [.int qi3, .int i_] _
    refine zy (pc' := 43) X5 Bd d4_11 (XT.ii_ge_t (hc7 : ¬ (i_ < qi3))) rfl ?_
    refine zc X5 Bd d4_43 ?_
    exact retN X5 hx (t := .boolean) Bd.returns (by simp) (hb hby d4_44) hr))
 ·
  skip
  refine own_lvF X0 Bd (.int 0) e0 ⟨(by rw [own_isd, if_neg hc3]), N0, rfl⟩ rfl (fun fs hr => pr2 _ (by
   show Sx p e below s₁ m 2 #[rv qa1, iv qi2, iv qi3, .unset, .unset] [.int qi3, .int qi2] _
   refine zn X0 Bd d4_2 (XT.ii_lt_f (hc3 : ¬ (qi2 < qi3))) ?_
   refine zc X0 Bd d4_5 ?_
   exact retN X0 hx (t := .boolean) Bd.returns (by simp) (hb hby d4_6) hr))
theorem pd5 : parseMethodDescriptor "(Ljava/lang/String;II)Z" = some ⟨[(.object "java/lang/String"), .int, .int], some .boolean⟩ := by decide +kernel
-- com/example/backstop/backstop/WholeNumbers.isDigits(Ljava/lang/String;II)Z
def Q9 (Z : State)  (h0 : Heap) (n0 : Nat) (v : Option Value) (h : Heap) (L : List Loc) : Prop := v = some (.int 0) ∧ Fr n0 L ∧ h = h0
theorem rm9 (l : Launch) (Z : State) (a0 : Array Value) (hw : HW a0 Z) (qa1 : Addr) (qi2 : Int32) (qi3 : Int32) (h0 : Heap) (n0 : Nat) (X00 : Old Z n0 h0) (hc1 : ¬ (qi2 < qi3)) :
    MF l Z Y4_ prog_50_method_3_code 5 (some .boolean) (Rm 0 0 0 0) #[.ref qa1, .int qi2, .int qi3] h0 (Q9 Z  h0 n0) := by
 refine own_sF pn2 rfl (fun m => ef5 m qa1 qi2 qi3) ?_
 intro p e s m below meth c s₁ Bd hZ hh hx hby hml hown hnm X0 e0 pre0
 have N0 := Fr.nil n0
 refine own_lvF X0 Bd (.int 0) e0 ⟨rfl, N0, rfl⟩ rfl (fun fs hr => pre0 _ (by
  show Sx p e below s₁ m 0 #[rv qa1, iv qi2, iv qi3, .unset, .unset] [] _
  refine zj X0 Bd d4_0 rfl ?_
  refine zj X0 Bd d4_1 rfl ?_
  refine zn X0 Bd d4_2 (XT.ii_lt_f (hc1 : ¬ (qi2 < qi3))) ?_
  refine zc X0 Bd d4_5 ?_
  exact retN X0 hx (t := .boolean) Bd.returns (by simp) (hb hby d4_6) hr))
theorem d0_8 : decode method_4_code 8 = .ok (.iload_n 0, 1) := by decide +kernel
theorem d0_9 : decode method_4_code 9 = .ok (.iconst 1, 1) := by decide +kernel
theorem d0_10 : decode method_4_code 10 = .ok (.if_icmp .ne 11, 3) := by decide +kernel
theorem d0_13 : decode method_4_code 13 = .ok (.iconst 1, 1) := by decide +kernel
theorem d0_14 : decode method_4_code 14 = .ok (.newarray .char, 2) := by decide +kernel
theorem d0_16 : decode method_4_code 16 = .ok (.dup, 1) := by decide +kernel
theorem d0_17 : decode method_4_code 17 = .ok (.iconst 0, 1) := by decide +kernel
theorem d0_18 : decode method_4_code 18 = .ok (.iload_n 1, 1) := by decide +kernel
theorem d0_19 : decode method_4_code 19 = .ok (.castore, 1) := by decide +kernel
theorem d0_20 : decode method_4_code 20 = .ok (.areturn, 1) := by decide +kernel
-- com/example/backstop/backstop/WholeNumbersIsDigitsPinLaw.chars(ICCCC)[C
def Q10 (Z : State) (qi2 : Int32) (h0 : Heap) (n0 : Nat) (v : Option Value) (h : Heap) (L : List Loc) : Prop := ∃ b3 : Addr, ∃ c3 : ClassId, v = some (.ref b3) ∧ Fr n0 L ∧ Keep h0 h [] ∧ h0.size ≤ b3 ∧ Arv Z h b3 c3 .char (1 : Int32) [.int qi2] (.int 0)
theorem rm10 (l : Launch) (Z : State) (a0 : Array Value) (hw : HW a0 Z) (qi1 : Int32) (qi2 : Int32) (qi3 : Int32) (qi4 : Int32) (qi5 : Int32) (h0 : Heap) (n0 : Nat) (X00 : Old Z n0 h0) (hc1 : ¬ (qi1 = (0 : Int32))) (hc2 : qi1 = (1 : Int32)) (hr9 : nar .char qi2 = qi2) :
    MF l Z Y0_ method_4_code 5 (some (.array .char)) (Rm 0 1 1 0) #[.int qi1, .int qi2, .int qi3, .int qi4, .int qi5] h0 (Q10 Z qi2 h0 n0) := by
 refine own_sF pn0 rfl (fun m => ef1 m qi1 qi2 qi3 qi4 qi5) ?_
 intro p e s m below meth c s₁ Bd hZ hh hx hby hml hown hnm X0 e0 pre0
 have N0 := Fr.nil n0
 obtain ⟨T3, h3, c3, X3, e3, E3, A3, st3⟩ := newP (aty := .char) X0 hx hZ (w8_ hw) e0 (g := (mkF m 14 #[iv qi1, iv qi2, iv qi3, iv qi4, iv qi5] [.int 1])) rfl (hb hby d0_14) rfl (by decide) (cap := 1) (by decide) (lE rfl) (lE rfl) (lE rfl)
 obtain ⟨b3, g3⟩ : ∃ z, z = h0.size := ⟨_, rfl⟩
 rw [← g3] at A3 st3
 replace X3 : Stand p l e (Rm 0 1 1 0) s m #[.int qi1, .int qi2, .int qi3, .int qi4, .int qi5] below meth c T3 _ 1 1 := X3
 have K4 := (Keep.refl h0 []).ext E3
 have A5_ : Arv Z h3 b3 c3 .char (1 : Int32) [.int 0] (.int 0) := (Arv.new A3 (by decide)).pad (pad_rep [] (.int 0) 1)
 have av6 := A5_
 obtain ⟨cl6, Ar6, q6, S6, N6, H6, Gf6⟩ := av6
 have hin7 : ¬ ((0 : Int32) < 0 ∨ cl6.slots.size ≤ ((0 : Int32) : Int32).toNatClampNeg) := inb_of S6 (by decide)
 obtain ⟨T7, h7, X7, e7, W7, st7⟩ := stC X3 hx hZ e3 Ar6 (j := (0 : Int32)) hin7 (g := (mkF m 19 #[iv qi1, iv qi2, iv qi3, iv qi4, iv qi5] [.int qi2, .int 0, .ref b3, .ref b3])) rfl rfl (hb hby d0_19)
 have g_b3 : n0 ≤ b3 := Nat.le_trans (Nat.le_trans (Nat.le_of_eq X00.1.symm) X00.2.1) (Nat.le_of_eq g3.symm)
 have N7_ := Fr.snoc X7 N0 g_b3
 have sz_b3 : h0.size ≤ b3 := (Nat.le_of_eq g3.symm)
 have K8 := K4.wr W7 (Or.inr sz_b3)
 have A10_ : Arv Z h7 b3 c3 .char (1 : Int32) [.int qi2] (.int 0) := by have q := Arv.set (v := .int (nar .char qi2)) Ar6 q6 S6 N6 H6 Gf6 (fits_nar_char _) W7 0 (by decide) (lE rfl); rw [(hr9 : nar .char qi2 = qi2)] at q; exact q
 refine own_lvF X7 Bd (.ref b3) e7 ⟨b3, c3, rfl, N7_, K8, sz_b3, A10_⟩ rfl (fun fs hr => pre0 _ (by
  show Sx p e below s₁ m 0 #[iv qi1, iv qi2, iv qi3, iv qi4, iv qi5] [] _
  refine zj X0 Bd d0_0 rfl ?_
  refine zp (pc' := 8) X0 Bd d0_1 (XT.i0_ne_t (hc1 : ¬ (qi1 = (0 : Int32)))) rfl ?_
  refine zj X0 Bd d0_8 rfl ?_
  refine zc X0 Bd d0_9 ?_
  refine zn X0 Bd d0_10 (XT.ii_ne_f (hc2 : qi1 = (1 : Int32))) ?_
  refine zc X0 Bd d0_13 ?_
  refine st3 _ ?_
  refine XS.dup X3.here hx rfl (hb hby d0_16) rfl rfl ?_
  refine zc X3 Bd d0_17 ?_
  refine zj X3 Bd d0_18 rfl ?_
  refine st7 _ ?_
  exact retOut X7 hx Bd.returns rfl (Or.inr (Or.inr (Or.inr (Or.inr ⟨rfl, rfl, rfl⟩)))) (hb hby d0_20) hr))
theorem d2_27 : decode jdk_42_method_149_code 27 = .ok (.getstatic 38, 3) := by decide +kernel
theorem d2_30 : decode jdk_42_method_149_code 30 = .ok (.ifCond .eq 28, 3) := by decide +kernel
theorem d2_33 : decode jdk_42_method_149_code 33 = .ok (.aload_n 1, 1) := by decide +kernel
theorem d2_34 : decode jdk_42_method_149_code 34 = .ok (.iload_n 2, 1) := by decide +kernel
theorem d2_35 : decode jdk_42_method_149_code 35 = .ok (.iload_n 3, 1) := by decide +kernel
theorem d2_36 : decode jdk_42_method_149_code 36 = .ok (.invokestatic 177, 3) := by decide +kernel
theorem ef6 (m : MethodId) (x0 : Addr) (x1 : Int32) (x2 : Int32) : entryFrame m #[.ref x0, .int x1, .int x2] 6 = mkF m 0 #[.val (.ref x0), .val (.int x1), .val (.int x2), .unset, .unset, .unset] [] := by first | (simp [entryFrame, mkF, argsToLocals, Value.category]; done) | rfl
theorem pn3 : plainName "java/lang/StringUTF16" = true := by first | (simp [plainName, overriddenIn]; done) | decide +kernel
theorem d5_0 : decode jdk_52_method_16_code 0 = .ok (.iload_n 2, 1) := by decide +kernel
theorem d5_1 : decode jdk_52_method_16_code 1 = .ok (.newarray .byte, 2) := by decide +kernel
theorem d5_3 : decode jdk_52_method_16_code 3 = .ok (.astore_n 3, 1) := by decide +kernel
theorem d5_4 : decode jdk_52_method_16_code 4 = .ok (.aload_n 0, 1) := by decide +kernel
theorem d5_5 : decode jdk_52_method_16_code 5 = .ok (.iload_n 1, 1) := by decide +kernel
theorem d5_6 : decode jdk_52_method_16_code 6 = .ok (.aload_n 3, 1) := by decide +kernel
theorem d5_7 : decode jdk_52_method_16_code 7 = .ok (.iconst 0, 1) := by decide +kernel
theorem d5_8 : decode jdk_52_method_16_code 8 = .ok (.iload_n 2, 1) := by decide +kernel
theorem d5_9 : decode jdk_52_method_16_code 9 = .ok (.invokestatic 115, 3) := by decide +kernel
theorem ef7 (m : MethodId) (x0 : Addr) (x1 : Int32) (x2 : Addr) (x3 : Int32) (x4 : Int32) : entryFrame m #[.ref x0, .int x1, .ref x2, .int x3, .int x4] 7 = mkF m 0 #[.val (.ref x0), .val (.int x1), .val (.ref x2), .val (.int x3), .val (.int x4), .unset, .unset] [] := by first | (simp [entryFrame, mkF, argsToLocals, Value.category]; done) | rfl
theorem d6_0 : decode jdk_52_method_21_code 0 = .ok (.iconst 0, 1) := by decide +kernel
theorem d6_1 : decode jdk_52_method_21_code 1 = .ok (.istore 5, 2) := by decide +kernel
theorem d6_3 : decode jdk_52_method_21_code 3 = .ok (.iload 5, 2) := by decide +kernel
theorem d6_5 : decode jdk_52_method_21_code 5 = .ok (.iload 4, 2) := by decide +kernel
theorem d6_7 : decode jdk_52_method_21_code 7 = .ok (.if_icmp .ge 37, 3) := by decide +kernel
theorem d6_10 : decode jdk_52_method_21_code 10 = .ok (.aload_n 0, 1) := by decide +kernel
theorem d6_11 : decode jdk_52_method_21_code 11 = .ok (.iload_n 1, 1) := by decide +kernel
theorem d6_12 : decode jdk_52_method_21_code 12 = .ok (.caload, 1) := by decide +kernel
theorem d6_13 : decode jdk_52_method_21_code 13 = .ok (.istore 6, 2) := by decide +kernel
theorem d6_15 : decode jdk_52_method_21_code 15 = .ok (.iload 6, 2) := by decide +kernel
theorem d6_17 : decode jdk_52_method_21_code 17 = .ok (.sipush 255, 3) := by decide +kernel
theorem d6_20 : decode jdk_52_method_21_code 20 = .ok (.if_icmp .le 6, 3) := by decide +kernel
theorem d6_23 : decode jdk_52_method_21_code 23 = .ok (.iload 5, 2) := by decide +kernel
theorem d6_25 : decode jdk_52_method_21_code 25 = .ok (.ireturn, 1) := by decide +kernel
-- java/lang/StringUTF16.compress([CI[BII)I
def Q11 (Z : State)  (h0 : Heap) (n0 : Nat) (v : Option Value) (h : Heap) (L : List Loc) : Prop := v = some (.int 0) ∧ Fr n0 L ∧ h = h0
theorem rm11 (l : Launch) (Z : State) (a0 : Array Value) (hw : HW a0 Z) (qa1 : Addr) (qa2 : Addr) (qk3 : ClassId) (qi4 : Int32) (h0 : Heap) (n0 : Nat) (X00 : Old Z n0 h0) (A_qa1 : Arv Z h0 qa1 qk3 .char (1 : Int32) [.int qi4] (.int 0)) (hc3 : (255 : Int32) < qi4) :
    MF l Z Y6_ jdk_52_method_21_code 7 (some .int) (Rm 0 0 0 0) #[.ref qa1, .int 0, .ref qa2, .int 0, .int 1] h0 (Q11 Z  h0 n0) := by
 refine own_sF pn3 rfl (fun m => ef7 m qa1 (0 : Int32) qa2 (0 : Int32) (1 : Int32)) ?_
 intro p e s m below meth c s₁ Bd hZ hh hx hby hml hown hnm X0 e0 pre0
 have N0 := Fr.nil n0
 have av1 := A_qa1
 obtain ⟨cl1, Ar1, q1, S1, N1, H1, Gf1⟩ := av1
 have hin2 : ¬ ((0 : Int32) < 0 ∨ cl1.slots.size ≤ ((0 : Int32) : Int32).toNatClampNeg) := inb_of S1 (by decide)
 have hat2 : cl1.slots[((0 : Int32) : Int32).toNatClampNeg]? = some (.int qi4) := Has.at H1 hin2 rfl
 refine own_lvF X0 Bd (.int 0) e0 ⟨rfl, N0, rfl⟩ rfl (fun fs hr => pre0 _ (by
  show Sx p e below s₁ m 0 #[rv qa1, iv 0, rv qa2, iv 0, iv 1, .unset, .unset] [] _
  refine zc X0 Bd d6_0 ?_
  refine zs X0 Bd d6_1 (l' := #[rv qa1, iv 0, rv qa2, iv 0, iv 1, iv 0, .unset]) rfl ?_
  refine zi X0 Bd d6_3 rfl ?_
  refine zi X0 Bd d6_5 rfl ?_
  refine zn X0 Bd d6_7 (XT.ii_ge_f ((by decide) : (0 : Int32) < (1 : Int32))) ?_
  refine zb X0 Bd d6_10 rfl rfl ?_
  refine zj X0 Bd d6_11 rfl ?_
  refine X0.caload hx (j := (0 : Int32)) (v := (.int qi4)) (by rw [e0]; exact Ar1.1) (State.isArrayOf_alike hZ.alike Ar1.2.1) Ar1.2.2 hin2 hat2 (g := (mkF m 12 #[rv qa1, iv 0, rv qa2, iv 0, iv 1, iv 0, .unset] [.int 0, .ref qa1])) rfl rfl (hb hby d6_12) _ ?_
  refine zs X0 Bd d6_13 (l' := #[rv qa1, iv 0, rv qa2, iv 0, iv 1, iv 0, iv qi4]) rfl ?_
  refine zi X0 Bd d6_15 rfl ?_
  refine XS.sipush X0.here hx rfl (hb hby d6_17) ?_
  refine zn X0 Bd d6_20 (XT.ii_le_f (hc3 : (255 : Int32) < qi4)) ?_
  refine zi X0 Bd d6_23 rfl ?_
  exact retI X0 hx Bd.returns (hb hby d6_25) hr))
theorem pd6 : parseMethodDescriptor "([CI[BII)I" = some ⟨[(.array .char), .int, (.array .byte), .int, .int], some .int⟩ := by decide +kernel
theorem d5_12 : decode jdk_52_method_16_code 12 = .ok (.istore 4, 2) := by decide +kernel
theorem d5_14 : decode jdk_52_method_16_code 14 = .ok (.iload 4, 2) := by decide +kernel
theorem d5_16 : decode jdk_52_method_16_code 16 = .ok (.iload_n 2, 1) := by decide +kernel
theorem d5_17 : decode jdk_52_method_16_code 17 = .ok (.if_icmp .eq 40, 3) := by decide +kernel
theorem d5_20 : decode jdk_52_method_16_code 20 = .ok (.aload_n 0, 1) := by decide +kernel
theorem d5_21 : decode jdk_52_method_16_code 21 = .ok (.iload_n 1, 1) := by decide +kernel
theorem d5_22 : decode jdk_52_method_16_code 22 = .ok (.iload_n 2, 1) := by decide +kernel
theorem d5_23 : decode jdk_52_method_16_code 23 = .ok (.invokestatic 119, 3) := by decide +kernel
theorem d7_0 : decode jdk_52_method_14_code 0 = .ok (.iload_n 2, 1) := by decide +kernel
theorem d7_1 : decode jdk_52_method_14_code 1 = .ok (.invokestatic 107, 3) := by decide +kernel
theorem ef8 (m : MethodId) (x0 : Int32) : entryFrame m #[.int x0] 1 = mkF m 0 #[.val (.int x0)] [] := by first | (simp [entryFrame, mkF, argsToLocals, Value.category]; done) | rfl
theorem d8_0 : decode jdk_52_method_2_code 0 = .ok (.iload_n 0, 1) := by decide +kernel
theorem d8_1 : decode jdk_52_method_2_code 1 = .ok (.invokestatic 11, 3) := by decide +kernel
theorem d9_0 : decode jdk_52_method_3_code 0 = .ok (.iload_n 0, 1) := by decide +kernel
theorem d9_1 : decode jdk_52_method_3_code 1 = .ok (.ifCond .ge 11, 3) := by decide +kernel
theorem d9_12 : decode jdk_52_method_3_code 12 = .ok (.iload_n 0, 1) := by decide +kernel
theorem d9_13 : decode jdk_52_method_3_code 13 = .ok (.ldc 20, 2) := by decide +kernel
theorem d9_15 : decode jdk_52_method_3_code 15 = .ok (.if_icmp .lt 40, 3) := by decide +kernel
theorem d9_55 : decode jdk_52_method_3_code 55 = .ok (.iload_n 0, 1) := by decide +kernel
theorem d9_56 : decode jdk_52_method_3_code 56 = .ok (.iconst 1, 1) := by decide +kernel
theorem d9_57 : decode jdk_52_method_3_code 57 = .ok (.ishl, 1) := by decide +kernel
theorem d9_58 : decode jdk_52_method_3_code 58 = .ok (.ireturn, 1) := by decide +kernel
-- java/lang/StringUTF16.newBytesLength(I)I
def Q12 (Z : State)  (h0 : Heap) (n0 : Nat) (v : Option Value) (h : Heap) (L : List Loc) : Prop := v = some (.int 2) ∧ Fr n0 L ∧ h = h0
theorem rm12 (l : Launch) (Z : State) (a0 : Array Value) (hw : HW a0 Z)  (h0 : Heap) (n0 : Nat) (X00 : Old Z n0 h0)  :
    MF l Z Y7_ jdk_52_method_3_code 1 (some .int) (Rm 0 0 0 0) #[.int 1] h0 (Q12 Z  h0 n0) := by
 refine own_sF pn3 rfl (fun m => ef8 m (1 : Int32)) ?_
 intro p e s m below meth c s₁ Bd hZ hh hx hby hml hown hnm X0 e0 pre0
 have N0 := Fr.nil n0
 refine own_lvF X0 Bd (.int 2) e0 ⟨rfl, N0, rfl⟩ rfl (fun fs hr => pre0 _ (by
  show Sx p e below s₁ m 0 #[iv 1] [] _
  refine zj X0 Bd d9_0 rfl ?_
  refine zp (pc' := 12) X0 Bd d9_1 (XT.i0_ge_t ((by decide) : ¬ ((1 : Int32) < (0 : Int32)))) rfl ?_
  refine zj X0 Bd d9_12 rfl ?_
  refine X0.ldcInt hx hown (mvT hZ (w51_ hw)) (g := (mkF m 13 #[iv 1] [.int 1])) rfl (hb hby d9_13) _ ?_
  refine zy (pc' := 55) X0 Bd d9_15 (XT.ii_lt_t ((by decide) : (1 : Int32) < (1073741823 : Int32))) rfl ?_
  refine zj X0 Bd d9_55 rfl ?_
  refine zc X0 Bd d9_56 ?_
  refine XS.ishl X0.here hx rfl (hb hby d9_57) rfl ?_
  exact retI X0 hx Bd.returns (hb hby d9_58) hr))
theorem pd7 : parseMethodDescriptor "(I)I" = some ⟨[.int], some .int⟩ := by decide +kernel
theorem d8_4 : decode jdk_52_method_2_code 4 = .ok (.newarray .byte, 2) := by decide +kernel
theorem d8_6 : decode jdk_52_method_2_code 6 = .ok (.areturn, 1) := by decide +kernel
-- java/lang/StringUTF16.newBytesFor(I)[B
def Q13 (Z : State)  (h0 : Heap) (n0 : Nat) (v : Option Value) (h : Heap) (L : List Loc) : Prop := ∃ b2 : Addr, ∃ c2 : ClassId, v = some (.ref b2) ∧ Fr n0 L ∧ Keep h0 h [] ∧ h0.size ≤ b2 ∧ Arv Z h b2 c2 .byte (2 : Int32) [.int 0, .int 0] (.int 0)
theorem rm13 (l : Launch) (Z : State) (a0 : Array Value) (hw : HW a0 Z)  (h0 : Heap) (n0 : Nat) (X00 : Old Z n0 h0)  :
    MF l Z Y8_ jdk_52_method_2_code 1 (some (.array .byte)) (Rm 1 1 2 12) #[.int 1] h0 (Q13 Z  h0 n0) := by
 refine own_sF pn3 rfl (fun m => ef8 m (1 : Int32)) ?_
 intro p e s m below meth c s₁ Bd hZ hh hx hby hml hown hnm X0 e0 pre0
 have N0 := Fr.nil n0
 obtain ⟨_, T1, L1, X1, hQ1, st1⟩ := own_cS 0 0 [] 1 #[iv 1] X0 hx hZ hown (w48_ hw) (w49_ hw) (w22_ hw) (w50_ hw) (rm12 l Z a0 hw   h0 n0 X00 ) pd7 hml.symm (hb hby d8_1) e0 rfl rfl rfl rfl (by decide)
 obtain ⟨rfl, N1q, e1q⟩ := hQ1
 have N1 := Fr.app N0 N1q
 obtain ⟨T2, h2, c2, X2, e2, E2, A2, st2⟩ := newP (aty := .byte) X1 hx hZ (w24_ hw) e1q (g := (mkF m 4 #[iv 1] [.int 2])) rfl (hb hby d8_4) rfl (by decide) (cap := 2) (by decide) (lE rfl) (lE rfl) (lE rfl)
 obtain ⟨b2, g2⟩ : ∃ z, z = h0.size := ⟨_, rfl⟩
 rw [← g2] at A2 st2
 replace X2 : Stand p l e (Rm 1 1 2 12) s m #[.int 1] below meth c T2 _ 1 2 := X2
 have K3 := (Keep.refl h0 []).ext E2
 have A4_ : Arv Z h2 b2 c2 .byte (2 : Int32) [.int 0, .int 0] (.int 0) := (Arv.new A2 (by decide)).pad (pad_rep [] (.int 0) 2)
 have sz_b2 : h0.size ≤ b2 := (Nat.le_of_eq g2.symm)
 refine own_lvF X2 Bd (.ref b2) e2 ⟨b2, c2, rfl, N1, K3, sz_b2, A4_⟩ rfl (fun fs hr => pre0 _ (by
  show Sx p e below s₁ m 0 #[iv 1] [] _
  refine zj X0 Bd d8_0 rfl ?_
  refine st1 _ ?_
  refine st2 _ ?_
  exact retOut X2 hx Bd.returns rfl (Or.inr (Or.inr (Or.inr (Or.inr ⟨rfl, rfl, rfl⟩)))) (hb hby d8_6) hr))
theorem pd8 : parseMethodDescriptor "(I)[B" = some ⟨[.int], some (.array .byte)⟩ := by decide +kernel
theorem d7_4 : decode jdk_52_method_14_code 4 = .ok (.astore_n 3, 1) := by decide +kernel
theorem d7_5 : decode jdk_52_method_14_code 5 = .ok (.iconst 0, 1) := by decide +kernel
theorem d7_6 : decode jdk_52_method_14_code 6 = .ok (.istore 4, 2) := by decide +kernel
theorem d7_8 : decode jdk_52_method_14_code 8 = .ok (.iload 4, 2) := by decide +kernel
theorem d7_10 : decode jdk_52_method_14_code 10 = .ok (.iload_n 2, 1) := by decide +kernel
theorem d7_11 : decode jdk_52_method_14_code 11 = .ok (.if_icmp .ge 21, 3) := by decide +kernel
theorem d7_14 : decode jdk_52_method_14_code 14 = .ok (.aload_n 3, 1) := by decide +kernel
theorem d7_15 : decode jdk_52_method_14_code 15 = .ok (.iload 4, 2) := by decide +kernel
theorem d7_17 : decode jdk_52_method_14_code 17 = .ok (.aload_n 0, 1) := by decide +kernel
theorem d7_18 : decode jdk_52_method_14_code 18 = .ok (.iload_n 1, 1) := by decide +kernel
theorem d7_19 : decode jdk_52_method_14_code 19 = .ok (.caload, 1) := by decide +kernel
theorem d7_20 : decode jdk_52_method_14_code 20 = .ok (.invokestatic 111, 3) := by decide +kernel
theorem ef9 (m : MethodId) (x0 : Addr) (x1 : Int32) (x2 : Int32) : entryFrame m #[.ref x0, .int x1, .int x2] 3 = mkF m 0 #[.val (.ref x0), .val (.int x1), .val (.int x2)] [] := by first | (simp [entryFrame, mkF, argsToLocals, Value.category]; done) | rfl
theorem d10_0 : decode jdk_52_method_4_code 0 = .ok (.getstatic 44, 3) := by decide +kernel
theorem d10_3 : decode jdk_52_method_4_code 3 = .ok (.ifCond .ne 25, 3) := by decide +kernel
theorem d10_28 : decode jdk_52_method_4_code 28 = .ok (.iload_n 1, 1) := by decide +kernel
theorem d10_29 : decode jdk_52_method_4_code 29 = .ok (.iconst 1, 1) := by decide +kernel
theorem d10_30 : decode jdk_52_method_4_code 30 = .ok (.ishl, 1) := by decide +kernel
theorem d10_31 : decode jdk_52_method_4_code 31 = .ok (.istore_n 1, 1) := by decide +kernel
theorem d10_32 : decode jdk_52_method_4_code 32 = .ok (.aload_n 0, 1) := by decide +kernel
theorem d10_33 : decode jdk_52_method_4_code 33 = .ok (.iload_n 1, 1) := by decide +kernel
theorem d10_34 : decode jdk_52_method_4_code 34 = .ok (.iinc 1 1, 3) := by decide +kernel
theorem d10_37 : decode jdk_52_method_4_code 37 = .ok (.iload_n 2, 1) := by decide +kernel
theorem d10_38 : decode jdk_52_method_4_code 38 = .ok (.getstatic 59, 3) := by decide +kernel
theorem d10_41 : decode jdk_52_method_4_code 41 = .ok (.ishr, 1) := by decide +kernel
theorem d10_42 : decode jdk_52_method_4_code 42 = .ok (.i2b, 1) := by decide +kernel
theorem d10_43 : decode jdk_52_method_4_code 43 = .ok (.bastore, 1) := by decide +kernel
theorem d10_44 : decode jdk_52_method_4_code 44 = .ok (.aload_n 0, 1) := by decide +kernel
theorem d10_45 : decode jdk_52_method_4_code 45 = .ok (.iload_n 1, 1) := by decide +kernel
theorem d10_46 : decode jdk_52_method_4_code 46 = .ok (.iload_n 2, 1) := by decide +kernel
theorem d10_47 : decode jdk_52_method_4_code 47 = .ok (.getstatic 63, 3) := by decide +kernel
theorem d10_50 : decode jdk_52_method_4_code 50 = .ok (.ishr, 1) := by decide +kernel
theorem d10_51 : decode jdk_52_method_4_code 51 = .ok (.i2b, 1) := by decide +kernel
theorem d10_52 : decode jdk_52_method_4_code 52 = .ok (.bastore, 1) := by decide +kernel
theorem d10_53 : decode jdk_52_method_4_code 53 = .ok (.return_, 1) := by decide +kernel
-- java/lang/StringUTF16.putChar([BII)V
def Q14 (Z : State) (qa1 : Addr) (qi2 : Int32) (qi3 : Int32) (qk4 : ClassId) (qi5 : Int32) (qi6 : Int32) (h0 : Heap) (n0 : Nat) (v : Option Value) (h : Heap) (L : List Loc) : Prop := v = none ∧ Fr n0 L ∧ Keep h0 h [qa1] ∧ Arv Z h qa1 qk4 .byte (2 : Int32) (((([qi5, qi6] : List Int32).set (((qi2 <<< ((1 : Int32) &&& 31)))).toNatClampNeg ((((qi3 >>> ((0 : Int32) &&& 31)))).toInt8.toInt32)).set ((((qi2 <<< ((1 : Int32) &&& 31))) + (1 : Int32))).toNatClampNeg ((((qi3 >>> ((8 : Int32) &&& 31)))).toInt8.toInt32)).map Value.int) (.int 0)
theorem rm14 (l : Launch) (Z : State) (a0 : Array Value) (hw : HW a0 Z) (qa1 : Addr) (qi2 : Int32) (qi3 : Int32) (qk4 : ClassId) (qi5 : Int32) (qi6 : Int32) (h0 : Heap) (n0 : Nat) (X00 : Old Z n0 h0) (uS12 : Sta Z Z.heap "java/lang/StringUTF16" "$assertionsDisabled" "Z" (.int 1)) (uS15 : Sta Z Z.heap "java/lang/StringUTF16" "HI_BYTE_SHIFT" "I" (.int 0)) (uS18 : Sta Z Z.heap "java/lang/StringUTF16" "LO_BYTE_SHIFT" "I" (.int 8)) (A_qa1 : Arv Z h0 qa1 qk4 .byte (2 : Int32) [.int qi5, .int qi6] (.int 0)) (hc4 : ¬ (qi2 < (0 : Int32))) (hc5 : qi2 < (1 : Int32)) (g_qa1 : n0 ≤ qa1) :
    MF l Z Y9_ jdk_52_method_4_code 3 none (Rm 0 0 0 0) #[.ref qa1, .int qi2, .int qi3] h0 (Q14 Z qa1 qi2 qi3 qk4 qi5 qi6 h0 n0) := by
 refine own_sF pn3 rfl (fun m => ef9 m qa1 qi2 qi3) ?_
 intro p e s m below meth c s₁ Bd hZ hh hx hby hml hown hnm X0 e0 pre0
 have N0 := Fr.nil n0
 obtain ⟨T1, X1, e1, st1⟩ := getS2 X0 hx hZ hown (host := "") (Or.inl (w55_ hw)) Via.refl e0 (uS12.ext X00.2) (g := (mkF m 0 #[rv qa1, iv qi2, iv qi3] [])) rfl (hb hby d10_0)
 obtain ⟨T2, X2, e2, st2⟩ := getS2 X1 hx hZ hown (host := "") (Or.inl (w56_ hw)) Via.refl e1 (uS15.ext X00.2) (g := (mkF m 38 #[rv qa1, iv (((qi2 <<< ((1 : Int32) &&& 31))) + (1 : Int32)), iv qi3] [.int qi3, (.int ((qi2 <<< ((1 : Int32) &&& 31)))), .ref qa1])) rfl (hb hby d10_38)
 have A3_ : Arv Z h0 qa1 qk4 .byte (2 : Int32) (([qi5, qi6] : List Int32).map Value.int) (.int 0) := A_qa1
 have av6 := A3_
 obtain ⟨cl6, Ar6, q6, S6, N6, H6, Gf6⟩ := av6
 have hin7 : ¬ (((qi2 <<< ((1 : Int32) &&& 31))) < 0 ∨ cl6.slots.size ≤ (((qi2 <<< ((1 : Int32) &&& 31))) : Int32).toNatClampNeg) := inb_of S6 (own_shla1 hc4 hc5)
 obtain ⟨T7, h7, X7, e7, W7, st7⟩ := stB X2 hx hZ e2 Ar6 (j := ((qi2 <<< ((1 : Int32) &&& 31)))) hin7 (g := (mkF m 43 #[rv qa1, iv (((qi2 <<< ((1 : Int32) &&& 31))) + (1 : Int32)), iv qi3] [(.int ((((qi3 >>> ((0 : Int32) &&& 31)))).toInt8.toInt32)), (.int ((qi2 <<< ((1 : Int32) &&& 31)))), .ref qa1])) rfl rfl (hb hby d10_43)
 have N7_ := Fr.snoc X7 N0 g_qa1
 have K8 := (Keep.refl h0 [qa1]).wr W7 (Or.inl (mI 0 rfl))
 have A9_ : Arv Z h7 qa1 qk4 .byte (2 : Int32) ((([qi5, qi6] : List Int32).set (((qi2 <<< ((1 : Int32) &&& 31)))).toNatClampNeg ((((qi3 >>> ((0 : Int32) &&& 31)))).toInt8.toInt32)).map Value.int) (.int 0) := by rw [List.map_set]; have q := Arv.set (v := .int (nar .byte ((((qi3 >>> ((0 : Int32) &&& 31)))).toInt8.toInt32))) Ar6 q6 S6 N6 H6 Gf6 (fits_nar_byte _) W7 _ rfl (by rw [List.length_map]; exact own_ltn (k := 2) (by decide) (own_shla1 hc4 hc5)); rw [((own_nar_i2b _) : nar .byte ((((qi3 >>> ((0 : Int32) &&& 31)))).toInt8.toInt32) = ((((qi3 >>> ((0 : Int32) &&& 31)))).toInt8.toInt32))] at q; exact q
 have O11 := X00.wr W7 g_qa1
 obtain ⟨T10, X10, e10, st10⟩ := getS2 X7 hx hZ hown (host := "") (Or.inl (w57_ hw)) Via.refl e7 (uS18.ext O11.2) (g := (mkF m 47 #[rv qa1, iv (((qi2 <<< ((1 : Int32) &&& 31))) + (1 : Int32)), iv qi3] [.int qi3, (.int (((qi2 <<< ((1 : Int32) &&& 31))) + (1 : Int32))), .ref qa1])) rfl (hb hby d10_47)
 have av12 := A9_
 obtain ⟨cl12, Ar12, q12, S12, N12, H12, Gf12⟩ := av12
 have hin13 : ¬ ((((qi2 <<< ((1 : Int32) &&& 31))) + (1 : Int32)) < 0 ∨ cl12.slots.size ≤ ((((qi2 <<< ((1 : Int32) &&& 31))) + (1 : Int32)) : Int32).toNatClampNeg) := inb_of S12 (own_shlb1 hc4 hc5)
 obtain ⟨T13, h13, X13, e13, W13, st13⟩ := stB X10 hx hZ e10 Ar12 (j := (((qi2 <<< ((1 : Int32) &&& 31))) + (1 : Int32))) hin13 (g := (mkF m 52 #[rv qa1, iv (((qi2 <<< ((1 : Int32) &&& 31))) + (1 : Int32)), iv qi3] [(.int ((((qi3 >>> ((8 : Int32) &&& 31)))).toInt8.toInt32)), (.int (((qi2 <<< ((1 : Int32) &&& 31))) + (1 : Int32))), .ref qa1])) rfl rfl (hb hby d10_52)
 have N13_ := Fr.snoc X13 N7_ g_qa1
 have K14 := K8.wr W13 (Or.inl (mI 0 rfl))
 have A15_ : Arv Z h13 qa1 qk4 .byte (2 : Int32) (((([qi5, qi6] : List Int32).set (((qi2 <<< ((1 : Int32) &&& 31)))).toNatClampNeg ((((qi3 >>> ((0 : Int32) &&& 31)))).toInt8.toInt32)).set ((((qi2 <<< ((1 : Int32) &&& 31))) + (1 : Int32))).toNatClampNeg ((((qi3 >>> ((8 : Int32) &&& 31)))).toInt8.toInt32)).map Value.int) (.int 0) := by rw [List.map_set]; have q := Arv.set (v := .int (nar .byte ((((qi3 >>> ((8 : Int32) &&& 31)))).toInt8.toInt32))) Ar12 q12 S12 N12 H12 Gf12 (fits_nar_byte _) W13 _ rfl (by rw [List.length_map, List.length_set]; exact own_ltn (k := 2) (by decide) (own_shlb1 hc4 hc5)); rw [((own_nar_i2b _) : nar .byte ((((qi3 >>> ((8 : Int32) &&& 31)))).toInt8.toInt32) = ((((qi3 >>> ((8 : Int32) &&& 31)))).toInt8.toInt32))] at q; exact q
 refine own_lvN X13 Bd e13 ⟨rfl, N13_, K14, A15_⟩ rfl (fun fs hr => pre0 _ (by
  show Sx p e below s₁ m 0 #[rv qa1, iv qi2, iv qi3] [] _
  refine st1 _ ?_
  refine zp (pc' := 28) X1 Bd d10_3 (XT.i0_ne_t ((by decide) : ¬ ((1 : Int32) = (0 : Int32)))) rfl ?_
  refine zj X1 Bd d10_28 rfl ?_
  refine zc X1 Bd d10_29 ?_
  refine XS.ishl X1.here hx rfl (hb hby d10_30) rfl ?_
  refine zt X1 Bd d10_31 (l' := #[rv qa1, iv ((qi2 <<< ((1 : Int32) &&& 31))), iv qi3]) rfl ?_
  refine zb X1 Bd d10_32 rfl rfl ?_
  refine zj X1 Bd d10_33 rfl ?_
  refine XS.iinc X1.here hx rfl (hb hby d10_34) rfl (l' := #[rv qa1, iv (((qi2 <<< ((1 : Int32) &&& 31))) + (1 : Int32)), iv qi3]) rfl ?_
  refine zj X1 Bd d10_37 rfl ?_
  refine st2 _ ?_
  refine XS.ishr X2.here hx rfl (hb hby d10_41) rfl ?_
  refine XS.i2b X2.here hx rfl (hb hby d10_42) rfl ?_
  refine st7 _ ?_
  refine zb X7 Bd d10_44 rfl rfl ?_
  refine zj X7 Bd d10_45 rfl ?_
  refine zj X7 Bd d10_46 rfl ?_
  refine st10 _ ?_
  refine XS.ishr X10.here hx rfl (hb hby d10_50) rfl ?_
  refine XS.i2b X10.here hx rfl (hb hby d10_51) rfl ?_
  refine st13 _ ?_
  exact X13.returnOut hx Bd.returns (hb hby d10_53) hr))
theorem pd9 : parseMethodDescriptor "([BII)V" = some ⟨[(.array .byte), .int, .int], none⟩ := by decide +kernel
theorem d7_23 : decode jdk_52_method_14_code 23 = .ok (.iinc 1 1, 3) := by decide +kernel
theorem d7_26 : decode jdk_52_method_14_code 26 = .ok (.iinc 4 1, 3) := by decide +kernel
theorem d7_29 : decode jdk_52_method_14_code 29 = .ok (.goto (-21), 3) := by decide +kernel
theorem d7_32 : decode jdk_52_method_14_code 32 = .ok (.aload_n 3, 1) := by decide +kernel
theorem d7_33 : decode jdk_52_method_14_code 33 = .ok (.areturn, 1) := by decide +kernel
-- java/lang/StringUTF16.toBytes([CII)[B
def Q15 (Z : State) (qi3 : Int32) (h0 : Heap) (n0 : Nat) (v : Option Value) (h : Heap) (L : List Loc) : Prop := ∃ b2 : Addr, ∃ c3_ : ClassId, v = some (.ref b2) ∧ Fr n0 L ∧ Keep h0 h [] ∧ h0.size ≤ b2 ∧ Arv Z h b2 c3_ .byte (2 : Int32) [(.int ((((qi3 >>> ((0 : Int32) &&& 31)))).toInt8.toInt32)), (.int ((((qi3 >>> ((8 : Int32) &&& 31)))).toInt8.toInt32))] (.int 0)
theorem rm15 (l : Launch) (Z : State) (a0 : Array Value) (hw : HW a0 Z) (qa1 : Addr) (qk2 : ClassId) (qi3 : Int32) (h0 : Heap) (n0 : Nat) (X00 : Old Z n0 h0) (uS12 : Sta Z Z.heap "java/lang/StringUTF16" "$assertionsDisabled" "Z" (.int 1)) (uS15 : Sta Z Z.heap "java/lang/StringUTF16" "HI_BYTE_SHIFT" "I" (.int 0)) (uS18 : Sta Z Z.heap "java/lang/StringUTF16" "LO_BYTE_SHIFT" "I" (.int 8)) (A_qa1 : Arv Z h0 qa1 qk2 .char (1 : Int32) [.int qi3] (.int 0)) :
    MF l Z Y10_ jdk_52_method_14_code 5 (some (.array .byte)) (Rm 2 1 2 24) #[.ref qa1, .int 0, .int 1] h0 (Q15 Z qi3 h0 n0) := by
 refine own_sF pn3 rfl (fun m => ef5 m qa1 (0 : Int32) (1 : Int32)) ?_
 intro p e s m below meth c s₁ Bd hZ hh hx hby hml hown hnm X0 e0 pre0
 have N0 := Fr.nil n0
 obtain ⟨_, T1, L1, X1, hQ1, st1⟩ := own_cS 1 2 [] 1 #[rv qa1, iv 0, iv 1, .unset, .unset] X0 hx hZ hown (w45_ hw) (w46_ hw) (w22_ hw) (w47_ hw) (rm13 l Z a0 hw   h0 n0 X00 ) pd8 hml.symm (hb hby d7_1) e0 rfl rfl rfl rfl (by decide)
 obtain ⟨b2, c3_, rfl, N1q, K1q, w4, w5⟩ := hQ1
 have N1 := Fr.app N0 N1q
 have K6 := (Keep.refl h0 []).trans K1q (fun x q => nomatch q)
 have A8_ := A_qa1.keep K1q nin0
 have av7 := A8_
 obtain ⟨cl7, Ar7, q7, S7, N7, H7, Gf7⟩ := av7
 have hin9 : ¬ ((0 : Int32) < 0 ∨ cl7.slots.size ≤ ((0 : Int32) : Int32).toNatClampNeg) := inb_of S7 (by decide)
 have hat9 : cl7.slots[((0 : Int32) : Int32).toNatClampNeg]? = some (.int qi3) := Has.at H7 hin9 rfl
 have g_b2 : n0 ≤ b2 := Nat.le_trans (Nat.le_trans (Nat.le_of_eq X00.1.symm) X00.2.1) w4
 have O11 := X00.keep K1q all0
 obtain ⟨_, T10, L10, X10, hQ10, st10⟩ := own_cS 1 2 [] 20 #[rv qa1, iv 0, iv 1, rv b2, iv 0] X1 hx hZ hown (w52_ hw) (w53_ hw) (w22_ hw) (w54_ hw) (rm14 l Z a0 hw  b2 (0 : Int32) qi3 c3_ (0 : Int32) (0 : Int32) T1.heap n0 O11 uS12 uS15 uS18 w5 (by decide) (by decide) g_b2) pd9 hml.symm (hb hby d7_20) rfl rfl rfl rfl rfl (by decide)
 obtain ⟨rfl, N10q, K10q, w12⟩ := hQ10
 have N10 := Fr.app N1 N10q
 have sz_b2 : h0.size ≤ b2 := w4
 have K13 := K6.trans K10q (allS (Or.inr sz_b2) all0)
 have A14_ : Arv Z T10.heap b2 c3_ .byte (2 : Int32) [(.int ((((qi3 >>> ((0 : Int32) &&& 31)))).toInt8.toInt32)), (.int ((((qi3 >>> ((8 : Int32) &&& 31)))).toInt8.toInt32))] (.int 0) := w12
 refine own_lvF X10 Bd (.ref b2) rfl ⟨b2, c3_, rfl, N10, K13, sz_b2, A14_⟩ rfl (fun fs hr => pre0 _ (by
  show Sx p e below s₁ m 0 #[rv qa1, iv 0, iv 1, .unset, .unset] [] _
  refine zj X0 Bd d7_0 rfl ?_
  refine st1 _ ?_
  refine XS.astoreN X1.here hx rfl (hb hby d7_4) rfl rfl (l' := #[rv qa1, iv 0, iv 1, rv b2, .unset]) rfl ?_
  refine zc X1 Bd d7_5 ?_
  refine zs X1 Bd d7_6 (l' := #[rv qa1, iv 0, iv 1, rv b2, iv 0]) rfl ?_
  refine zi X1 Bd d7_8 rfl ?_
  refine zj X1 Bd d7_10 rfl ?_
  refine zn X1 Bd d7_11 (XT.ii_ge_f ((by decide) : (0 : Int32) < (1 : Int32))) ?_
  refine zb X1 Bd d7_14 rfl rfl ?_
  refine zi X1 Bd d7_15 rfl ?_
  refine zb X1 Bd d7_17 rfl rfl ?_
  refine zj X1 Bd d7_18 rfl ?_
  refine X1.caload hx (j := (0 : Int32)) (v := (.int qi3)) Ar7.1 (State.isArrayOf_alike hZ.alike Ar7.2.1) Ar7.2.2 hin9 hat9 (g := (mkF m 19 #[rv qa1, iv 0, iv 1, rv b2, iv 0] [.int 0, .ref qa1, .int 0, .ref b2])) rfl rfl (hb hby d7_19) _ ?_
  refine st10 _ ?_
  refine XS.iinc X10.here hx rfl (hb hby d7_23) rfl (l' := #[rv qa1, iv 1, iv 1, rv b2, iv 0]) rfl ?_
  refine XS.iinc X10.here hx rfl (hb hby d7_26) rfl (l' := #[rv qa1, iv 1, iv 1, rv b2, iv 1]) rfl ?_
  refine zg (pc' := 8) X10 Bd d7_29 rfl ?_
  refine zi X10 Bd d7_8 rfl ?_
  refine zj X10 Bd d7_10 rfl ?_
  refine zy (pc' := 32) X10 Bd d7_11 (XT.ii_ge_t ((by decide) : ¬ ((1 : Int32) < (1 : Int32)))) rfl ?_
  refine zb X10 Bd d7_32 rfl rfl ?_
  exact retOut X10 hx Bd.returns rfl (Or.inr (Or.inr (Or.inr (Or.inr ⟨rfl, rfl, rfl⟩)))) (hb hby d7_33) hr))
theorem pd10 : parseMethodDescriptor "([CII)[B" = some ⟨[(.array .char), .int, .int], some (.array .byte)⟩ := by decide +kernel
theorem d5_26 : decode jdk_52_method_16_code 26 = .ok (.astore 5, 2) := by decide +kernel
theorem d5_28 : decode jdk_52_method_16_code 28 = .ok (.aload 5, 2) := by decide +kernel
theorem d5_30 : decode jdk_52_method_16_code 30 = .ok (.iload 4, 2) := by decide +kernel
theorem d5_32 : decode jdk_52_method_16_code 32 = .ok (.invokestatic 71, 3) := by decide +kernel
theorem ef10 (m : MethodId) (x0 : Addr) (x1 : Int32) : entryFrame m #[.ref x0, .int x1] 2 = mkF m 0 #[.val (.ref x0), .val (.int x1)] [] := by first | (simp [entryFrame, mkF, argsToLocals, Value.category]; done) | rfl
theorem d11_0 : decode jdk_52_method_5_code 0 = .ok (.getstatic 44, 3) := by decide +kernel
theorem d11_3 : decode jdk_52_method_5_code 3 = .ok (.ifCond .ne 25, 3) := by decide +kernel
theorem d11_28 : decode jdk_52_method_5_code 28 = .ok (.iload_n 1, 1) := by decide +kernel
theorem d11_29 : decode jdk_52_method_5_code 29 = .ok (.iconst 1, 1) := by decide +kernel
theorem d11_30 : decode jdk_52_method_5_code 30 = .ok (.ishl, 1) := by decide +kernel
theorem d11_31 : decode jdk_52_method_5_code 31 = .ok (.istore_n 1, 1) := by decide +kernel
theorem d11_32 : decode jdk_52_method_5_code 32 = .ok (.aload_n 0, 1) := by decide +kernel
theorem d11_33 : decode jdk_52_method_5_code 33 = .ok (.iload_n 1, 1) := by decide +kernel
theorem d11_34 : decode jdk_52_method_5_code 34 = .ok (.iinc 1 1, 3) := by decide +kernel
theorem d11_37 : decode jdk_52_method_5_code 37 = .ok (.baload, 1) := by decide +kernel
theorem d11_38 : decode jdk_52_method_5_code 38 = .ok (.sipush 255, 3) := by decide +kernel
theorem d11_41 : decode jdk_52_method_5_code 41 = .ok (.iand, 1) := by decide +kernel
theorem d11_42 : decode jdk_52_method_5_code 42 = .ok (.getstatic 59, 3) := by decide +kernel
theorem d11_45 : decode jdk_52_method_5_code 45 = .ok (.ishl, 1) := by decide +kernel
theorem d11_46 : decode jdk_52_method_5_code 46 = .ok (.aload_n 0, 1) := by decide +kernel
theorem d11_47 : decode jdk_52_method_5_code 47 = .ok (.iload_n 1, 1) := by decide +kernel
theorem d11_48 : decode jdk_52_method_5_code 48 = .ok (.baload, 1) := by decide +kernel
theorem d11_49 : decode jdk_52_method_5_code 49 = .ok (.sipush 255, 3) := by decide +kernel
theorem d11_52 : decode jdk_52_method_5_code 52 = .ok (.iand, 1) := by decide +kernel
theorem d11_53 : decode jdk_52_method_5_code 53 = .ok (.getstatic 63, 3) := by decide +kernel
theorem d11_56 : decode jdk_52_method_5_code 56 = .ok (.ishl, 1) := by decide +kernel
theorem d11_57 : decode jdk_52_method_5_code 57 = .ok (.ior, 1) := by decide +kernel
theorem d11_58 : decode jdk_52_method_5_code 58 = .ok (.i2c, 1) := by decide +kernel
theorem d11_59 : decode jdk_52_method_5_code 59 = .ok (.ireturn, 1) := by decide +kernel
-- java/lang/StringUTF16.getChar([BI)C
def Q16 (Z : State) (qi2 : Int32) (qi4 : Int32) (qi5 : Int32) (h0 : Heap) (n0 : Nat) (v : Option Value) (h : Heap) (L : List Loc) : Prop := v = some (.int (((((((own_at ([qi4, qi5] : List Int32) ((qi2 <<< ((1 : Int32) &&& 31)))) &&& (255 : Int32)) <<< ((0 : Int32) &&& 31))) ||| ((((own_at ([qi4, qi5] : List Int32) (((qi2 <<< ((1 : Int32) &&& 31))) + (1 : Int32))) &&& (255 : Int32)) <<< ((8 : Int32) &&& 31))))).toUInt32.toUInt16.toUInt32.toInt32)) ∧ Fr n0 L ∧ h = h0
theorem rm16 (l : Launch) (Z : State) (a0 : Array Value) (hw : HW a0 Z) (qa1 : Addr) (qi2 : Int32) (qk3 : ClassId) (qi4 : Int32) (qi5 : Int32) (h0 : Heap) (n0 : Nat) (X00 : Old Z n0 h0) (uS12 : Sta Z Z.heap "java/lang/StringUTF16" "$assertionsDisabled" "Z" (.int 1)) (uS15 : Sta Z Z.heap "java/lang/StringUTF16" "HI_BYTE_SHIFT" "I" (.int 0)) (uS18 : Sta Z Z.heap "java/lang/StringUTF16" "LO_BYTE_SHIFT" "I" (.int 8)) (A_qa1 : Arv Z h0 qa1 qk3 .byte (2 : Int32) [.int qi4, .int qi5] (.int 0)) (hc3 : ¬ (qi2 < (0 : Int32))) (hc4 : qi2 < (1 : Int32)) :
    MF l Z Y11_ jdk_52_method_5_code 2 (some .char) (Rm 0 0 0 0) #[.ref qa1, .int qi2] h0 (Q16 Z qi2 qi4 qi5 h0 n0) := by
 refine own_sF pn3 rfl (fun m => ef10 m qa1 qi2) ?_
 intro p e s m below meth c s₁ Bd hZ hh hx hby hml hown hnm X0 e0 pre0
 have N0 := Fr.nil n0
 obtain ⟨T1, X1, e1, st1⟩ := getS2 X0 hx hZ hown (host := "") (Or.inl (w55_ hw)) Via.refl e0 (uS12.ext X00.2) (g := (mkF m 0 #[rv qa1, iv qi2] [])) rfl (hb hby d11_0)
 have A2_ : Arv Z h0 qa1 qk3 .byte (2 : Int32) (([qi4, qi5] : List Int32).map Value.int) (.int 0) := A_qa1
 have av5 := A2_
 obtain ⟨cl5, Ar5, q5, S5, N5, H5, Gf5⟩ := av5
 have hin6 : ¬ (((qi2 <<< ((1 : Int32) &&& 31))) < 0 ∨ cl5.slots.size ≤ (((qi2 <<< ((1 : Int32) &&& 31))) : Int32).toNatClampNeg) := inb_of S5 (own_shla1 hc3 hc4)
 have hat6 : cl5.slots[(((qi2 <<< ((1 : Int32) &&& 31))) : Int32).toNatClampNeg]? = some (.int (own_at ([qi4, qi5] : List Int32) ((qi2 <<< ((1 : Int32) &&& 31))))) := Has.at H5 hin6 (own_atV _ _)
 obtain ⟨T7, X7, e7, st7⟩ := getS2 X1 hx hZ hown (host := "") (Or.inl (w56_ hw)) Via.refl e1 (uS15.ext X00.2) (g := (mkF m 42 #[rv qa1, iv (((qi2 <<< ((1 : Int32) &&& 31))) + (1 : Int32))] [(.int ((own_at ([qi4, qi5] : List Int32) ((qi2 <<< ((1 : Int32) &&& 31)))) &&& (255 : Int32)))])) rfl (hb hby d11_42)
 have av8 := A2_
 obtain ⟨cl8, Ar8, q8, S8, N8, H8, Gf8⟩ := av8
 have hin9 : ¬ ((((qi2 <<< ((1 : Int32) &&& 31))) + (1 : Int32)) < 0 ∨ cl8.slots.size ≤ ((((qi2 <<< ((1 : Int32) &&& 31))) + (1 : Int32)) : Int32).toNatClampNeg) := inb_of S8 (own_shlb1 hc3 hc4)
 have hat9 : cl8.slots[((((qi2 <<< ((1 : Int32) &&& 31))) + (1 : Int32)) : Int32).toNatClampNeg]? = some (.int (own_at ([qi4, qi5] : List Int32) (((qi2 <<< ((1 : Int32) &&& 31))) + (1 : Int32)))) := Has.at H8 hin9 (own_atV _ _)
 obtain ⟨T10, X10, e10, st10⟩ := getS2 X7 hx hZ hown (host := "") (Or.inl (w57_ hw)) Via.refl e7 (uS18.ext X00.2) (g := (mkF m 53 #[rv qa1, iv (((qi2 <<< ((1 : Int32) &&& 31))) + (1 : Int32))] [(.int ((own_at ([qi4, qi5] : List Int32) (((qi2 <<< ((1 : Int32) &&& 31))) + (1 : Int32))) &&& (255 : Int32))), (.int ((((own_at ([qi4, qi5] : List Int32) ((qi2 <<< ((1 : Int32) &&& 31)))) &&& (255 : Int32)) <<< ((0 : Int32) &&& 31))))])) rfl (hb hby d11_53)
 refine own_lvF X10 Bd (.int (nar .char (((((((own_at ([qi4, qi5] : List Int32) ((qi2 <<< ((1 : Int32) &&& 31)))) &&& (255 : Int32)) <<< ((0 : Int32) &&& 31))) ||| ((((own_at ([qi4, qi5] : List Int32) (((qi2 <<< ((1 : Int32) &&& 31))) + (1 : Int32))) &&& (255 : Int32)) <<< ((8 : Int32) &&& 31))))).toUInt32.toUInt16.toUInt32.toInt32))) e10 ⟨(congrArg (fun z => some (Value.int z)) (own_nar_i2c _)), N0, rfl⟩ rfl (fun fs hr => pre0 _ (by
  show Sx p e below s₁ m 0 #[rv qa1, iv qi2] [] _
  refine st1 _ ?_
  refine zp (pc' := 28) X1 Bd d11_3 (XT.i0_ne_t ((by decide) : ¬ ((1 : Int32) = (0 : Int32)))) rfl ?_
  refine zj X1 Bd d11_28 rfl ?_
  refine zc X1 Bd d11_29 ?_
  refine XS.ishl X1.here hx rfl (hb hby d11_30) rfl ?_
  refine zt X1 Bd d11_31 (l' := #[rv qa1, iv ((qi2 <<< ((1 : Int32) &&& 31)))]) rfl ?_
  refine zb X1 Bd d11_32 rfl rfl ?_
  refine zj X1 Bd d11_33 rfl ?_
  refine XS.iinc X1.here hx rfl (hb hby d11_34) rfl (l' := #[rv qa1, iv (((qi2 <<< ((1 : Int32) &&& 31))) + (1 : Int32))]) rfl ?_
  refine X1.baloadBytes hx (j := ((qi2 <<< ((1 : Int32) &&& 31)))) (v := (.int (own_at ([qi4, qi5] : List Int32) ((qi2 <<< ((1 : Int32) &&& 31)))))) (by rw [e1]; exact Ar5.1) (State.isArrayOf_alike hZ.alike Ar5.2.1) Ar5.2.2 hin6 hat6 (g := (mkF m 37 #[rv qa1, iv (((qi2 <<< ((1 : Int32) &&& 31))) + (1 : Int32))] [(.int ((qi2 <<< ((1 : Int32) &&& 31)))), .ref qa1])) rfl rfl (hb hby d11_37) _ ?_
  refine XS.sipush X1.here hx rfl (hb hby d11_38) ?_
  refine XS.iand X1.here hx rfl (hb hby d11_41) rfl ?_
  refine st7 _ ?_
  refine XS.ishl X7.here hx rfl (hb hby d11_45) rfl ?_
  refine zb X7 Bd d11_46 rfl rfl ?_
  refine zj X7 Bd d11_47 rfl ?_
  refine X7.baloadBytes hx (j := (((qi2 <<< ((1 : Int32) &&& 31))) + (1 : Int32))) (v := (.int (own_at ([qi4, qi5] : List Int32) (((qi2 <<< ((1 : Int32) &&& 31))) + (1 : Int32))))) (by rw [e7]; exact Ar8.1) (State.isArrayOf_alike hZ.alike Ar8.2.1) Ar8.2.2 hin9 hat9 (g := (mkF m 48 #[rv qa1, iv (((qi2 <<< ((1 : Int32) &&& 31))) + (1 : Int32))] [(.int (((qi2 <<< ((1 : Int32) &&& 31))) + (1 : Int32))), .ref qa1, (.int ((((own_at ([qi4, qi5] : List Int32) ((qi2 <<< ((1 : Int32) &&& 31)))) &&& (255 : Int32)) <<< ((0 : Int32) &&& 31))))])) rfl rfl (hb hby d11_48) _ ?_
  refine XS.sipush X7.here hx rfl (hb hby d11_49) ?_
  refine XS.iand X7.here hx rfl (hb hby d11_52) rfl ?_
  refine st10 _ ?_
  refine XS.ishl X10.here hx rfl (hb hby d11_56) rfl ?_
  refine XS.ior X10.here hx rfl (hb hby d11_57) rfl ?_
  refine XS.i2c X10.here hx rfl (hb hby d11_58) rfl ?_
  exact retN X10 hx (t := .char) Bd.returns (by simp) (hb hby d11_59) hr))
theorem pd11 : parseMethodDescriptor "([BI)C" = some ⟨[(.array .byte), .int], some .char⟩ := by decide +kernel
theorem d5_35 : decode jdk_52_method_16_code 35 = .ok (.sipush 255, 3) := by decide +kernel
theorem d5_38 : decode jdk_52_method_16_code 38 = .ok (.if_icmp .gt 16, 3) := by decide +kernel
theorem d5_54 : decode jdk_52_method_16_code 54 = .ok (.aload 5, 2) := by decide +kernel
theorem d5_56 : decode jdk_52_method_16_code 56 = .ok (.areturn, 1) := by decide +kernel
-- java/lang/StringUTF16.compress([CII)[B
def Q17 (Z : State) (qi3 : Int32) (h0 : Heap) (n0 : Nat) (v : Option Value) (h : Heap) (L : List Loc) : Prop := ∃ bm : Addr, ∃ cm : ClassId, v = some (.ref bm) ∧ Fr n0 L ∧ Keep h0 h [] ∧ h0.size ≤ bm ∧ Arv Z h bm cm .byte (2 : Int32) [(.int ((((qi3 >>> ((0 : Int32) &&& 31)))).toInt8.toInt32)), (.int ((((qi3 >>> ((8 : Int32) &&& 31)))).toInt8.toInt32))] (.int 0)
theorem rm17 (l : Launch) (Z : State) (a0 : Array Value) (hw : HW a0 Z) (qa1 : Addr) (qk2 : ClassId) (qi3 : Int32) (h0 : Heap) (n0 : Nat) (X00 : Old Z n0 h0) (uS12 : Sta Z Z.heap "java/lang/StringUTF16" "$assertionsDisabled" "Z" (.int 1)) (uS15 : Sta Z Z.heap "java/lang/StringUTF16" "HI_BYTE_SHIFT" "I" (.int 0)) (uS18 : Sta Z Z.heap "java/lang/StringUTF16" "LO_BYTE_SHIFT" "I" (.int 8)) (A_qa1 : Arv Z h0 qa1 qk2 .char (1 : Int32) [.int qi3] (.int 0)) (hc1 : (255 : Int32) < (own_max ([qi3] : List Int32))) (hr20 : nar .char qi3 = qi3) :
    MF l Z Y12_ jdk_52_method_16_code 6 (some (.array .byte)) (Rm 3 2 3 40) #[.ref qa1, .int 0, .int 1] h0 (Q17 Z qi3 h0 n0) := by
 refine own_sF pn3 rfl (fun m => ef6 m qa1 (0 : Int32) (1 : Int32)) ?_
 intro p e s m below meth c s₁ Bd hZ hh hx hby hml hown hnm X0 e0 pre0
 have N0 := Fr.nil n0
 obtain ⟨T2, h2, c2, X2, e2, E2, A2, st2⟩ := newP (aty := .byte) X0 hx hZ (w24_ hw) e0 (g := (mkF m 1 #[rv qa1, iv 0, iv 1, .unset, .unset, .unset] [.int 1])) rfl (hb hby d5_1) rfl (by decide) (cap := 1) (by decide) (lE rfl) (lE rfl) (lE rfl)
 obtain ⟨b2, g2⟩ : ∃ z, z = h0.size := ⟨_, rfl⟩
 rw [← g2] at A2 st2
 replace X2 : Stand p l e (Rm 3 2 3 40) s m #[.ref qa1, .int 0, .int 1] below meth c T2 _ 1 1 := X2
 have K3 := (Keep.refl h0 []).ext E2
 have A4_ : Arv Z h2 b2 c2 .byte (1 : Int32) [.int 0] (.int 0) := (Arv.new A2 (by decide)).pad (pad_rep [] (.int 0) 1)
 have A6_ := A_qa1.ext E2
 have pr7 : Pr p e below T2 m 9 #[rv qa1, iv 0, iv 1, rv b2, .unset, .unset] [.int 1, .int 0, .ref b2, .int 0, .ref qa1] s₁ (entryFrame m #[.ref qa1, .int 0, .int 1] 6) := fun t k => pre0 t (by
  show Sx p e below s₁ m 0 #[rv qa1, iv 0, iv 1, .unset, .unset, .unset] [] _
  refine zj X0 Bd d5_0 rfl ?_
  refine st2 _ ?_
  refine XS.astoreN X2.here hx rfl (hb hby d5_3) rfl rfl (l' := #[rv qa1, iv 0, iv 1, rv b2, .unset, .unset]) rfl ?_
  refine zb X2 Bd d5_4 rfl rfl ?_
  refine zj X2 Bd d5_5 rfl ?_
  refine zb X2 Bd d5_6 rfl rfl ?_
  refine zc X2 Bd d5_7 ?_
  refine zj X2 Bd d5_8 rfl ?_
  exact k)
 by_cases hc8 : (255 : Int32) < qi3
 ·
  skip
  have A10_ := A_qa1.ext E2
  have O11 := X00.ext E2
  obtain ⟨_, T9, L9, X9, hQ9, st9⟩ := own_cS 1 1 [] 9 #[rv qa1, iv 0, iv 1, rv b2, .unset, .unset] X2 hx hZ hown (w25_ hw) (w26_ hw) (w22_ hw) (w27_ hw) (rm11 l Z a0 hw  qa1 b2 qk2 qi3 h2 n0 O11 A10_ hc8) pd6 hml.symm (hb hby d5_9) e2 rfl rfl rfl rfl (by decide)
  obtain ⟨rfl, N9q, e9q⟩ := hQ9
  have N9 := Fr.app N0 N9q
  obtain ⟨_, T12, L12, X12, hQ12, st12⟩ := own_cS 2 3 [] 23 #[rv qa1, iv 0, iv 1, rv b2, iv 0, .unset] X9 hx hZ hown (w42_ hw) (w43_ hw) (w22_ hw) (w44_ hw) (rm15 l Z a0 hw  qa1 qk2 qi3 h2 n0 O11 uS12 uS15 uS18 A10_) pd10 hml.symm (hb hby d5_23) e9q rfl rfl rfl rfl (by decide)
  obtain ⟨b13, c14_, rfl, N12q, K12q, w15, w16⟩ := hQ12
  have N12 := Fr.app N9 N12q
  have K17 := K3.trans K12q (fun x q => nomatch q)
  have O19 := O11.keep K12q all0
  obtain ⟨_, T18, L18, X18, hQ18, st18⟩ := own_cS 2 3 [] 32 #[rv qa1, iv 0, iv 1, rv b2, iv 0, rv b13] X12 hx hZ hown (w58_ hw) (w59_ hw) (w22_ hw) (w60_ hw) (rm16 l Z a0 hw  b13 (0 : Int32) c14_ ((((qi3 >>> ((0 : Int32) &&& 31)))).toInt8.toInt32) ((((qi3 >>> ((8 : Int32) &&& 31)))).toInt8.toInt32) T12.heap n0 O19 uS12 uS15 uS18 w16 (by decide) (by decide)) pd11 hml.symm (hb hby d5_32) rfl rfl rfl rfl rfl (by decide)
  obtain ⟨rfl, N18q, e18q⟩ := hQ18
  have N18 := Fr.app N12 N18q
  have sz_b13 : h0.size ≤ b13 := Nat.le_trans K3.1 w15
  refine own_lvF X18 Bd (.ref b13) e18q ⟨b13, c14_, rfl, N18, K17, sz_b13, w16⟩ rfl (fun fs hr => pr7 _ (by
   show Sx p e below T2 m 9 #[rv qa1, iv 0, iv 1, rv b2, .unset, .unset] [.int 1, .int 0, .ref b2, .int 0, .ref qa1] _
   refine st9 _ ?_
   refine zs X9 Bd d5_12 (l' := #[rv qa1, iv 0, iv 1, rv b2, iv 0, .unset]) rfl ?_
   refine zi X9 Bd d5_14 rfl ?_
   refine zj X9 Bd d5_16 rfl ?_
   refine zn X9 Bd d5_17 (XT.ii_eq_f ((by decide) : ¬ ((0 : Int32) = (1 : Int32)))) ?_
   refine zb X9 Bd d5_20 rfl rfl ?_
   refine zj X9 Bd d5_21 rfl ?_
   refine zj X9 Bd d5_22 rfl ?_
   refine st12 _ ?_
   refine XS.astore X12.here hx rfl (hb hby d5_26) rfl rfl (l' := #[rv qa1, iv 0, iv 1, rv b2, iv 0, rv b13]) rfl ?_
   refine za X12 Bd d5_28 rfl rfl ?_
   refine zi X12 Bd d5_30 rfl ?_
   refine st18 _ ?_
   refine XS.sipush X18.here hx rfl (hb hby d5_35) ?_
   refine zy (pc' := 54) X18 Bd d5_38 (XT.ii_gt_t ((own_get16l hr20 hc8) : (255 : Int32) < ((((((((((qi3 >>> ((0 : Int32) &&& 31)))).toInt8.toInt32) &&& (255 : Int32)) <<< ((0 : Int32) &&& 31))) ||| (((((((qi3 >>> ((8 : Int32) &&& 31)))).toInt8.toInt32) &&& (255 : Int32)) <<< ((8 : Int32) &&& 31))))).toUInt32.toUInt16.toUInt32.toInt32))) rfl ?_
   refine za X18 Bd d5_54 rfl rfl ?_
   exact retOut X18 hx Bd.returns rfl (Or.inr (Or.inr (Or.inr (Or.inr ⟨rfl, rfl, rfl⟩)))) (hb hby d5_56) hr))
 ·
  skip
  exact absurd hc1 (own_maxno _ (List.forall_mem_cons.mpr ⟨hc8, (fun _ q => nomatch q)⟩))
theorem d2_39 : decode jdk_42_method_149_code 39 = .ok (.astore 5, 2) := by decide +kernel
theorem d2_41 : decode jdk_42_method_149_code 41 = .ok (.aload_n 0, 1) := by decide +kernel
theorem d2_42 : decode jdk_42_method_149_code 42 = .ok (.aload 5, 2) := by decide +kernel
theorem d2_44 : decode jdk_42_method_149_code 44 = .ok (.iload_n 3, 1) := by decide +kernel
theorem d2_45 : decode jdk_42_method_149_code 45 = .ok (.invokestatic 47, 3) := by decide +kernel
theorem d12_0 : decode jdk_52_method_15_code 0 = .ok (.iload_n 1, 1) := by decide +kernel
theorem d12_1 : decode jdk_52_method_15_code 1 = .ok (.aload_n 0, 1) := by decide +kernel
theorem d12_2 : decode jdk_52_method_15_code 2 = .ok (.arraylength, 1) := by decide +kernel
theorem d12_3 : decode jdk_52_method_15_code 3 = .ok (.isub, 1) := by decide +kernel
theorem d12_4 : decode jdk_52_method_15_code 4 = .ok (.bipush 31, 2) := by decide +kernel
theorem d12_6 : decode jdk_52_method_15_code 6 = .ok (.iushr, 1) := by decide +kernel
theorem d12_7 : decode jdk_52_method_15_code 7 = .ok (.i2b, 1) := by decide +kernel
theorem d12_8 : decode jdk_52_method_15_code 8 = .ok (.ireturn, 1) := by decide +kernel
-- java/lang/StringUTF16.coderFromArrayLen([BI)B
def Q18 (Z : State)  (h0 : Heap) (n0 : Nat) (v : Option Value) (h : Heap) (L : List Loc) : Prop := v = some (.int 1) ∧ Fr n0 L ∧ h = h0
theorem rm18 (l : Launch) (Z : State) (a0 : Array Value) (hw : HW a0 Z) (qa1 : Addr) (qk2 : ClassId) (qi3 : Int32) (qi4 : Int32) (h0 : Heap) (n0 : Nat) (X00 : Old Z n0 h0) (A_qa1 : Arv Z h0 qa1 qk2 .byte (2 : Int32) [.int qi3, .int qi4] (.int 0)) :
    MF l Z Y13_ jdk_52_method_15_code 2 (some .byte) (Rm 0 0 0 0) #[.ref qa1, .int 1] h0 (Q18 Z  h0 n0) := by
 refine own_sF pn3 rfl (fun m => ef10 m qa1 (1 : Int32)) ?_
 intro p e s m below meth c s₁ Bd hZ hh hx hby hml hown hnm X0 e0 pre0
 have N0 := Fr.nil n0
 have av1 := A_qa1
 obtain ⟨cl1, Ar1, q1, S1, N1, H1, Gf1⟩ := av1
 refine own_lvF X0 Bd (.int 1) e0 ⟨rfl, N0, rfl⟩ rfl (fun fs hr => pre0 _ (by
  show Sx p e below s₁ m 0 #[rv qa1, iv 1] [] _
  refine zj X0 Bd d12_0 rfl ?_
  refine zb X0 Bd d12_1 rfl rfl ?_
  refine X0.arraylength hx (by rw [e0]; exact Ar1.1) (State.isArrayOf_alike hZ.alike Ar1.2.1) (g := (mkF m 2 #[rv qa1, iv 1] [.ref qa1, .int 1])) rfl rfl (hb hby d12_2) _ ?_
  rw [len_of S1 N1]
  refine XS.isub X0.here hx rfl (hb hby d12_3) rfl ?_
  refine zd X0 Bd d12_4 ?_
  refine XS.iushr X0.here hx rfl (hb hby d12_6) rfl ?_
  refine XS.i2b X0.here hx rfl (hb hby d12_7) rfl ?_
  exact retN X0 hx (t := .byte) Bd.returns (by simp) (hb hby d12_8) hr))
theorem pd12 : parseMethodDescriptor "([BI)B" = some ⟨[(.array .byte), .int], some .byte⟩ := by decide +kernel
theorem d2_48 : decode jdk_42_method_149_code 48 = .ok (.putfield 15, 3) := by decide +kernel
theorem d2_51 : decode jdk_42_method_149_code 51 = .ok (.aload_n 0, 1) := by decide +kernel
theorem d2_52 : decode jdk_42_method_149_code 52 = .ok (.aload 5, 2) := by decide +kernel
theorem d2_54 : decode jdk_42_method_149_code 54 = .ok (.putfield 9, 3) := by decide +kernel
theorem d2_57 : decode jdk_42_method_149_code 57 = .ok (.return_, 1) := by decide +kernel
-- java/lang/String.<init>([CIILjava/lang/Void;)V
def Q19 (Z : State) (qa1 : Addr) (qi4 : Int32) (h0 : Heap) (n0 : Nat) (v : Option Value) (h : Heap) (L : List Loc) : Prop := ∃ b6 : Addr, ∃ c7_ : ClassId, v = none ∧ Fr n0 L ∧ Keep h0 h [qa1] ∧ h0.size ≤ b6 ∧ Exa Z h qa1 "java/lang/String" ∧ Fld Z h qa1 "java/lang/String" "coder" "B" (.int 1) ∧ Fld Z h qa1 "java/lang/String" "value" "[B" (.ref b6) ∧ Arv Z h b6 c7_ .byte (2 : Int32) [(.int ((((qi4 >>> ((0 : Int32) &&& 31)))).toInt8.toInt32)), (.int ((((qi4 >>> ((8 : Int32) &&& 31)))).toInt8.toInt32))] (.int 0)
theorem rm19 (l : Launch) (Z : State) (a0 : Array Value) (hw : HW a0 Z) (G1 : Int32) (qa1 : Addr) (qa2 : Addr) (qk3 : ClassId) (qi4 : Int32) (h0 : Heap) (n0 : Nat) (X00 : Old Z n0 h0) (O2 : Sta Z Z.heap "java/lang/String" "COMPACT_STRINGS" "Z" (.int G1)) (P5 : ¬ (G1 = (0 : Int32))) (uS12 : Sta Z Z.heap "java/lang/StringUTF16" "$assertionsDisabled" "Z" (.int 1)) (uS15 : Sta Z Z.heap "java/lang/StringUTF16" "HI_BYTE_SHIFT" "I" (.int 0)) (uS18 : Sta Z Z.heap "java/lang/StringUTF16" "LO_BYTE_SHIFT" "I" (.int 8)) (A_qa2 : Arv Z h0 qa2 qk3 .char (1 : Int32) [.int qi4] (.int 0)) (hc4 : (255 : Int32) < (own_max ([qi4] : List Int32))) (hr5 : nar .char qi4 = qi4) (E_qa1 : Exa Z h0 qa1 "java/lang/String") (F_qa1_coder : Fld Z h0 qa1 "java/lang/String" "coder" "B" (.int 0)) (g_qa1 : n0 ≤ qa1) (F_qa1_value : Fld Z h0 qa1 "java/lang/String" "value" "[B" .null) :
    MF l Z Y1_ jdk_42_method_149_code 6 none (Rm 4 2 3 57) #[.ref qa1, .ref qa2, .int 0, .int 1, .null] h0 (Q19 Z qa1 qi4 h0 n0) := by
 refine own_sF pn1 rfl (fun m => ef3 m qa1 qa2 (0 : Int32) (1 : Int32)) ?_
 intro p e s m below meth c s₁ Bd hZ hh hx hby hml hown hnm X0 e0 pre0
 have N0 := Fr.nil n0
 obtain ⟨T1, X1, e1, st1⟩ := initO X0 hx hZ hown (w16_ hw) (w17_ hw) (w18_ hw) e0 (g := (mkF m 1 #[rv qa1, rv qa2, iv 0, iv 1, .val .null, .unset] [.ref qa1])) rfl hml.symm rfl (hb hby d2_1) (by decide) (W := 0) (own_hw rfl) (lE rfl)
 obtain ⟨T2, X2, e2, st2⟩ := getS2 X1 hx hZ hown (host := "") (Or.inl (w19_ hw)) Via.refl e1 (O2.ext X00.2) (g := (mkF m 27 #[rv qa1, rv qa2, iv 0, iv 1, .val .null, .unset] [])) rfl (hb hby d2_27)
 obtain ⟨_, T3, L3, X3, hQ3, st3⟩ := own_cS 2 3 [] 36 #[rv qa1, rv qa2, iv 0, iv 1, .val .null, .unset] X2 hx hZ hown (w20_ hw) (w21_ hw) (w22_ hw) (w23_ hw) (rm17 l Z a0 hw  qa2 qk3 qi4 h0 n0 X00 uS12 uS15 uS18 A_qa2 hc4 hr5) pd10 hml.symm (hb hby d2_36) e2 rfl rfl rfl rfl (by decide)
 obtain ⟨b6, c7_, rfl, N3q, K3q, w8, w9⟩ := hQ3
 have N3 := Fr.app N0 N3q
 have K10 := (Keep.refl h0 [qa1]).trans K3q (fun x q => nomatch q)
 have O12 := X00.keep K3q all0
 obtain ⟨_, T11, L11, X11, hQ11, st11⟩ := own_cS 2 3 [.ref qa1] 45 #[rv qa1, rv qa2, iv 0, iv 1, .val .null, rv b6] X3 hx hZ hown (w28_ hw) (w29_ hw) (w22_ hw) (w30_ hw) (rm18 l Z a0 hw  b6 c7_ ((((qi4 >>> ((0 : Int32) &&& 31)))).toInt8.toInt32) ((((qi4 >>> ((8 : Int32) &&& 31)))).toInt8.toInt32) T3.heap n0 O12 w9) pd12 hml.symm (hb hby d2_45) rfl rfl rfl rfl rfl (by decide)
 obtain ⟨rfl, N11q, e11q⟩ := hQ11
 have N11 := Fr.app N3 N11q
 have F13_ := F_qa1_coder.keep K3q nin0
 have E14_ := E_qa1.keep K3q
 obtain ⟨T15, h15, X15, e15, W15, st15⟩ := putF X11 hx hZ hown (host := "") (Or.inl (w31_ hw)) Via.refl e11q F13_ E14_ (Or.inr ⟨(w32_ hw), rfl, hnm⟩) (w2_ hw) (ty := .byte) (by decide) rfl rfl (g := (mkF m 48 #[rv qa1, rv qa2, iv 0, iv 1, .val .null, rv b6] [.int 1, .ref qa1])) rfl rfl (hb hby d2_48)
 have N15 := Fr.snoc X15 N11 g_qa1
 have K16 := K10.wr W15 (Or.inl (mI 0 rfl))
 have F17_ : Fld Z h15 qa1 "java/lang/String" "coder" "B" (.int 1) := F13_.same W15
 have F18_ := F_qa1_value.keep K3q nin0
 have F19_ := F18_.other W15 (Or.inr (slot_ne (Or.inr (w34_ hw)) (Or.inr (w32_ hw)) (by decide) (t := (.array .byte)) (t' := .byte) (by decide) (by decide)))
 have E20_ := E14_.wr W15
 obtain ⟨T21, h21, X21, e21, W21, st21⟩ := putF X15 hx hZ hown (host := "") (Or.inl (w33_ hw)) Via.refl e15 F19_ E20_ (Or.inr ⟨(w34_ hw), rfl, hnm⟩) (w2_ hw) (ty := (.array .byte)) (by decide) rfl rfl (g := (mkF m 54 #[rv qa1, rv qa2, iv 0, iv 1, .val .null, rv b6] [.ref b6, .ref qa1])) rfl rfl (hb hby d2_54)
 have N21 := Fr.snoc X21 N15 g_qa1
 have K22 := K16.wr W21 (Or.inl (mI 0 rfl))
 have F23_ : Fld Z h21 qa1 "java/lang/String" "value" "[B" (.ref b6) := F19_.same W21
 have sz_b6 : h0.size ≤ b6 := w8
 have E24_ := E20_.wr W21
 have F25_ := F17_.other W21 (Or.inr (slot_ne (Or.inr (w32_ hw)) (Or.inr (w34_ hw)) (by decide) (t := .byte) (t' := (.array .byte)) (by decide) (by decide)))
 have A26_ := w9.other W15 (Ne.symm (Nat.ne_of_lt (Nat.lt_of_lt_of_le E_qa1.lt w8)))
 have A27_ := A26_.other W21 (Ne.symm (Nat.ne_of_lt (Nat.lt_of_lt_of_le E_qa1.lt w8)))
 refine own_lvN X21 Bd e21 ⟨b6, c7_, rfl, N21, K22, sz_b6, E24_, F25_, F23_, A27_⟩ rfl (fun fs hr => pre0 _ (by
  show Sx p e below s₁ m 0 #[rv qa1, rv qa2, iv 0, iv 1, .val .null, .unset] [] _
  refine zb X0 Bd d2_0 rfl rfl ?_
  refine st1 _ ?_
  refine zj X1 Bd d2_4 rfl ?_
  refine zp (pc' := 27) X1 Bd d2_5 (XT.i0_ne_t ((by decide) : ¬ ((1 : Int32) = (0 : Int32)))) rfl ?_
  refine st2 _ ?_
  refine zo X2 Bd d2_30 (XT.i0_eq_f (P5 : ¬ (G1 = (0 : Int32)))) ?_
  refine zb X2 Bd d2_33 rfl rfl ?_
  refine zj X2 Bd d2_34 rfl ?_
  refine zj X2 Bd d2_35 rfl ?_
  refine st3 _ ?_
  refine XS.astore X3.here hx rfl (hb hby d2_39) rfl rfl (l' := #[rv qa1, rv qa2, iv 0, iv 1, .val .null, rv b6]) rfl ?_
  refine zb X3 Bd d2_41 rfl rfl ?_
  refine za X3 Bd d2_42 rfl rfl ?_
  refine zj X3 Bd d2_44 rfl ?_
  refine st11 _ ?_
  refine st15 _ ?_
  refine zb X15 Bd d2_51 rfl rfl ?_
  refine za X15 Bd d2_52 rfl rfl ?_
  refine st21 _ ?_
  exact X21.returnOut hx Bd.returns (hb hby d2_57) hr))
-- java/lang/String.<init>([C)V
def Q20 (Z : State) (qa1 : Addr) (qi4 : Int32) (h0 : Heap) (n0 : Nat) (v : Option Value) (h : Heap) (L : List Loc) : Prop := ∃ b5 : Addr, ∃ c6_ : ClassId, v = none ∧ Fr n0 L ∧ Keep h0 h [qa1] ∧ h0.size ≤ b5 ∧ Exa Z h qa1 "java/lang/String" ∧ Fld Z h qa1 "java/lang/String" "coder" "B" (.int 1) ∧ Fld Z h qa1 "java/lang/String" "value" "[B" (.ref b5) ∧ Arv Z h b5 c6_ .byte (2 : Int32) [(.int ((((qi4 >>> ((0 : Int32) &&& 31)))).toInt8.toInt32)), (.int ((((qi4 >>> ((8 : Int32) &&& 31)))).toInt8.toInt32))] (.int 0)
theorem rm20 (l : Launch) (Z : State) (a0 : Array Value) (hw : HW a0 Z) (G1 : Int32) (qa1 : Addr) (qa2 : Addr) (qk3 : ClassId) (qi4 : Int32) (h0 : Heap) (n0 : Nat) (X00 : Old Z n0 h0) (O2 : Sta Z Z.heap "java/lang/String" "COMPACT_STRINGS" "Z" (.int G1)) (P5 : ¬ (G1 = (0 : Int32))) (uS12 : Sta Z Z.heap "java/lang/StringUTF16" "$assertionsDisabled" "Z" (.int 1)) (uS15 : Sta Z Z.heap "java/lang/StringUTF16" "HI_BYTE_SHIFT" "I" (.int 0)) (uS18 : Sta Z Z.heap "java/lang/StringUTF16" "LO_BYTE_SHIFT" "I" (.int 8)) (A_qa2 : Arv Z h0 qa2 qk3 .char (1 : Int32) [.int qi4] (.int 0)) (hc3 : (255 : Int32) < (own_max ([qi4] : List Int32))) (hr4 : nar .char qi4 = qi4) (E_qa1 : Exa Z h0 qa1 "java/lang/String") (F_qa1_coder : Fld Z h0 qa1 "java/lang/String" "coder" "B" (.int 0)) (g_qa1 : n0 ≤ qa1) (F_qa1_value : Fld Z h0 qa1 "java/lang/String" "value" "[B" .null) :
    MF l Z Y2_ jdk_42_method_3_code 2 none (Rm 5 2 3 74) #[.ref qa1, .ref qa2] h0 (Q20 Z qa1 qi4 h0 n0) := by
 refine own_sF pn1 rfl (fun m => ef2 m qa1 qa2) ?_
 intro p e s m below meth c s₁ Bd hZ hh hx hby hml hown hnm X0 e0 pre0
 have N0 := Fr.nil n0
 have av1 := A_qa2
 obtain ⟨cl1, Ar1, q1, S1, N1, H1, Gf1⟩ := av1
 obtain ⟨_, T2, L2, X2, hQ2, st2⟩ := own_cI 2 3 [] 6 #[rv qa1, rv qa2] X0 hx hZ hown (w12_ hw) (w13_ hw) (w3_ hw) (w15_ hw) (rm19 l Z a0 hw G1 qa1 qa2 qk3 qi4 h0 n0 X00 O2 P5 uS12 uS15 uS18 A_qa2 hc3 hr4 E_qa1 F_qa1_coder g_qa1 F_qa1_value) pd1 hml.symm (hb hby d1_6) e0 rfl rfl rfl rfl rfl (by decide)
 obtain ⟨b5, c6_, rfl, N2q, K2q, w7, w8, w9, w10, w11⟩ := hQ2
 have N2 := Fr.app N0 N2q
 have K12 := (Keep.refl h0 [qa1]).trans K2q (allS (Or.inl (mI 0 rfl)) all0)
 have sz_b5 : h0.size ≤ b5 := w7
 have E13_ := E_qa1.keep K2q
 refine own_lvN X2 Bd rfl ⟨b5, c6_, rfl, N2, K12, sz_b5, E13_, w9, w10, w11⟩ rfl (fun fs hr => pre0 _ (by
  show Sx p e below s₁ m 0 #[rv qa1, rv qa2] [] _
  refine zb X0 Bd d1_0 rfl rfl ?_
  refine zb X0 Bd d1_1 rfl rfl ?_
  refine zc X0 Bd d1_2 ?_
  refine zb X0 Bd d1_3 rfl rfl ?_
  refine X0.arraylength hx (by rw [e0]; exact Ar1.1) (State.isArrayOf_alike hZ.alike Ar1.2.1) (g := (mkF m 4 #[rv qa1, rv qa2] [.ref qa2, .int 0, .ref qa2, .ref qa1])) rfl rfl (hb hby d1_4) _ ?_
  rw [len_of S1 N1]
  refine XS.aconstNull X0.here hx rfl (hb hby d1_5) ?_
  refine st2 _ ?_
  exact X2.returnOut hx Bd.returns (hb hby d1_9) hr))
theorem d13_0 : decode jdk_42_method_56_code 0 = .ok (.aload_n 0, 1) := by decide +kernel
theorem d13_1 : decode jdk_42_method_56_code 1 = .ok (.invokevirtual 492, 3) := by decide +kernel
theorem ef11 (m : MethodId) (x0 : Addr) : entryFrame m #[.ref x0] 1 = mkF m 0 #[.val (.ref x0)] [] := by first | (simp [entryFrame, mkF, argsToLocals, Value.category]; done) | rfl
theorem d14_0 : decode jdk_42_method_154_code 0 = .ok (.getstatic 38, 3) := by decide +kernel
theorem d14_3 : decode jdk_42_method_154_code 3 = .ok (.ifCond .eq 14, 3) := by decide +kernel
theorem d14_6 : decode jdk_42_method_154_code 6 = .ok (.aload_n 0, 1) := by decide +kernel
theorem d14_7 : decode jdk_42_method_154_code 7 = .ok (.getfield 15, 3) := by decide +kernel
theorem d14_10 : decode jdk_42_method_154_code 10 = .ok (.ifCond .ne 7, 3) := by decide +kernel
theorem d14_17 : decode jdk_42_method_154_code 17 = .ok (.iconst 0, 1) := by decide +kernel
theorem d14_18 : decode jdk_42_method_154_code 18 = .ok (.ireturn, 1) := by decide +kernel
-- java/lang/String.isLatin1()Z
def Q21 (Z : State)  (h0 : Heap) (n0 : Nat) (v : Option Value) (h : Heap) (L : List Loc) : Prop := v = some (.int 0) ∧ Fr n0 L ∧ h = h0
theorem rm21 (l : Launch) (Z : State) (a0 : Array Value) (hw : HW a0 Z) (G1 : Int32) (qa1 : Addr) (h0 : Heap) (n0 : Nat) (X00 : Old Z n0 h0) (O2 : Sta Z Z.heap "java/lang/String" "COMPACT_STRINGS" "Z" (.int G1)) (P5 : ¬ (G1 = (0 : Int32))) (F_qa1_coder : Fld Z h0 qa1 "java/lang/String" "coder" "B" (.int 1)) :
    MF l Z Y14_ jdk_42_method_154_code 1 (some .boolean) (Rm 0 0 0 0) #[.ref qa1] h0 (Q21 Z  h0 n0) := by
 refine own_sF pn1 rfl (fun m => ef11 m qa1) ?_
 intro p e s m below meth c s₁ Bd hZ hh hx hby hml hown hnm X0 e0 pre0
 have N0 := Fr.nil n0
 obtain ⟨T1, X1, e1, st1⟩ := getS2 X0 hx hZ hown (host := "") (Or.inl (w19_ hw)) Via.refl e0 (O2.ext X00.2) (g := (mkF m 0 #[rv qa1] [])) rfl (hb hby d14_0)
 obtain ⟨T2, X2, e2, st2⟩ := getF X1 hx hZ hown (host := "") (Or.inl (w31_ hw)) Via.refl e1 F_qa1_coder (g := (mkF m 7 #[rv qa1] [.ref qa1])) rfl rfl (hb hby d14_7)
 refine own_lvF X2 Bd (.int 0) e2 ⟨rfl, N0, rfl⟩ rfl (fun fs hr => pre0 _ (by
  show Sx p e below s₁ m 0 #[rv qa1] [] _
  refine st1 _ ?_
  refine zo X1 Bd d14_3 (XT.i0_eq_f (P5 : ¬ (G1 = (0 : Int32)))) ?_
  refine zb X1 Bd d14_6 rfl rfl ?_
  refine st2 _ ?_
  refine zp (pc' := 17) X2 Bd d14_10 (XT.i0_ne_t ((by decide) : ¬ ((1 : Int32) = (0 : Int32)))) rfl ?_
  refine zc X2 Bd d14_17 ?_
  exact retN X2 hx (t := .boolean) Bd.returns (by simp) (hb hby d14_18) hr))
theorem pd13 : parseMethodDescriptor "()Z" = some ⟨[], some .boolean⟩ := by decide +kernel
theorem d13_4 : decode jdk_42_method_56_code 4 = .ok (.ifCond .eq 12, 3) := by decide +kernel
theorem d13_16 : decode jdk_42_method_56_code 16 = .ok (.aload_n 0, 1) := by decide +kernel
theorem d13_17 : decode jdk_42_method_56_code 17 = .ok (.getfield 9, 3) := by decide +kernel
theorem d13_20 : decode jdk_42_method_56_code 20 = .ok (.iload_n 1, 1) := by decide +kernel
theorem d13_21 : decode jdk_42_method_56_code 21 = .ok (.invokestatic 498, 3) := by decide +kernel
theorem d15_0 : decode jdk_52_method_83_code 0 = .ok (.iload_n 1, 1) := by decide +kernel
theorem d15_1 : decode jdk_52_method_83_code 1 = .ok (.aload_n 0, 1) := by decide +kernel
theorem d15_2 : decode jdk_52_method_83_code 2 = .ok (.invokestatic 67, 3) := by decide +kernel
theorem ef12 (m : MethodId) (x0 : Int32) (x1 : Addr) : entryFrame m #[.int x0, .ref x1] 2 = mkF m 0 #[.val (.int x0), .val (.ref x1)] [] := by first | (simp [entryFrame, mkF, argsToLocals, Value.category]; done) | rfl
theorem d16_0 : decode jdk_52_method_91_code 0 = .ok (.iload_n 0, 1) := by decide +kernel
theorem d16_1 : decode jdk_52_method_91_code 1 = .ok (.aload_n 1, 1) := by decide +kernel
theorem d16_2 : decode jdk_52_method_91_code 2 = .ok (.invokestatic 48, 3) := by decide +kernel
theorem d17_0 : decode jdk_52_method_6_code 0 = .ok (.aload_n 0, 1) := by decide +kernel
theorem d17_1 : decode jdk_52_method_6_code 1 = .ok (.arraylength, 1) := by decide +kernel
theorem d17_2 : decode jdk_52_method_6_code 2 = .ok (.iconst 1, 1) := by decide +kernel
theorem d17_3 : decode jdk_52_method_6_code 3 = .ok (.ishr, 1) := by decide +kernel
theorem d17_4 : decode jdk_52_method_6_code 4 = .ok (.ireturn, 1) := by decide +kernel
-- java/lang/StringUTF16.length([B)I
def Q22 (Z : State)  (h0 : Heap) (n0 : Nat) (v : Option Value) (h : Heap) (L : List Loc) : Prop := v = some (.int 1) ∧ Fr n0 L ∧ h = h0
theorem rm22 (l : Launch) (Z : State) (a0 : Array Value) (hw : HW a0 Z) (qa1 : Addr) (qk2 : ClassId) (qi3 : Int32) (qi4 : Int32) (h0 : Heap) (n0 : Nat) (X00 : Old Z n0 h0) (A_qa1 : Arv Z h0 qa1 qk2 .byte (2 : Int32) [.int qi3, .int qi4] (.int 0)) :
    MF l Z Y15_ jdk_52_method_6_code 1 (some .int) (Rm 0 0 0 0) #[.ref qa1] h0 (Q22 Z  h0 n0) := by
 refine own_sF pn3 rfl (fun m => ef11 m qa1) ?_
 intro p e s m below meth c s₁ Bd hZ hh hx hby hml hown hnm X0 e0 pre0
 have N0 := Fr.nil n0
 have av1 := A_qa1
 obtain ⟨cl1, Ar1, q1, S1, N1, H1, Gf1⟩ := av1
 refine own_lvF X0 Bd (.int 1) e0 ⟨rfl, N0, rfl⟩ rfl (fun fs hr => pre0 _ (by
  show Sx p e below s₁ m 0 #[rv qa1] [] _
  refine zb X0 Bd d17_0 rfl rfl ?_
  refine X0.arraylength hx (by rw [e0]; exact Ar1.1) (State.isArrayOf_alike hZ.alike Ar1.2.1) (g := (mkF m 1 #[rv qa1] [.ref qa1])) rfl rfl (hb hby d17_1) _ ?_
  rw [len_of S1 N1]
  refine zc X0 Bd d17_2 ?_
  refine XS.ishr X0.here hx rfl (hb hby d17_3) rfl ?_
  exact retI X0 hx Bd.returns (hb hby d17_4) hr))
theorem pd14 : parseMethodDescriptor "([B)I" = some ⟨[(.array .byte)], some .int⟩ := by decide +kernel
theorem d16_5 : decode jdk_52_method_91_code 5 = .ok (.invokestatic 414, 3) := by decide +kernel
theorem ef13 (m : MethodId) (x0 : Int32) (x1 : Int32) : entryFrame m #[.int x0, .int x1] 2 = mkF m 0 #[.val (.int x0), .val (.int x1)] [] := by first | (simp [entryFrame, mkF, argsToLocals, Value.category]; done) | rfl
theorem d18_0 : decode jdk_42_method_155_code 0 = .ok (.iload_n 0, 1) := by decide +kernel
theorem d18_1 : decode jdk_42_method_155_code 1 = .ok (.iload_n 1, 1) := by decide +kernel
theorem d18_2 : decode jdk_42_method_155_code 2 = .ok (.getstatic 1053, 3) := by decide +kernel
theorem d18_5 : decode jdk_42_method_155_code 5 = .ok (.invokestatic 1059, 3) := by decide +kernel
theorem ef14 (m : MethodId) (x0 : Int32) (x1 : Int32) (x2 : Value) (r2 : x2.isRef = true) : entryFrame m #[.int x0, .int x1, x2] 3 = mkF m 0 #[.val (.int x0), .val (.int x1), .val x2] [] := by cases x2 <;> first | rfl | (exact absurd r2 (by simp [Value.isRef]))
theorem pn4 : plainName "jdk/internal/util/Preconditions" = true := by first | (simp [plainName, overriddenIn]; done) | decide +kernel
theorem d19_0 : decode jdk_41_method_11_code 0 = .ok (.iload_n 0, 1) := by decide +kernel
theorem d19_1 : decode jdk_41_method_11_code 1 = .ok (.ifCond .lt 8, 3) := by decide +kernel
theorem d19_4 : decode jdk_41_method_11_code 4 = .ok (.iload_n 0, 1) := by decide +kernel
theorem d19_5 : decode jdk_41_method_11_code 5 = .ok (.iload_n 1, 1) := by decide +kernel
theorem d19_6 : decode jdk_41_method_11_code 6 = .ok (.if_icmp .lt 10, 3) := by decide +kernel
theorem d19_16 : decode jdk_41_method_11_code 16 = .ok (.iload_n 0, 1) := by decide +kernel
theorem d19_17 : decode jdk_41_method_11_code 17 = .ok (.ireturn, 1) := by decide +kernel
-- jdk/internal/util/Preconditions.checkIndex(IILjava/util/function/BiFunction;)I
def Q23 (Z : State) (qi1 : Int32) (h0 : Heap) (n0 : Nat) (v : Option Value) (h : Heap) (L : List Loc) : Prop := v = some (.int qi1) ∧ Fr n0 L ∧ h = h0
theorem rm23 (l : Launch) (Z : State) (a0 : Array Value) (hw : HW a0 Z) (G3 : Value) (qi1 : Int32) (h0 : Heap) (n0 : Nat) (X00 : Old Z n0 h0) (O4 : Sta Z Z.heap "jdk/internal/util/Preconditions" "SIOOBE_FORMATTER" "Ljava/util/function/BiFunction;" G3) (rG3 : G3.isRef = true) (hc1 : ¬ (qi1 < (0 : Int32))) (hc2 : qi1 < (1 : Int32)) :
    MF l Z Y16_ jdk_41_method_11_code 3 (some .int) (Rm 0 0 0 0) #[.int qi1, .int 1, G3] h0 (Q23 Z qi1 h0 n0) := by
 refine own_sF pn4 rfl (fun m => ef14 m qi1 (1 : Int32) G3 rG3) ?_
 intro p e s m below meth c s₁ Bd hZ hh hx hby hml hown hnm X0 e0 pre0
 have N0 := Fr.nil n0
 refine own_lvF X0 Bd (.int qi1) e0 ⟨rfl, N0, rfl⟩ rfl (fun fs hr => pre0 _ (by
  show Sx p e below s₁ m 0 #[iv qi1, iv 1, .val G3] [] _
  refine zj X0 Bd d19_0 rfl ?_
  refine zo X0 Bd d19_1 (XT.i0_lt_f (hc1 : ¬ (qi1 < (0 : Int32)))) ?_
  refine zj X0 Bd d19_4 rfl ?_
  refine zj X0 Bd d19_5 rfl ?_
  refine zy (pc' := 16) X0 Bd d19_6 (XT.ii_lt_t (hc2 : qi1 < (1 : Int32))) rfl ?_
  refine zj X0 Bd d19_16 rfl ?_
  exact retI X0 hx Bd.returns (hb hby d19_17) hr))
theorem pd15 : parseMethodDescriptor "(IILjava/util/function/BiFunction;)I" = some ⟨[.int, .int, (.object "java/util/function/BiFunction")], some .int⟩ := by decide +kernel
theorem d18_8 : decode jdk_42_method_155_code 8 = .ok (.pop, 1) := by decide +kernel
theorem d18_9 : decode jdk_42_method_155_code 9 = .ok (.return_, 1) := by decide +kernel
-- java/lang/String.checkIndex(II)V
def Q24 (Z : State)  (h0 : Heap) (n0 : Nat) (v : Option Value) (h : Heap) (L : List Loc) : Prop := v = none ∧ Fr n0 L ∧ h = h0
theorem rm24 (l : Launch) (Z : State) (a0 : Array Value) (hw : HW a0 Z) (G3 : Value) (qi1 : Int32) (h0 : Heap) (n0 : Nat) (X00 : Old Z n0 h0) (O4 : Sta Z Z.heap "jdk/internal/util/Preconditions" "SIOOBE_FORMATTER" "Ljava/util/function/BiFunction;" G3) (rG3 : G3.isRef = true) (hc3 : ¬ (qi1 < (0 : Int32))) (hc4 : qi1 < (1 : Int32)) :
    MF l Z Y17_ jdk_42_method_155_code 2 none (Rm 1 0 0 14) #[.int qi1, .int 1] h0 (Q24 Z  h0 n0) := by
 refine own_sF pn1 rfl (fun m => ef13 m qi1 (1 : Int32)) ?_
 intro p e s m below meth c s₁ Bd hZ hh hx hby hml hown hnm X0 e0 pre0
 have N0 := Fr.nil n0
 obtain ⟨T1, X1, e1, st1⟩ := getS2 X0 hx hZ hown (host := "") (Or.inl (w87_ hw)) Via.refl e0 (O4.ext X00.2) (g := (mkF m 2 #[iv qi1, iv 1] [.int 1, .int qi1])) rfl (hb hby d18_2)
 obtain ⟨_, T2, L2, X2, hQ2, st2⟩ := own_cS 0 0 [] 5 #[iv qi1, iv 1] X1 hx hZ hown (w89_ hw) (w90_ hw) (w88_ hw) (w91_ hw) (rm23 l Z a0 hw G3 qi1 h0 n0 X00 O4 rG3 hc3 hc4) pd15 hml.symm (hb hby d18_5) e1 rfl rfl rfl rfl (by decide)
 obtain ⟨rfl, N2q, e2q⟩ := hQ2
 have N2 := Fr.app N0 N2q
 refine own_lvN X2 Bd e2q ⟨rfl, N2, rfl⟩ rfl (fun fs hr => pre0 _ (by
  show Sx p e below s₁ m 0 #[iv qi1, iv 1] [] _
  refine zj X0 Bd d18_0 rfl ?_
  refine zj X0 Bd d18_1 rfl ?_
  refine st1 _ ?_
  refine st2 _ ?_
  refine XS.pop X2.here hx rfl (hb hby d18_8) rfl rfl ?_
  exact X2.returnOut hx Bd.returns (hb hby d18_9) hr))
theorem pd16 : parseMethodDescriptor "(II)V" = some ⟨[.int, .int], none⟩ := by decide +kernel
theorem d16_8 : decode jdk_52_method_91_code 8 = .ok (.return_, 1) := by decide +kernel
-- java/lang/StringUTF16.checkIndex(I[B)V
def Q25 (Z : State)  (h0 : Heap) (n0 : Nat) (v : Option Value) (h : Heap) (L : List Loc) : Prop := v = none ∧ Fr n0 L ∧ h = h0
theorem rm25 (l : Launch) (Z : State) (a0 : Array Value) (hw : HW a0 Z) (G3 : Value) (qi1 : Int32) (qa2 : Addr) (qk3 : ClassId) (qi4 : Int32) (qi5 : Int32) (h0 : Heap) (n0 : Nat) (X00 : Old Z n0 h0) (O4 : Sta Z Z.heap "jdk/internal/util/Preconditions" "SIOOBE_FORMATTER" "Ljava/util/function/BiFunction;" G3) (rG3 : G3.isRef = true) (A_qa2 : Arv Z h0 qa2 qk3 .byte (2 : Int32) [.int qi4, .int qi5] (.int 0)) (hc3 : ¬ (qi1 < (0 : Int32))) (hc4 : qi1 < (1 : Int32)) :
    MF l Z Y18_ jdk_52_method_91_code 2 none (Rm 2 0 0 27) #[.int qi1, .ref qa2] h0 (Q25 Z  h0 n0) := by
 refine own_sF pn3 rfl (fun m => ef12 m qi1 qa2) ?_
 intro p e s m below meth c s₁ Bd hZ hh hx hby hml hown hnm X0 e0 pre0
 have N0 := Fr.nil n0
 obtain ⟨_, T1, L1, X1, hQ1, st1⟩ := own_cS 0 0 [.int qi1] 2 #[iv qi1, rv qa2] X0 hx hZ hown (w81_ hw) (w82_ hw) (w22_ hw) (w83_ hw) (rm22 l Z a0 hw  qa2 qk3 qi4 qi5 h0 n0 X00 A_qa2) pd14 hml.symm (hb hby d16_2) e0 rfl rfl rfl rfl (by decide)
 obtain ⟨rfl, N1q, e1q⟩ := hQ1
 have N1 := Fr.app N0 N1q
 obtain ⟨_, T2, L2, X2, hQ2, st2⟩ := own_cS 0 0 [] 5 #[iv qi1, rv qa2] X1 hx hZ hown (w84_ hw) (w85_ hw) (w3_ hw) (w86_ hw) (rm24 l Z a0 hw G3 qi1 h0 n0 X00 O4 rG3 hc3 hc4) pd16 hml.symm (hb hby d16_5) e1q rfl rfl rfl rfl (by decide)
 obtain ⟨rfl, N2q, e2q⟩ := hQ2
 have N2 := Fr.app N1 N2q
 refine own_lvN X2 Bd e2q ⟨rfl, N2, rfl⟩ rfl (fun fs hr => pre0 _ (by
  show Sx p e below s₁ m 0 #[iv qi1, rv qa2] [] _
  refine zj X0 Bd d16_0 rfl ?_
  refine zb X0 Bd d16_1 rfl rfl ?_
  refine st1 _ ?_
  refine st2 _ ?_
  exact X2.returnOut hx Bd.returns (hb hby d16_8) hr))
theorem pd17 : parseMethodDescriptor "(I[B)V" = some ⟨[.int, (.array .byte)], none⟩ := by decide +kernel
theorem d15_5 : decode jdk_52_method_83_code 5 = .ok (.aload_n 0, 1) := by decide +kernel
theorem d15_6 : decode jdk_52_method_83_code 6 = .ok (.iload_n 1, 1) := by decide +kernel
theorem d15_7 : decode jdk_52_method_83_code 7 = .ok (.invokestatic 71, 3) := by decide +kernel
theorem d15_10 : decode jdk_52_method_83_code 10 = .ok (.ireturn, 1) := by decide +kernel
-- java/lang/StringUTF16.charAt([BI)C
def Q26 (Z : State) (qi2 : Int32) (qi4 : Int32) (qi5 : Int32) (h0 : Heap) (n0 : Nat) (v : Option Value) (h : Heap) (L : List Loc) : Prop := v = some (.int (((((((own_at ([qi4, qi5] : List Int32) ((qi2 <<< ((1 : Int32) &&& 31)))) &&& (255 : Int32)) <<< ((0 : Int32) &&& 31))) ||| ((((own_at ([qi4, qi5] : List Int32) (((qi2 <<< ((1 : Int32) &&& 31))) + (1 : Int32))) &&& (255 : Int32)) <<< ((8 : Int32) &&& 31))))).toUInt32.toUInt16.toUInt32.toInt32)) ∧ Fr n0 L ∧ h = h0
theorem rm26 (l : Launch) (Z : State) (a0 : Array Value) (hw : HW a0 Z) (G3 : Value) (qa1 : Addr) (qi2 : Int32) (qk3 : ClassId) (qi4 : Int32) (qi5 : Int32) (h0 : Heap) (n0 : Nat) (X00 : Old Z n0 h0) (O4 : Sta Z Z.heap "jdk/internal/util/Preconditions" "SIOOBE_FORMATTER" "Ljava/util/function/BiFunction;" G3) (rG3 : G3.isRef = true) (uS12 : Sta Z Z.heap "java/lang/StringUTF16" "$assertionsDisabled" "Z" (.int 1)) (uS15 : Sta Z Z.heap "java/lang/StringUTF16" "HI_BYTE_SHIFT" "I" (.int 0)) (uS18 : Sta Z Z.heap "java/lang/StringUTF16" "LO_BYTE_SHIFT" "I" (.int 8)) (A_qa1 : Arv Z h0 qa1 qk3 .byte (2 : Int32) [.int qi4, .int qi5] (.int 0)) (hc2 : ¬ (qi2 < (0 : Int32))) (hc3 : qi2 < (1 : Int32)) :
    MF l Z Y19_ jdk_52_method_83_code 2 (some .char) (Rm 3 0 0 40) #[.ref qa1, .int qi2] h0 (Q26 Z qi2 qi4 qi5 h0 n0) := by
 refine own_sF pn3 rfl (fun m => ef10 m qa1 qi2) ?_
 intro p e s m below meth c s₁ Bd hZ hh hx hby hml hown hnm X0 e0 pre0
 have N0 := Fr.nil n0
 obtain ⟨_, T1, L1, X1, hQ1, st1⟩ := own_cS 0 0 [] 2 #[rv qa1, iv qi2] X0 hx hZ hown (w78_ hw) (w79_ hw) (w22_ hw) (w80_ hw) (rm25 l Z a0 hw G3 qi2 qa1 qk3 qi4 qi5 h0 n0 X00 O4 rG3 A_qa1 hc2 hc3) pd17 hml.symm (hb hby d15_2) e0 rfl rfl rfl rfl (by decide)
 obtain ⟨rfl, N1q, e1q⟩ := hQ1
 have N1 := Fr.app N0 N1q
 obtain ⟨_, T4, L4, X4, hQ4, st4⟩ := own_cS 0 0 [] 7 #[rv qa1, iv qi2] X1 hx hZ hown (w58_ hw) (w59_ hw) (w22_ hw) (w60_ hw) (rm16 l Z a0 hw  qa1 qi2 qk3 qi4 qi5 h0 n0 X00 uS12 uS15 uS18 A_qa1 hc2 hc3) pd11 hml.symm (hb hby d15_7) e1q rfl rfl rfl rfl (by decide)
 obtain ⟨rfl, N4q, e4q⟩ := hQ4
 have N4 := Fr.app N1 N4q
 refine own_lvF X4 Bd (.int (nar .char (((((((own_at ([qi4, qi5] : List Int32) ((qi2 <<< ((1 : Int32) &&& 31)))) &&& (255 : Int32)) <<< ((0 : Int32) &&& 31))) ||| ((((own_at ([qi4, qi5] : List Int32) (((qi2 <<< ((1 : Int32) &&& 31))) + (1 : Int32))) &&& (255 : Int32)) <<< ((8 : Int32) &&& 31))))).toUInt32.toUInt16.toUInt32.toInt32))) e4q ⟨(congrArg (fun z => some (Value.int z)) (own_nar_i2c _)), N4, rfl⟩ rfl (fun fs hr => pre0 _ (by
  show Sx p e below s₁ m 0 #[rv qa1, iv qi2] [] _
  refine zj X0 Bd d15_0 rfl ?_
  refine zb X0 Bd d15_1 rfl rfl ?_
  refine st1 _ ?_
  refine zb X1 Bd d15_5 rfl rfl ?_
  refine zj X1 Bd d15_6 rfl ?_
  refine st4 _ ?_
  exact retN X4 hx (t := .char) Bd.returns (by simp) (hb hby d15_10) hr))
theorem d13_24 : decode jdk_42_method_56_code 24 = .ok (.ireturn, 1) := by decide +kernel
-- java/lang/String.charAt(I)C
def Q27 (Z : State) (qi2 : Int32) (qi5 : Int32) (qi6 : Int32) (h0 : Heap) (n0 : Nat) (v : Option Value) (h : Heap) (L : List Loc) : Prop := v = some (.int (own_at (own_L1 qi5 qi6) qi2)) ∧ Fr n0 L ∧ h = h0
theorem rm27 (l : Launch) (Z : State) (a0 : Array Value) (hw : HW a0 Z) (G1 : Int32) (G3 : Value) (qa1 : Addr) (qi2 : Int32) (qa3 : Addr) (qk4 : ClassId) (qi5 : Int32) (qi6 : Int32) (h0 : Heap) (n0 : Nat) (X00 : Old Z n0 h0) (O2 : Sta Z Z.heap "java/lang/String" "COMPACT_STRINGS" "Z" (.int G1)) (P5 : ¬ (G1 = (0 : Int32))) (O4 : Sta Z Z.heap "jdk/internal/util/Preconditions" "SIOOBE_FORMATTER" "Ljava/util/function/BiFunction;" G3) (rG3 : G3.isRef = true) (uS12 : Sta Z Z.heap "java/lang/StringUTF16" "$assertionsDisabled" "Z" (.int 1)) (uS15 : Sta Z Z.heap "java/lang/StringUTF16" "HI_BYTE_SHIFT" "I" (.int 0)) (uS18 : Sta Z Z.heap "java/lang/StringUTF16" "LO_BYTE_SHIFT" "I" (.int 8)) (F_qa1_value : Fld Z h0 qa1 "java/lang/String" "value" "[B" (.ref qa3)) (F_qa1_coder : Fld Z h0 qa1 "java/lang/String" "coder" "B" (.int 1)) (A_qa3 : Arv Z h0 qa3 qk4 .byte (2 : Int32) [.int qi5, .int qi6] (.int 0)) (hj0 : ¬ qi2 < 0) (hjk : qi2 < (1 : Int32)) (E_qa1 : Exa Z h0 qa1 "java/lang/String") :
    MF l Z Y5_ jdk_42_method_56_code 2 (some .char) (Rm 4 0 0 53) #[.ref qa1, .int qi2] h0 (Q27 Z qi2 qi5 qi6 h0 n0) := by
 refine own_sF pn1 rfl (fun m => ef10 m qa1 qi2) ?_
 intro p e s m below meth c s₁ Bd hZ hh hx hby hml hown hnm X0 e0 pre0
 have N0 := Fr.nil n0
 obtain ⟨_, T1, L1, X1, hQ1, st1⟩ := own_cV 0 0 [] 1 #[rv qa1, iv qi2] X0 hx hZ hown E_qa1 (w70_ hw) (w71_ hw) (notFace_of_selects (args := #[]) (mvT hZ (w73_ hw))) (w73_ hw) (w72_ hw) (w3_ hw) (w74_ hw) (rm21 l Z a0 hw G1 qa1 h0 n0 X00 O2 P5 F_qa1_coder) pd13 hml.symm (hb hby d13_1) e0 rfl rfl rfl rfl (by decide)
 obtain ⟨rfl, N1q, e1q⟩ := hQ1
 have N1 := Fr.app N0 N1q
 obtain ⟨T2, X2, e2, st2⟩ := getF X1 hx hZ hown (host := "") (Or.inl (w33_ hw)) Via.refl e1q F_qa1_value (g := (mkF m 17 #[rv qa1, iv qi2] [.ref qa1])) rfl rfl (hb hby d13_17)
 obtain ⟨_, T3, L3, X3, hQ3, st3⟩ := own_cS 0 0 [] 21 #[rv qa1, iv qi2] X2 hx hZ hown (w75_ hw) (w76_ hw) (w22_ hw) (w77_ hw) (rm26 l Z a0 hw G3 qa3 qi2 qk4 qi5 qi6 h0 n0 X00 O4 rG3 uS12 uS15 uS18 A_qa3 hj0 hjk) pd11 hml.symm (hb hby d13_21) e2 rfl rfl rfl rfl (by decide)
 obtain ⟨rfl, N3q, e3q⟩ := hQ3
 have N3 := Fr.app N1 N3q
 refine own_lvF X3 Bd (.int (nar .char (((((((own_at ([qi5, qi6] : List Int32) ((qi2 <<< ((1 : Int32) &&& 31)))) &&& (255 : Int32)) <<< ((0 : Int32) &&& 31))) ||| ((((own_at ([qi5, qi6] : List Int32) (((qi2 <<< ((1 : Int32) &&& 31))) + (1 : Int32))) &&& (255 : Int32)) <<< ((8 : Int32) &&& 31))))).toUInt32.toUInt16.toUInt32.toInt32))) e3q ⟨(congrArg (fun z => some (Value.int z)) ((own_nar_i2c _).trans (own_cat1 qi5 qi6 qi2 hj0 hjk))), N3, rfl⟩ rfl (fun fs hr => pre0 _ (by
  show Sx p e below s₁ m 0 #[rv qa1, iv qi2] [] _
  refine zb X0 Bd d13_0 rfl rfl ?_
  refine st1 _ ?_
  refine zp (pc' := 16) X1 Bd d13_4 (XT.i0_eq_t ((by decide) : (0 : Int32) = (0 : Int32))) rfl ?_
  refine zb X1 Bd d13_16 rfl rfl ?_
  refine st2 _ ?_
  refine zj X2 Bd d13_20 rfl ?_
  refine st3 _ ?_
  exact retN X3 hx (t := .char) Bd.returns (by simp) (hb hby d13_24) hr))
-- com/example/backstop/backstop/WholeNumbers.isDigits(Ljava/lang/String;II)Z
def Q28 (Z : State) (qi2 : Int32) (qi3 : Int32) (qi6 : Int32) (qi7 : Int32) (h0 : Heap) (n0 : Nat) (v : Option Value) (h : Heap) (L : List Loc) : Prop := v = some (.int (own_isd (own_L1 qi6 qi7) qi2 qi3)) ∧ Fr n0 L ∧ h = h0
theorem rm28 (l : Launch) (Z : State) (a0 : Array Value) (hw : HW a0 Z) (G1 : Int32) (G3 : Value) (qa1 : Addr) (qi2 : Int32) (qi3 : Int32) (qa4 : Addr) (qk5 : ClassId) (qi6 : Int32) (qi7 : Int32) (h0 : Heap) (n0 : Nat) (X00 : Old Z n0 h0) (O2 : Sta Z Z.heap "java/lang/String" "COMPACT_STRINGS" "Z" (.int G1)) (P5 : ¬ (G1 = (0 : Int32))) (O4 : Sta Z Z.heap "jdk/internal/util/Preconditions" "SIOOBE_FORMATTER" "Ljava/util/function/BiFunction;" G3) (rG3 : G3.isRef = true) (uS12 : Sta Z Z.heap "java/lang/StringUTF16" "$assertionsDisabled" "Z" (.int 1)) (uS15 : Sta Z Z.heap "java/lang/StringUTF16" "HI_BYTE_SHIFT" "I" (.int 0)) (uS18 : Sta Z Z.heap "java/lang/StringUTF16" "LO_BYTE_SHIFT" "I" (.int 8)) (F_qa1_value : Fld Z h0 qa1 "java/lang/String" "value" "[B" (.ref qa4)) (F_qa1_coder : Fld Z h0 qa1 "java/lang/String" "coder" "B" (.int 1)) (A_qa4 : Arv Z h0 qa4 qk5 .byte (2 : Int32) [.int qi6, .int qi7] (.int 0)) (hs0 : ¬ qi2 < 0) (he0 : ¬ (1 : Int32) < qi3) (E_qa1 : Exa Z h0 qa1 "java/lang/String") :
    MF l Z Y4_ prog_50_method_3_code 5 (some .boolean) (Rm 5 0 0 66) #[.ref qa1, .int qi2, .int qi3] h0 (Q28 Z qi2 qi3 qi6 qi7 h0 n0) := by
 refine own_sF pn2 rfl (fun m => ef5 m qa1 qi2 qi3) ?_
 intro p e s m below meth c s₁ Bd hZ hh hx hby hml hown hnm X0 e0 pre0
 have N0 := Fr.nil n0
 have pr1 : Pr p e below s₁ m 2 #[rv qa1, iv qi2, iv qi3, .unset, .unset] [.int qi3, .int qi2] s₁ (entryFrame m #[.ref qa1, .int qi2, .int qi3] 5) := fun t k => pre0 t (by
  show Sx p e below s₁ m 0 #[rv qa1, iv qi2, iv qi3, .unset, .unset] [] _
  refine zj X0 Bd d4_0 rfl ?_
  refine zj X0 Bd d4_1 rfl ?_
  exact k)
 by_cases hc2 : qi2 < qi3
 ·
  skip
  have pr3 : Pr p e below s₁ m 9 #[rv qa1, iv qi2, iv qi3, iv qi2, .unset] [] s₁ (entryFrame m #[.ref qa1, .int qi2, .int qi3] 5) := fun t k => pr1 t (by
   show Sx p e below s₁ m 2 #[rv qa1, iv qi2, iv qi3, .unset, .unset] [.int qi3, .int qi2] _
   refine zy (pc' := 7) X0 Bd d4_2 (XT.ii_lt_t (hc2 : qi2 < qi3)) rfl ?_
   refine zj X0 Bd d4_7 rfl ?_
   refine zt X0 Bd d4_8 (l' := #[rv qa1, iv qi2, iv qi3, iv qi2, .unset]) rfl ?_
   exact k)
  refine own_loop1 (fun i_ => (qi3.toInt - i_.toInt).toNat) (fun T4 L4 i_ => ∃ sl4_4 : Slot, Stand p l e (Rm 5 0 0 66) s m #[.ref qa1, .int qi2, .int qi3] below meth c T4 L4 0 0 ∧ T4.heap = h0 ∧ Fr n0 L4 ∧ (¬ i_ < 0) ∧ ((own_digI (own_L1 qi6 qi7) qi2 qi3) = own_digI (own_L1 qi6 qi7) i_ qi3) ∧ (sl4_4 = .unset ∨ ∃ w, sl4_4 = .val w ∧ w.category = 1) ∧ Pr p e below T4 m 9 #[rv qa1, iv qi2, iv qi3, iv i_, sl4_4] [] s₁ (entryFrame m #[.ref qa1, .int qi2, .int qi3] 5)) ?_ s₁ _ qi2 ⟨.unset, X0, e0, N0, hs0, rfl, (Or.inl rfl), (fun t k => pr3 t k)⟩
  intro T4 L4 i_ hI4 ih4
  obtain ⟨sl4_4, X4, e4, N4, hq4_0, hq4_1, one4_4, pr4⟩ := hI4
  have pr5 : Pr p e below T4 m 11 #[rv qa1, iv qi2, iv qi3, iv i_, sl4_4] [.int qi3, .int i_] s₁ (entryFrame m #[.ref qa1, .int qi2, .int qi3] 5) := fun t k => pr4 t (by
   show Sx p e below T4 m 9 #[rv qa1, iv qi2, iv qi3, iv i_, sl4_4] [] _
   refine zj X4 Bd d4_9 rfl ?_
   refine zj X4 Bd d4_10 rfl ?_
   exact k)
  by_cases hc6 : i_ < qi3
  ·
   skip
   obtain ⟨_, T7, L7, X7, hQ7, st7⟩ := own_cV 0 0 [] 16 #[rv qa1, iv qi2, iv qi3, iv i_, sl4_4] X4 hx hZ hown E_qa1 (w65_ hw) (w66_ hw) (notFace_of_selects (args := #[]) (mvT hZ (w68_ hw))) (w68_ hw) (w67_ hw) (w3_ hw) (w69_ hw) (rm27 l Z a0 hw G1 G3 qa1 i_ qa4 qk5 qi6 qi7 h0 n0 X00 O2 P5 O4 rG3 uS12 uS15 uS18 F_qa1_value F_qa1_coder A_qa4 hq4_0 (own_iltk hc6 he0) E_qa1) pd4 hml.symm (hb hby d4_16) e4 rfl rfl rfl rfl (by decide)
   obtain ⟨rfl, N7q, e7q⟩ := hQ7
   have N7 := Fr.app N4 N7q
   have pr8 : Pr p e below T7 m 25 #[rv qa1, iv qi2, iv qi3, iv i_, iv (own_at (own_L1 qi6 qi7) i_)] [.int 48, (.int (own_at (own_L1 qi6 qi7) i_))] s₁ (entryFrame m #[.ref qa1, .int qi2, .int qi3] 5) := fun t k => pr5 t (by
    show Sx p e below T4 m 11 #[rv qa1, iv qi2, iv qi3, iv i_, sl4_4] [.int qi3, .int i_] _
    refine zn X4 Bd d4_11 (XT.ii_ge_f (hc6 : i_ < qi3)) ?_
    refine zb X4 Bd d4_14 rfl rfl ?_
    refine zj X4 Bd d4_15 rfl ?_
    refine st7 _ ?_
    refine XS.istoreS X7.here hx rfl (hb hby d4_19) rfl rfl one4_4 ?_
    refine zi X7 Bd d4_21 rfl ?_
    refine zd X7 Bd d4_23 ?_
    exact k)
   by_cases hc9 : (own_at (own_L1 qi6 qi7) i_) < (48 : Int32)
   ·
    skip
    refine own_lvF X7 Bd (.int 0) e7q ⟨(by rw [own_isd, if_pos hc2, hq4_1, own_dig0 hc6 hq4_0 (Or.inl hc9)]), N7, rfl⟩ rfl (fun fs hr => pr8 _ (by
     show Sx p e below T7 m 25 #[rv qa1, iv qi2, iv qi3, iv i_, iv (own_at (own_L1 qi6 qi7) i_)] [.int 48, (.int (own_at (own_L1 qi6 qi7) i_))] _
     refine zy (pc' := 35) X7 Bd d4_25 (XT.ii_lt_t (hc9 : (own_at (own_L1 qi6 qi7) i_) < (48 : Int32))) rfl ?_
     refine zc X7 Bd d4_35 ?_
     exact retN X7 hx (t := .boolean) Bd.returns (by simp) (hb hby d4_36) hr))
   ·
    skip
    have pr10 : Pr p e below T7 m 32 #[rv qa1, iv qi2, iv qi3, iv i_, iv (own_at (own_L1 qi6 qi7) i_)] [.int 57, (.int (own_at (own_L1 qi6 qi7) i_))] s₁ (entryFrame m #[.ref qa1, .int qi2, .int qi3] 5) := fun t k => pr8 t (by
     show Sx p e below T7 m 25 #[rv qa1, iv qi2, iv qi3, iv i_, iv (own_at (own_L1 qi6 qi7) i_)] [.int 48, (.int (own_at (own_L1 qi6 qi7) i_))] _
     refine zn X7 Bd d4_25 (XT.ii_lt_f (hc9 : ¬ ((own_at (own_L1 qi6 qi7) i_) < (48 : Int32)))) ?_
     refine zi X7 Bd d4_28 rfl ?_
     refine zd X7 Bd d4_30 ?_
     exact k)
    by_cases hc11 : (57 : Int32) < (own_at (own_L1 qi6 qi7) i_)
    ·
     skip
     refine own_lvF X7 Bd (.int 0) e7q ⟨(by rw [own_isd, if_pos hc2, hq4_1, own_dig0 hc6 hq4_0 (Or.inr hc11)]), N7, rfl⟩ rfl (fun fs hr => pr10 _ (by
      show Sx p e below T7 m 32 #[rv qa1, iv qi2, iv qi3, iv i_, iv (own_at (own_L1 qi6 qi7) i_)] [.int 57, (.int (own_at (own_L1 qi6 qi7) i_))] _
      refine zn X7 Bd d4_32 (XT.ii_le_f (hc11 : (57 : Int32) < (own_at (own_L1 qi6 qi7) i_))) ?_
      refine zc X7 Bd d4_35 ?_
      exact retN X7 hx (t := .boolean) Bd.returns (by simp) (hb hby d4_36) hr))
    ·
     skip
     have pr12 : Pr p e below T7 m 9 #[rv qa1, iv qi2, iv qi3, iv (i_ + (1 : Int32)), iv (own_at (own_L1 qi6 qi7) i_)] [] s₁ (entryFrame m #[.ref qa1, .int qi2, .int qi3] 5) := fun t k => pr10 t (by
      show Sx p e below T7 m 32 #[rv qa1, iv qi2, iv qi3, iv i_, iv (own_at (own_L1 qi6 qi7) i_)] [.int 57, (.int (own_at (own_L1 qi6 qi7) i_))] _
      refine zy (pc' := 37) X7 Bd d4_32 (XT.ii_le_t (hc11 : ¬ ((57 : Int32) < (own_at (own_L1 qi6 qi7) i_)))) rfl ?_
      refine XS.iinc X7.here hx rfl (hb hby d4_37) rfl (l' := #[rv qa1, iv qi2, iv qi3, iv (i_ + (1 : Int32)), iv (own_at (own_L1 qi6 qi7) i_)]) rfl ?_
      refine zg (pc' := 9) X7 Bd d4_40 rfl ?_
      exact k)
     exact ih4 T7 _ (i_ + (1 : Int32)) (own_decr hq4_0 hc6) ⟨iv (own_at (own_L1 qi6 qi7) i_), X7, e7q, N7, (own_inc0 hq4_0 hc6), (hq4_1.trans (own_digS hc6 hq4_0 hc9 hc11)), (Or.inr ⟨_, rfl, rfl⟩), (fun t k => pr12 t k)⟩
  ·
   skip
   refine own_lvF X4 Bd (.int 1) e4 ⟨(by rw [own_isd, if_pos hc2, hq4_1, own_dig1 hc6]), N4, rfl⟩ rfl (fun fs hr => pr5 _ (by
    show Sx p e below T4 m 11 #[rv qa1, iv qi2, iv qi3, iv i_, sl4_4] [.int qi3, .int i_] _
    refine zy (pc' := 43) X4 Bd d4_11 (XT.ii_ge_t (hc6 : ¬ (i_ < qi3))) rfl ?_
    refine zc X4 Bd d4_43 ?_
    exact retN X4 hx (t := .boolean) Bd.returns (by simp) (hb hby d4_44) hr))
 ·
  skip
  refine own_lvF X0 Bd (.int 0) e0 ⟨(by rw [own_isd, if_neg hc2]), N0, rfl⟩ rfl (fun fs hr => pr1 _ (by
   show Sx p e below s₁ m 2 #[rv qa1, iv qi2, iv qi3, .unset, .unset] [.int qi3, .int qi2] _
   refine zn X0 Bd d4_2 (XT.ii_lt_f (hc2 : ¬ (qi2 < qi3))) ?_
   refine zc X0 Bd d4_5 ?_
   exact retN X0 hx (t := .boolean) Bd.returns (by simp) (hb hby d4_6) hr))
-- com/example/backstop/backstop/WholeNumbers.isDigits(Ljava/lang/String;II)Z
def Q29 (Z : State) (qi2 : Int32) (qi3 : Int32) (qi6 : Int32) (h0 : Heap) (n0 : Nat) (v : Option Value) (h : Heap) (L : List Loc) : Prop := v = some (.int (own_isd ([qi6] : List Int32) qi2 qi3)) ∧ Fr n0 L ∧ h = h0
theorem rm29 (l : Launch) (Z : State) (a0 : Array Value) (hw : HW a0 Z) (G3 : Value) (G1 : Int32) (qa1 : Addr) (qi2 : Int32) (qi3 : Int32) (qa4 : Addr) (qk5 : ClassId) (qi6 : Int32) (h0 : Heap) (n0 : Nat) (X00 : Old Z n0 h0) (O4 : Sta Z Z.heap "jdk/internal/util/Preconditions" "SIOOBE_FORMATTER" "Ljava/util/function/BiFunction;" G3) (rG3 : G3.isRef = true) (O2 : Sta Z Z.heap "java/lang/String" "COMPACT_STRINGS" "Z" (.int G1)) (P5 : ¬ (G1 = (0 : Int32))) (F_qa1_value : Fld Z h0 qa1 "java/lang/String" "value" "[B" (.ref qa4)) (F_qa1_coder : Fld Z h0 qa1 "java/lang/String" "coder" "B" (.int 0)) (A_qa4 : Arv Z h0 qa4 qk5 .byte (1 : Int32) ((([qi6] : List Int32).map (fun c => c.toInt8.toInt32)).map Value.int) (.int 0)) (hp_qa1 : ∀ c ∈ ([qi6] : List Int32), ¬ c < 0 ∧ ¬ (255 : Int32) < c) (E_qa1 : Exa Z h0 qa1 "java/lang/String") (hs0 : ¬ qi2 < 0) (he0 : ¬ (1 : Int32) < qi3) :
    MF l Z Y4_ prog_50_method_3_code 5 (some .boolean) (Rm 4 0 0 53) #[.ref qa1, .int qi2, .int qi3] h0 (Q29 Z qi2 qi3 qi6 h0 n0) := by
 refine own_sF pn2 rfl (fun m => ef5 m qa1 qi2 qi3) ?_
 intro p e s m below meth c s₁ Bd hZ hh hx hby hml hown hnm X0 e0 pre0
 have N0 := Fr.nil n0
 have pr1 : Pr p e below s₁ m 2 #[rv qa1, iv qi2, iv qi3, .unset, .unset] [.int qi3, .int qi2] s₁ (entryFrame m #[.ref qa1, .int qi2, .int qi3] 5) := fun t k => pre0 t (by
  show Sx p e below s₁ m 0 #[rv qa1, iv qi2, iv qi3, .unset, .unset] [] _
  refine zj X0 Bd d4_0 rfl ?_
  refine zj X0 Bd d4_1 rfl ?_
  exact k)
 by_cases hc2 : qi2 < qi3
 ·
  skip
  have pr3 : Pr p e below s₁ m 9 #[rv qa1, iv qi2, iv qi3, iv qi2, .unset] [] s₁ (entryFrame m #[.ref qa1, .int qi2, .int qi3] 5) := fun t k => pr1 t (by
   show Sx p e below s₁ m 2 #[rv qa1, iv qi2, iv qi3, .unset, .unset] [.int qi3, .int qi2] _
   refine zy (pc' := 7) X0 Bd d4_2 (XT.ii_lt_t (hc2 : qi2 < qi3)) rfl ?_
   refine zj X0 Bd d4_7 rfl ?_
   refine zt X0 Bd d4_8 (l' := #[rv qa1, iv qi2, iv qi3, iv qi2, .unset]) rfl ?_
   exact k)
  refine own_loop1 (fun i_ => (qi3.toInt - i_.toInt).toNat) (fun T4 L4 i_ => ∃ sl4_4 : Slot, Stand p l e (Rm 4 0 0 53) s m #[.ref qa1, .int qi2, .int qi3] below meth c T4 L4 0 0 ∧ T4.heap = h0 ∧ Fr n0 L4 ∧ (¬ i_ < 0) ∧ ((own_digI ([qi6] : List Int32) qi2 qi3) = own_digI ([qi6] : List Int32) i_ qi3) ∧ (sl4_4 = .unset ∨ ∃ w, sl4_4 = .val w ∧ w.category = 1) ∧ Pr p e below T4 m 9 #[rv qa1, iv qi2, iv qi3, iv i_, sl4_4] [] s₁ (entryFrame m #[.ref qa1, .int qi2, .int qi3] 5)) ?_ s₁ _ qi2 ⟨.unset, X0, e0, N0, hs0, rfl, (Or.inl rfl), (fun t k => pr3 t k)⟩
  intro T4 L4 i_ hI4 ih4
  obtain ⟨sl4_4, X4, e4, N4, hq4_0, hq4_1, one4_4, pr4⟩ := hI4
  have pr5 : Pr p e below T4 m 11 #[rv qa1, iv qi2, iv qi3, iv i_, sl4_4] [.int qi3, .int i_] s₁ (entryFrame m #[.ref qa1, .int qi2, .int qi3] 5) := fun t k => pr4 t (by
   show Sx p e below T4 m 9 #[rv qa1, iv qi2, iv qi3, iv i_, sl4_4] [] _
   refine zj X4 Bd d4_9 rfl ?_
   refine zj X4 Bd d4_10 rfl ?_
   exact k)
  by_cases hc6 : i_ < qi3
  ·
   skip
   have hcd8 : StrChars.Road.CodA ([qi6] : List Int32) 0 (1 : Int32) ((([qi6] : List Int32).map (fun c => c.toInt8.toInt32)).map Value.int) := StrChars.Road.codOf (n := 1) rfl (fun x hx => (hp_qa1 x hx).2)
   have hbd8 : ∀ x ∈ ([qi6] : List Int32), ¬ x < 0 ∧ ¬ (65535 : Int32) < x := own_up _ hp_qa1
   obtain ⟨cq7, kq7, q7a, q7b, q7c⟩ := isOf hZ e4 E_qa1
   obtain ⟨_, T7, L7, X7, hQ7, st7⟩ := own_cb0 0 0 0 0 0 0 (X4.virtualBack hx (y := Y5_) (z := Y5_) hown (mvT hZ (w65_ hw)) (mvT hZ (w66_ hw)) (notFace_of_selects (args := #[]) (mvT hZ (w68_ hw))) (mvT hZ (w68_ hw)) (mvT hZ (w67_ hw)) (by decide) (StrChars.Road.chN (W := 0) hZ (own_wc hw) (kI := 4) (w2_ hw) E_qa1 F_qa1_value F_qa1_coder A_qa4 hcd8 hbd8 (O2.ext X00.2) P5 (O4.ext X00.2) rG3 (lE rfl) (i := (i_).toNatClampNeg) (own_ilt (k := 1) (by decide) hq4_0 hc6 he0) (j := i_) (own_ofn hq4_0) (lE rfl) (lE rfl)) q7a q7c (g := (mkF m 16 #[rv qa1, iv qi2, iv qi3, iv i_, sl4_4] [.int i_, .ref qa1])) rfl hml.symm (Steps.refl _) (argsL := [.int i_]) (rest := []) (lenOf pd4 rfl) rfl (own_hw rfl) (hb hby d4_16) (fun _ _ => ⟨rfl, e4, (lE rfl : 0 + 0 ≤ _), (lE rfl : 0 + 0 ≤ _)⟩)) rfl rfl
   dsimp only [Pt.U, Pt.locs, Pt.cells, Pt.slots] at hQ7
   obtain ⟨rfl, rfl, e7q⟩ := hQ7
   have N7 := Fr.app N4 (Fr.nil n0)
   have pr9 : Pr p e below T7 m 25 #[rv qa1, iv qi2, iv qi3, iv i_, iv (own_at ([qi6] : List Int32) i_)] [.int 48, (.int (own_at ([qi6] : List Int32) i_))] s₁ (entryFrame m #[.ref qa1, .int qi2, .int qi3] 5) := fun t k => pr5 t (by
    show Sx p e below T4 m 11 #[rv qa1, iv qi2, iv qi3, iv i_, sl4_4] [.int qi3, .int i_] _
    refine zn X4 Bd d4_11 (XT.ii_ge_f (hc6 : i_ < qi3)) ?_
    refine zb X4 Bd d4_14 rfl rfl ?_
    refine zj X4 Bd d4_15 rfl ?_
    refine st7.trans ?_
    refine XS.istoreS X7.here hx rfl (hb hby d4_19) rfl rfl one4_4 ?_
    refine zi X7 Bd d4_21 rfl ?_
    refine zd X7 Bd d4_23 ?_
    exact k)
   by_cases hc10 : (own_at ([qi6] : List Int32) i_) < (48 : Int32)
   ·
    skip
    refine own_lvF X7 Bd (.int 0) e7q ⟨(by rw [own_isd, if_pos hc2, hq4_1, own_dig0 hc6 hq4_0 (Or.inl hc10)]), N7, rfl⟩ rfl (fun fs hr => pr9 _ (by
     show Sx p e below T7 m 25 #[rv qa1, iv qi2, iv qi3, iv i_, iv (own_at ([qi6] : List Int32) i_)] [.int 48, (.int (own_at ([qi6] : List Int32) i_))] _
     refine zy (pc' := 35) X7 Bd d4_25 (XT.ii_lt_t (hc10 : (own_at ([qi6] : List Int32) i_) < (48 : Int32))) rfl ?_
     refine zc X7 Bd d4_35 ?_
     exact retN X7 hx (t := .boolean) Bd.returns (by simp) (hb hby d4_36) hr))
   ·
    skip
    have pr11 : Pr p e below T7 m 32 #[rv qa1, iv qi2, iv qi3, iv i_, iv (own_at ([qi6] : List Int32) i_)] [.int 57, (.int (own_at ([qi6] : List Int32) i_))] s₁ (entryFrame m #[.ref qa1, .int qi2, .int qi3] 5) := fun t k => pr9 t (by
     show Sx p e below T7 m 25 #[rv qa1, iv qi2, iv qi3, iv i_, iv (own_at ([qi6] : List Int32) i_)] [.int 48, (.int (own_at ([qi6] : List Int32) i_))] _
     refine zn X7 Bd d4_25 (XT.ii_lt_f (hc10 : ¬ ((own_at ([qi6] : List Int32) i_) < (48 : Int32)))) ?_
     refine zi X7 Bd d4_28 rfl ?_
     refine zd X7 Bd d4_30 ?_
     exact k)
    by_cases hc12 : (57 : Int32) < (own_at ([qi6] : List Int32) i_)
    ·
     skip
     refine own_lvF X7 Bd (.int 0) e7q ⟨(by rw [own_isd, if_pos hc2, hq4_1, own_dig0 hc6 hq4_0 (Or.inr hc12)]), N7, rfl⟩ rfl (fun fs hr => pr11 _ (by
      show Sx p e below T7 m 32 #[rv qa1, iv qi2, iv qi3, iv i_, iv (own_at ([qi6] : List Int32) i_)] [.int 57, (.int (own_at ([qi6] : List Int32) i_))] _
      refine zn X7 Bd d4_32 (XT.ii_le_f (hc12 : (57 : Int32) < (own_at ([qi6] : List Int32) i_))) ?_
      refine zc X7 Bd d4_35 ?_
      exact retN X7 hx (t := .boolean) Bd.returns (by simp) (hb hby d4_36) hr))
    ·
     skip
     have pr13 : Pr p e below T7 m 9 #[rv qa1, iv qi2, iv qi3, iv (i_ + (1 : Int32)), iv (own_at ([qi6] : List Int32) i_)] [] s₁ (entryFrame m #[.ref qa1, .int qi2, .int qi3] 5) := fun t k => pr11 t (by
      show Sx p e below T7 m 32 #[rv qa1, iv qi2, iv qi3, iv i_, iv (own_at ([qi6] : List Int32) i_)] [.int 57, (.int (own_at ([qi6] : List Int32) i_))] _
      refine zy (pc' := 37) X7 Bd d4_32 (XT.ii_le_t (hc12 : ¬ ((57 : Int32) < (own_at ([qi6] : List Int32) i_)))) rfl ?_
      refine XS.iinc X7.here hx rfl (hb hby d4_37) rfl (l' := #[rv qa1, iv qi2, iv qi3, iv (i_ + (1 : Int32)), iv (own_at ([qi6] : List Int32) i_)]) rfl ?_
      refine zg (pc' := 9) X7 Bd d4_40 rfl ?_
      exact k)
     exact ih4 T7 _ (i_ + (1 : Int32)) (own_decr hq4_0 hc6) ⟨iv (own_at ([qi6] : List Int32) i_), X7, e7q, N7, (own_inc0 hq4_0 hc6), (hq4_1.trans (own_digS hc6 hq4_0 hc10 hc12)), (Or.inr ⟨_, rfl, rfl⟩), (fun t k => pr13 t k)⟩
  ·
   skip
   refine own_lvF X4 Bd (.int 1) e4 ⟨(by rw [own_isd, if_pos hc2, hq4_1, own_dig1 hc6]), N4, rfl⟩ rfl (fun fs hr => pr5 _ (by
    show Sx p e below T4 m 11 #[rv qa1, iv qi2, iv qi3, iv i_, sl4_4] [.int qi3, .int i_] _
    refine zy (pc' := 43) X4 Bd d4_11 (XT.ii_ge_t (hc6 : ¬ (i_ < qi3))) rfl ?_
    refine zc X4 Bd d4_43 ?_
    exact retN X4 hx (t := .boolean) Bd.returns (by simp) (hb hby d4_44) hr))
 ·
  skip
  refine own_lvF X0 Bd (.int 0) e0 ⟨(by rw [own_isd, if_neg hc2]), N0, rfl⟩ rfl (fun fs hr => pr1 _ (by
   show Sx p e below s₁ m 2 #[rv qa1, iv qi2, iv qi3, .unset, .unset] [.int qi3, .int qi2] _
   refine zn X0 Bd d4_2 (XT.ii_lt_f (hc2 : ¬ (qi2 < qi3))) ?_
   refine zc X0 Bd d4_5 ?_
   exact retN X0 hx (t := .boolean) Bd.returns (by simp) (hb hby d4_6) hr))
theorem d0_21 : decode method_4_code 21 = .ok (.iload_n 0, 1) := by decide +kernel
theorem d0_22 : decode method_4_code 22 = .ok (.iconst 2, 1) := by decide +kernel
theorem d0_23 : decode method_4_code 23 = .ok (.if_icmp .ne 15, 3) := by decide +kernel
theorem d0_26 : decode method_4_code 26 = .ok (.iconst 2, 1) := by decide +kernel
theorem d0_27 : decode method_4_code 27 = .ok (.newarray .char, 2) := by decide +kernel
theorem d0_29 : decode method_4_code 29 = .ok (.dup, 1) := by decide +kernel
theorem d0_30 : decode method_4_code 30 = .ok (.iconst 0, 1) := by decide +kernel
theorem d0_31 : decode method_4_code 31 = .ok (.iload_n 1, 1) := by decide +kernel
theorem d0_32 : decode method_4_code 32 = .ok (.castore, 1) := by decide +kernel
theorem d0_33 : decode method_4_code 33 = .ok (.dup, 1) := by decide +kernel
theorem d0_34 : decode method_4_code 34 = .ok (.iconst 1, 1) := by decide +kernel
theorem d0_35 : decode method_4_code 35 = .ok (.iload_n 2, 1) := by decide +kernel
theorem d0_36 : decode method_4_code 36 = .ok (.castore, 1) := by decide +kernel
theorem d0_37 : decode method_4_code 37 = .ok (.areturn, 1) := by decide +kernel
-- com/example/backstop/backstop/WholeNumbersIsDigitsPinLaw.chars(ICCCC)[C
def Q30 (Z : State) (qi2 : Int32) (qi3 : Int32) (h0 : Heap) (n0 : Nat) (v : Option Value) (h : Heap) (L : List Loc) : Prop := ∃ b4 : Addr, ∃ c4 : ClassId, v = some (.ref b4) ∧ Fr n0 L ∧ Keep h0 h [] ∧ h0.size ≤ b4 ∧ Arv Z h b4 c4 .char (2 : Int32) [.int qi2, .int qi3] (.int 0)
theorem rm30 (l : Launch) (Z : State) (a0 : Array Value) (hw : HW a0 Z) (qi1 : Int32) (qi2 : Int32) (qi3 : Int32) (qi4 : Int32) (qi5 : Int32) (h0 : Heap) (n0 : Nat) (X00 : Old Z n0 h0) (hc1 : ¬ (qi1 = (0 : Int32))) (hc2 : ¬ (qi1 = (1 : Int32))) (hc3 : qi1 = (2 : Int32)) (hr10 : nar .char qi2 = qi2) (hr15 : nar .char qi3 = qi3) :
    MF l Z Y0_ method_4_code 5 (some (.array .char)) (Rm 0 1 2 0) #[.int qi1, .int qi2, .int qi3, .int qi4, .int qi5] h0 (Q30 Z qi2 qi3 h0 n0) := by
 refine own_sF pn0 rfl (fun m => ef1 m qi1 qi2 qi3 qi4 qi5) ?_
 intro p e s m below meth c s₁ Bd hZ hh hx hby hml hown hnm X0 e0 pre0
 have N0 := Fr.nil n0
 obtain ⟨T4, h4, c4, X4, e4, E4, A4, st4⟩ := newP (aty := .char) X0 hx hZ (w8_ hw) e0 (g := (mkF m 27 #[iv qi1, iv qi2, iv qi3, iv qi4, iv qi5] [.int 2])) rfl (hb hby d0_27) rfl (by decide) (cap := 2) (by decide) (lE rfl) (lE rfl) (lE rfl)
 obtain ⟨b4, g4⟩ : ∃ z, z = h0.size := ⟨_, rfl⟩
 rw [← g4] at A4 st4
 replace X4 : Stand p l e (Rm 0 1 2 0) s m #[.int qi1, .int qi2, .int qi3, .int qi4, .int qi5] below meth c T4 _ 1 2 := X4
 have K5 := (Keep.refl h0 []).ext E4
 have A6_ : Arv Z h4 b4 c4 .char (2 : Int32) [.int 0, .int 0] (.int 0) := (Arv.new A4 (by decide)).pad (pad_rep [] (.int 0) 2)
 have av7 := A6_
 obtain ⟨cl7, Ar7, q7, S7, N7, H7, Gf7⟩ := av7
 have hin8 : ¬ ((0 : Int32) < 0 ∨ cl7.slots.size ≤ ((0 : Int32) : Int32).toNatClampNeg) := inb_of S7 (by decide)
 obtain ⟨T8, h8, X8, e8, W8, st8⟩ := stC X4 hx hZ e4 Ar7 (j := (0 : Int32)) hin8 (g := (mkF m 32 #[iv qi1, iv qi2, iv qi3, iv qi4, iv qi5] [.int qi2, .int 0, .ref b4, .ref b4])) rfl rfl (hb hby d0_32)
 have g_b4 : n0 ≤ b4 := Nat.le_trans (Nat.le_trans (Nat.le_of_eq X00.1.symm) X00.2.1) (Nat.le_of_eq g4.symm)
 have N8_ := Fr.snoc X8 N0 g_b4
 have sz_b4 : h0.size ≤ b4 := (Nat.le_of_eq g4.symm)
 have K9 := K5.wr W8 (Or.inr sz_b4)
 have A11_ : Arv Z h8 b4 c4 .char (2 : Int32) [.int qi2, .int 0] (.int 0) := by have q := Arv.set (v := .int (nar .char qi2)) Ar7 q7 S7 N7 H7 Gf7 (fits_nar_char _) W8 0 (by decide) (lE rfl); rw [(hr10 : nar .char qi2 = qi2)] at q; exact q
 have av12 := A11_
 obtain ⟨cl12, Ar12, q12, S12, N12, H12, Gf12⟩ := av12
 have hin13 : ¬ ((1 : Int32) < 0 ∨ cl12.slots.size ≤ ((1 : Int32) : Int32).toNatClampNeg) := inb_of S12 (by decide)
 obtain ⟨T13, h13, X13, e13, W13, st13⟩ := stC X8 hx hZ e8 Ar12 (j := (1 : Int32)) hin13 (g := (mkF m 36 #[iv qi1, iv qi2, iv qi3, iv qi4, iv qi5] [.int qi3, .int 1, .ref b4, .ref b4])) rfl rfl (hb hby d0_36)
 have N13_ := Fr.snoc X13 N8_ g_b4
 have K14 := K9.wr W13 (Or.inr sz_b4)
 have A16_ : Arv Z h13 b4 c4 .char (2 : Int32) [.int qi2, .int qi3] (.int 0) := by have q := Arv.set (v := .int (nar .char qi3)) Ar12 q12 S12 N12 H12 Gf12 (fits_nar_char _) W13 1 (by decide) (lE rfl); rw [(hr15 : nar .char qi3 = qi3)] at q; exact q
 refine own_lvF X13 Bd (.ref b4) e13 ⟨b4, c4, rfl, N13_, K14, sz_b4, A16_⟩ rfl (fun fs hr => pre0 _ (by
  show Sx p e below s₁ m 0 #[iv qi1, iv qi2, iv qi3, iv qi4, iv qi5] [] _
  refine zj X0 Bd d0_0 rfl ?_
  refine zp (pc' := 8) X0 Bd d0_1 (XT.i0_ne_t (hc1 : ¬ (qi1 = (0 : Int32)))) rfl ?_
  refine zj X0 Bd d0_8 rfl ?_
  refine zc X0 Bd d0_9 ?_
  refine zy (pc' := 21) X0 Bd d0_10 (XT.ii_ne_t (hc2 : ¬ (qi1 = (1 : Int32)))) rfl ?_
  refine zj X0 Bd d0_21 rfl ?_
  refine zc X0 Bd d0_22 ?_
  refine zn X0 Bd d0_23 (XT.ii_ne_f (hc3 : qi1 = (2 : Int32))) ?_
  refine zc X0 Bd d0_26 ?_
  refine st4 _ ?_
  refine XS.dup X4.here hx rfl (hb hby d0_29) rfl rfl ?_
  refine zc X4 Bd d0_30 ?_
  refine zj X4 Bd d0_31 rfl ?_
  refine st8 _ ?_
  refine XS.dup X8.here hx rfl (hb hby d0_33) rfl rfl ?_
  refine zc X8 Bd d0_34 ?_
  refine zj X8 Bd d0_35 rfl ?_
  refine st13 _ ?_
  exact retOut X13 hx Bd.returns rfl (Or.inr (Or.inr (Or.inr (Or.inr ⟨rfl, rfl, rfl⟩)))) (hb hby d0_37) hr))
-- java/lang/StringUTF16.compress([CI[BII)I
def Q31 (Z : State)  (h0 : Heap) (n0 : Nat) (v : Option Value) (h : Heap) (L : List Loc) : Prop := v = some (.int 0) ∧ Fr n0 L ∧ h = h0
theorem rm31 (l : Launch) (Z : State) (a0 : Array Value) (hw : HW a0 Z) (qa1 : Addr) (qa2 : Addr) (qk3 : ClassId) (qi4 : Int32) (qi5 : Int32) (h0 : Heap) (n0 : Nat) (X00 : Old Z n0 h0) (A_qa1 : Arv Z h0 qa1 qk3 .char (2 : Int32) [.int qi4, .int qi5] (.int 0)) (hc3 : (255 : Int32) < qi4) :
    MF l Z Y6_ jdk_52_method_21_code 7 (some .int) (Rm 0 0 0 0) #[.ref qa1, .int 0, .ref qa2, .int 0, .int 2] h0 (Q31 Z  h0 n0) := by
 refine own_sF pn3 rfl (fun m => ef7 m qa1 (0 : Int32) qa2 (0 : Int32) (2 : Int32)) ?_
 intro p e s m below meth c s₁ Bd hZ hh hx hby hml hown hnm X0 e0 pre0
 have N0 := Fr.nil n0
 have av1 := A_qa1
 obtain ⟨cl1, Ar1, q1, S1, N1, H1, Gf1⟩ := av1
 have hin2 : ¬ ((0 : Int32) < 0 ∨ cl1.slots.size ≤ ((0 : Int32) : Int32).toNatClampNeg) := inb_of S1 (by decide)
 have hat2 : cl1.slots[((0 : Int32) : Int32).toNatClampNeg]? = some (.int qi4) := Has.at H1 hin2 rfl
 refine own_lvF X0 Bd (.int 0) e0 ⟨rfl, N0, rfl⟩ rfl (fun fs hr => pre0 _ (by
  show Sx p e below s₁ m 0 #[rv qa1, iv 0, rv qa2, iv 0, iv 2, .unset, .unset] [] _
  refine zc X0 Bd d6_0 ?_
  refine zs X0 Bd d6_1 (l' := #[rv qa1, iv 0, rv qa2, iv 0, iv 2, iv 0, .unset]) rfl ?_
  refine zi X0 Bd d6_3 rfl ?_
  refine zi X0 Bd d6_5 rfl ?_
  refine zn X0 Bd d6_7 (XT.ii_ge_f ((by decide) : (0 : Int32) < (2 : Int32))) ?_
  refine zb X0 Bd d6_10 rfl rfl ?_
  refine zj X0 Bd d6_11 rfl ?_
  refine X0.caload hx (j := (0 : Int32)) (v := (.int qi4)) (by rw [e0]; exact Ar1.1) (State.isArrayOf_alike hZ.alike Ar1.2.1) Ar1.2.2 hin2 hat2 (g := (mkF m 12 #[rv qa1, iv 0, rv qa2, iv 0, iv 2, iv 0, .unset] [.int 0, .ref qa1])) rfl rfl (hb hby d6_12) _ ?_
  refine zs X0 Bd d6_13 (l' := #[rv qa1, iv 0, rv qa2, iv 0, iv 2, iv 0, iv qi4]) rfl ?_
  refine zi X0 Bd d6_15 rfl ?_
  refine XS.sipush X0.here hx rfl (hb hby d6_17) ?_
  refine zn X0 Bd d6_20 (XT.ii_le_f (hc3 : (255 : Int32) < qi4)) ?_
  refine zi X0 Bd d6_23 rfl ?_
  exact retI X0 hx Bd.returns (hb hby d6_25) hr))
-- java/lang/StringUTF16.newBytesLength(I)I
def Q32 (Z : State)  (h0 : Heap) (n0 : Nat) (v : Option Value) (h : Heap) (L : List Loc) : Prop := v = some (.int 4) ∧ Fr n0 L ∧ h = h0
theorem rm32 (l : Launch) (Z : State) (a0 : Array Value) (hw : HW a0 Z)  (h0 : Heap) (n0 : Nat) (X00 : Old Z n0 h0)  :
    MF l Z Y7_ jdk_52_method_3_code 1 (some .int) (Rm 0 0 0 0) #[.int 2] h0 (Q32 Z  h0 n0) := by
 refine own_sF pn3 rfl (fun m => ef8 m (2 : Int32)) ?_
 intro p e s m below meth c s₁ Bd hZ hh hx hby hml hown hnm X0 e0 pre0
 have N0 := Fr.nil n0
 refine own_lvF X0 Bd (.int 4) e0 ⟨rfl, N0, rfl⟩ rfl (fun fs hr => pre0 _ (by
  show Sx p e below s₁ m 0 #[iv 2] [] _
  refine zj X0 Bd d9_0 rfl ?_
  refine zp (pc' := 12) X0 Bd d9_1 (XT.i0_ge_t ((by decide) : ¬ ((2 : Int32) < (0 : Int32)))) rfl ?_
  refine zj X0 Bd d9_12 rfl ?_
  refine X0.ldcInt hx hown (mvT hZ (w51_ hw)) (g := (mkF m 13 #[iv 2] [.int 2])) rfl (hb hby d9_13) _ ?_
  refine zy (pc' := 55) X0 Bd d9_15 (XT.ii_lt_t ((by decide) : (2 : Int32) < (1073741823 : Int32))) rfl ?_
  refine zj X0 Bd d9_55 rfl ?_
  refine zc X0 Bd d9_56 ?_
  refine XS.ishl X0.here hx rfl (hb hby d9_57) rfl ?_
  exact retI X0 hx Bd.returns (hb hby d9_58) hr))
-- java/lang/StringUTF16.newBytesFor(I)[B
def Q33 (Z : State)  (h0 : Heap) (n0 : Nat) (v : Option Value) (h : Heap) (L : List Loc) : Prop := ∃ b2 : Addr, ∃ c2 : ClassId, v = some (.ref b2) ∧ Fr n0 L ∧ Keep h0 h [] ∧ h0.size ≤ b2 ∧ Arv Z h b2 c2 .byte (4 : Int32) [.int 0, .int 0, .int 0, .int 0] (.int 0)
theorem rm33 (l : Launch) (Z : State) (a0 : Array Value) (hw : HW a0 Z)  (h0 : Heap) (n0 : Nat) (X00 : Old Z n0 h0)  :
    MF l Z Y8_ jdk_52_method_2_code 1 (some (.array .byte)) (Rm 1 1 4 12) #[.int 2] h0 (Q33 Z  h0 n0) := by
 refine own_sF pn3 rfl (fun m => ef8 m (2 : Int32)) ?_
 intro p e s m below meth c s₁ Bd hZ hh hx hby hml hown hnm X0 e0 pre0
 have N0 := Fr.nil n0
 obtain ⟨_, T1, L1, X1, hQ1, st1⟩ := own_cS 0 0 [] 1 #[iv 2] X0 hx hZ hown (w48_ hw) (w49_ hw) (w22_ hw) (w50_ hw) (rm32 l Z a0 hw   h0 n0 X00 ) pd7 hml.symm (hb hby d8_1) e0 rfl rfl rfl rfl (by decide)
 obtain ⟨rfl, N1q, e1q⟩ := hQ1
 have N1 := Fr.app N0 N1q
 obtain ⟨T2, h2, c2, X2, e2, E2, A2, st2⟩ := newP (aty := .byte) X1 hx hZ (w24_ hw) e1q (g := (mkF m 4 #[iv 2] [.int 4])) rfl (hb hby d8_4) rfl (by decide) (cap := 4) (by decide) (lE rfl) (lE rfl) (lE rfl)
 obtain ⟨b2, g2⟩ : ∃ z, z = h0.size := ⟨_, rfl⟩
 rw [← g2] at A2 st2
 replace X2 : Stand p l e (Rm 1 1 4 12) s m #[.int 2] below meth c T2 _ 1 4 := X2
 have K3 := (Keep.refl h0 []).ext E2
 have A4_ : Arv Z h2 b2 c2 .byte (4 : Int32) [.int 0, .int 0, .int 0, .int 0] (.int 0) := (Arv.new A2 (by decide)).pad (pad_rep [] (.int 0) 4)
 have sz_b2 : h0.size ≤ b2 := (Nat.le_of_eq g2.symm)
 refine own_lvF X2 Bd (.ref b2) e2 ⟨b2, c2, rfl, N1, K3, sz_b2, A4_⟩ rfl (fun fs hr => pre0 _ (by
  show Sx p e below s₁ m 0 #[iv 2] [] _
  refine zj X0 Bd d8_0 rfl ?_
  refine st1 _ ?_
  refine st2 _ ?_
  exact retOut X2 hx Bd.returns rfl (Or.inr (Or.inr (Or.inr (Or.inr ⟨rfl, rfl, rfl⟩)))) (hb hby d8_6) hr))
-- java/lang/StringUTF16.putChar([BII)V
def Q34 (Z : State) (qa1 : Addr) (qi2 : Int32) (qi3 : Int32) (qk4 : ClassId) (qi5 : Int32) (qi6 : Int32) (qi7 : Int32) (qi8 : Int32) (h0 : Heap) (n0 : Nat) (v : Option Value) (h : Heap) (L : List Loc) : Prop := v = none ∧ Fr n0 L ∧ Keep h0 h [qa1] ∧ Arv Z h qa1 qk4 .byte (4 : Int32) (((([qi5, qi6, qi7, qi8] : List Int32).set (((qi2 <<< ((1 : Int32) &&& 31)))).toNatClampNeg ((((qi3 >>> ((0 : Int32) &&& 31)))).toInt8.toInt32)).set ((((qi2 <<< ((1 : Int32) &&& 31))) + (1 : Int32))).toNatClampNeg ((((qi3 >>> ((8 : Int32) &&& 31)))).toInt8.toInt32)).map Value.int) (.int 0)
theorem rm34 (l : Launch) (Z : State) (a0 : Array Value) (hw : HW a0 Z) (qa1 : Addr) (qi2 : Int32) (qi3 : Int32) (qk4 : ClassId) (qi5 : Int32) (qi6 : Int32) (qi7 : Int32) (qi8 : Int32) (h0 : Heap) (n0 : Nat) (X00 : Old Z n0 h0) (uS12 : Sta Z Z.heap "java/lang/StringUTF16" "$assertionsDisabled" "Z" (.int 1)) (uS15 : Sta Z Z.heap "java/lang/StringUTF16" "HI_BYTE_SHIFT" "I" (.int 0)) (uS18 : Sta Z Z.heap "java/lang/StringUTF16" "LO_BYTE_SHIFT" "I" (.int 8)) (A_qa1 : Arv Z h0 qa1 qk4 .byte (4 : Int32) [.int qi5, .int qi6, .int qi7, .int qi8] (.int 0)) (hc4 : ¬ (qi2 < (0 : Int32))) (hc5 : qi2 < (2 : Int32)) (g_qa1 : n0 ≤ qa1) :
    MF l Z Y9_ jdk_52_method_4_code 3 none (Rm 0 0 0 0) #[.ref qa1, .int qi2, .int qi3] h0 (Q34 Z qa1 qi2 qi3 qk4 qi5 qi6 qi7 qi8 h0 n0) := by
 refine own_sF pn3 rfl (fun m => ef9 m qa1 qi2 qi3) ?_
 intro p e s m below meth c s₁ Bd hZ hh hx hby hml hown hnm X0 e0 pre0
 have N0 := Fr.nil n0
 obtain ⟨T1, X1, e1, st1⟩ := getS2 X0 hx hZ hown (host := "") (Or.inl (w55_ hw)) Via.refl e0 (uS12.ext X00.2) (g := (mkF m 0 #[rv qa1, iv qi2, iv qi3] [])) rfl (hb hby d10_0)
 obtain ⟨T2, X2, e2, st2⟩ := getS2 X1 hx hZ hown (host := "") (Or.inl (w56_ hw)) Via.refl e1 (uS15.ext X00.2) (g := (mkF m 38 #[rv qa1, iv (((qi2 <<< ((1 : Int32) &&& 31))) + (1 : Int32)), iv qi3] [.int qi3, (.int ((qi2 <<< ((1 : Int32) &&& 31)))), .ref qa1])) rfl (hb hby d10_38)
 have A3_ : Arv Z h0 qa1 qk4 .byte (4 : Int32) (([qi5, qi6, qi7, qi8] : List Int32).map Value.int) (.int 0) := A_qa1
 have av6 := A3_
 obtain ⟨cl6, Ar6, q6, S6, N6, H6, Gf6⟩ := av6
 have hin7 : ¬ (((qi2 <<< ((1 : Int32) &&& 31))) < 0 ∨ cl6.slots.size ≤ (((qi2 <<< ((1 : Int32) &&& 31))) : Int32).toNatClampNeg) := inb_of S6 (own_shla2 hc4 hc5)
 obtain ⟨T7, h7, X7, e7, W7, st7⟩ := stB X2 hx hZ e2 Ar6 (j := ((qi2 <<< ((1 : Int32) &&& 31)))) hin7 (g := (mkF m 43 #[rv qa1, iv (((qi2 <<< ((1 : Int32) &&& 31))) + (1 : Int32)), iv qi3] [(.int ((((qi3 >>> ((0 : Int32) &&& 31)))).toInt8.toInt32)), (.int ((qi2 <<< ((1 : Int32) &&& 31)))), .ref qa1])) rfl rfl (hb hby d10_43)
 have N7_ := Fr.snoc X7 N0 g_qa1
 have K8 := (Keep.refl h0 [qa1]).wr W7 (Or.inl (mI 0 rfl))
 have A9_ : Arv Z h7 qa1 qk4 .byte (4 : Int32) ((([qi5, qi6, qi7, qi8] : List Int32).set (((qi2 <<< ((1 : Int32) &&& 31)))).toNatClampNeg ((((qi3 >>> ((0 : Int32) &&& 31)))).toInt8.toInt32)).map Value.int) (.int 0) := by rw [List.map_set]; have q := Arv.set (v := .int (nar .byte ((((qi3 >>> ((0 : Int32) &&& 31)))).toInt8.toInt32))) Ar6 q6 S6 N6 H6 Gf6 (fits_nar_byte _) W7 _ rfl (by rw [List.length_map]; exact own_ltn (k := 4) (by decide) (own_shla2 hc4 hc5)); rw [((own_nar_i2b _) : nar .byte ((((qi3 >>> ((0 : Int32) &&& 31)))).toInt8.toInt32) = ((((qi3 >>> ((0 : Int32) &&& 31)))).toInt8.toInt32))] at q; exact q
 have O11 := X00.wr W7 g_qa1
 obtain ⟨T10, X10, e10, st10⟩ := getS2 X7 hx hZ hown (host := "") (Or.inl (w57_ hw)) Via.refl e7 (uS18.ext O11.2) (g := (mkF m 47 #[rv qa1, iv (((qi2 <<< ((1 : Int32) &&& 31))) + (1 : Int32)), iv qi3] [.int qi3, (.int (((qi2 <<< ((1 : Int32) &&& 31))) + (1 : Int32))), .ref qa1])) rfl (hb hby d10_47)
 have av12 := A9_
 obtain ⟨cl12, Ar12, q12, S12, N12, H12, Gf12⟩ := av12
 have hin13 : ¬ ((((qi2 <<< ((1 : Int32) &&& 31))) + (1 : Int32)) < 0 ∨ cl12.slots.size ≤ ((((qi2 <<< ((1 : Int32) &&& 31))) + (1 : Int32)) : Int32).toNatClampNeg) := inb_of S12 (own_shlb2 hc4 hc5)
 obtain ⟨T13, h13, X13, e13, W13, st13⟩ := stB X10 hx hZ e10 Ar12 (j := (((qi2 <<< ((1 : Int32) &&& 31))) + (1 : Int32))) hin13 (g := (mkF m 52 #[rv qa1, iv (((qi2 <<< ((1 : Int32) &&& 31))) + (1 : Int32)), iv qi3] [(.int ((((qi3 >>> ((8 : Int32) &&& 31)))).toInt8.toInt32)), (.int (((qi2 <<< ((1 : Int32) &&& 31))) + (1 : Int32))), .ref qa1])) rfl rfl (hb hby d10_52)
 have N13_ := Fr.snoc X13 N7_ g_qa1
 have K14 := K8.wr W13 (Or.inl (mI 0 rfl))
 have A15_ : Arv Z h13 qa1 qk4 .byte (4 : Int32) (((([qi5, qi6, qi7, qi8] : List Int32).set (((qi2 <<< ((1 : Int32) &&& 31)))).toNatClampNeg ((((qi3 >>> ((0 : Int32) &&& 31)))).toInt8.toInt32)).set ((((qi2 <<< ((1 : Int32) &&& 31))) + (1 : Int32))).toNatClampNeg ((((qi3 >>> ((8 : Int32) &&& 31)))).toInt8.toInt32)).map Value.int) (.int 0) := by rw [List.map_set]; have q := Arv.set (v := .int (nar .byte ((((qi3 >>> ((8 : Int32) &&& 31)))).toInt8.toInt32))) Ar12 q12 S12 N12 H12 Gf12 (fits_nar_byte _) W13 _ rfl (by rw [List.length_map, List.length_set]; exact own_ltn (k := 4) (by decide) (own_shlb2 hc4 hc5)); rw [((own_nar_i2b _) : nar .byte ((((qi3 >>> ((8 : Int32) &&& 31)))).toInt8.toInt32) = ((((qi3 >>> ((8 : Int32) &&& 31)))).toInt8.toInt32))] at q; exact q
 refine own_lvN X13 Bd e13 ⟨rfl, N13_, K14, A15_⟩ rfl (fun fs hr => pre0 _ (by
  show Sx p e below s₁ m 0 #[rv qa1, iv qi2, iv qi3] [] _
  refine st1 _ ?_
  refine zp (pc' := 28) X1 Bd d10_3 (XT.i0_ne_t ((by decide) : ¬ ((1 : Int32) = (0 : Int32)))) rfl ?_
  refine zj X1 Bd d10_28 rfl ?_
  refine zc X1 Bd d10_29 ?_
  refine XS.ishl X1.here hx rfl (hb hby d10_30) rfl ?_
  refine zt X1 Bd d10_31 (l' := #[rv qa1, iv ((qi2 <<< ((1 : Int32) &&& 31))), iv qi3]) rfl ?_
  refine zb X1 Bd d10_32 rfl rfl ?_
  refine zj X1 Bd d10_33 rfl ?_
  refine XS.iinc X1.here hx rfl (hb hby d10_34) rfl (l' := #[rv qa1, iv (((qi2 <<< ((1 : Int32) &&& 31))) + (1 : Int32)), iv qi3]) rfl ?_
  refine zj X1 Bd d10_37 rfl ?_
  refine st2 _ ?_
  refine XS.ishr X2.here hx rfl (hb hby d10_41) rfl ?_
  refine XS.i2b X2.here hx rfl (hb hby d10_42) rfl ?_
  refine st7 _ ?_
  refine zb X7 Bd d10_44 rfl rfl ?_
  refine zj X7 Bd d10_45 rfl ?_
  refine zj X7 Bd d10_46 rfl ?_
  refine st10 _ ?_
  refine XS.ishr X10.here hx rfl (hb hby d10_50) rfl ?_
  refine XS.i2b X10.here hx rfl (hb hby d10_51) rfl ?_
  refine st13 _ ?_
  exact X13.returnOut hx Bd.returns (hb hby d10_53) hr))
-- java/lang/StringUTF16.toBytes([CII)[B
def Q35 (Z : State) (qi3 : Int32) (qi4 : Int32) (h0 : Heap) (n0 : Nat) (v : Option Value) (h : Heap) (L : List Loc) : Prop := ∃ b2 : Addr, ∃ c3_ : ClassId, v = some (.ref b2) ∧ Fr n0 L ∧ Keep h0 h [] ∧ h0.size ≤ b2 ∧ Arv Z h b2 c3_ .byte (4 : Int32) [(.int ((((qi3 >>> ((0 : Int32) &&& 31)))).toInt8.toInt32)), (.int ((((qi3 >>> ((8 : Int32) &&& 31)))).toInt8.toInt32)), (.int ((((qi4 >>> ((0 : Int32) &&& 31)))).toInt8.toInt32)), (.int ((((qi4 >>> ((8 : Int32) &&& 31)))).toInt8.toInt32))] (.int 0)
theorem rm35 (l : Launch) (Z : State) (a0 : Array Value) (hw : HW a0 Z) (qa1 : Addr) (qk2 : ClassId) (qi3 : Int32) (qi4 : Int32) (h0 : Heap) (n0 : Nat) (X00 : Old Z n0 h0) (uS12 : Sta Z Z.heap "java/lang/StringUTF16" "$assertionsDisabled" "Z" (.int 1)) (uS15 : Sta Z Z.heap "java/lang/StringUTF16" "HI_BYTE_SHIFT" "I" (.int 0)) (uS18 : Sta Z Z.heap "java/lang/StringUTF16" "LO_BYTE_SHIFT" "I" (.int 8)) (A_qa1 : Arv Z h0 qa1 qk2 .char (2 : Int32) [.int qi3, .int qi4] (.int 0)) :
    MF l Z Y10_ jdk_52_method_14_code 5 (some (.array .byte)) (Rm 2 1 4 24) #[.ref qa1, .int 0, .int 2] h0 (Q35 Z qi3 qi4 h0 n0) := by
 refine own_sF pn3 rfl (fun m => ef5 m qa1 (0 : Int32) (2 : Int32)) ?_
 intro p e s m below meth c s₁ Bd hZ hh hx hby hml hown hnm X0 e0 pre0
 have N0 := Fr.nil n0
 obtain ⟨_, T1, L1, X1, hQ1, st1⟩ := own_cS 1 4 [] 1 #[rv qa1, iv 0, iv 2, .unset, .unset] X0 hx hZ hown (w45_ hw) (w46_ hw) (w22_ hw) (w47_ hw) (rm33 l Z a0 hw   h0 n0 X00 ) pd8 hml.symm (hb hby d7_1) e0 rfl rfl rfl rfl (by decide)
 obtain ⟨b2, c3_, rfl, N1q, K1q, w4, w5⟩ := hQ1
 have N1 := Fr.app N0 N1q
 have K6 := (Keep.refl h0 []).trans K1q (fun x q => nomatch q)
 have A8_ := A_qa1.keep K1q nin0
 have av7 := A8_
 obtain ⟨cl7, Ar7, q7, S7, N7, H7, Gf7⟩ := av7
 have hin9 : ¬ ((0 : Int32) < 0 ∨ cl7.slots.size ≤ ((0 : Int32) : Int32).toNatClampNeg) := inb_of S7 (by decide)
 have hat9 : cl7.slots[((0 : Int32) : Int32).toNatClampNeg]? = some (.int qi3) := Has.at H7 hin9 rfl
 have g_b2 : n0 ≤ b2 := Nat.le_trans (Nat.le_trans (Nat.le_of_eq X00.1.symm) X00.2.1) w4
 have O11 := X00.keep K1q all0
 obtain ⟨_, T10, L10, X10, hQ10, st10⟩ := own_cS 1 4 [] 20 #[rv qa1, iv 0, iv 2, rv b2, iv 0] X1 hx hZ hown (w52_ hw) (w53_ hw) (w22_ hw) (w54_ hw) (rm34 l Z a0 hw  b2 (0 : Int32) qi3 c3_ (0 : Int32) (0 : Int32) (0 : Int32) (0 : Int32) T1.heap n0 O11 uS12 uS15 uS18 w5 (by decide) (by decide) g_b2) pd9 hml.symm (hb hby d7_20) rfl rfl rfl rfl rfl (by decide)
 obtain ⟨rfl, N10q, K10q, w12⟩ := hQ10
 have N10 := Fr.app N1 N10q
 have sz_b2 : h0.size ≤ b2 := w4
 have K13 := K6.trans K10q (allS (Or.inr sz_b2) all0)
 have A14_ : Arv Z T10.heap b2 c3_ .byte (4 : Int32) [(.int ((((qi3 >>> ((0 : Int32) &&& 31)))).toInt8.toInt32)), (.int ((((qi3 >>> ((8 : Int32) &&& 31)))).toInt8.toInt32)), .int 0, .int 0] (.int 0) := w12
 have A16_ := A8_.keep K10q (ninS (Nat.ne_of_lt (Nat.lt_of_lt_of_le A_qa1.lt w4)) nin0)
 have av15 := A16_
 obtain ⟨cl15, Ar15, q15, S15, N15, H15, Gf15⟩ := av15
 have hin17 : ¬ ((1 : Int32) < 0 ∨ cl15.slots.size ≤ ((1 : Int32) : Int32).toNatClampNeg) := inb_of S15 (by decide)
 have hat17 : cl15.slots[((1 : Int32) : Int32).toNatClampNeg]? = some (.int qi4) := Has.at H15 hin17 rfl
 have O19 := O11.keep K10q (allS g_b2 all0)
 obtain ⟨_, T18, L18, X18, hQ18, st18⟩ := own_cS 1 4 [] 20 #[rv qa1, iv 1, iv 2, rv b2, iv 1] X10 hx hZ hown (w52_ hw) (w53_ hw) (w22_ hw) (w54_ hw) (rm34 l Z a0 hw  b2 (1 : Int32) qi4 c3_ ((((qi3 >>> ((0 : Int32) &&& 31)))).toInt8.toInt32) ((((qi3 >>> ((8 : Int32) &&& 31)))).toInt8.toInt32) (0 : Int32) (0 : Int32) T10.heap n0 O19 uS12 uS15 uS18 A14_ (by decide) (by decide) g_b2) pd9 hml.symm (hb hby d7_20) rfl rfl rfl rfl rfl (by decide)
 obtain ⟨rfl, N18q, K18q, w20⟩ := hQ18
 have N18 := Fr.app N10 N18q
 have K21 := K13.trans K18q (allS (Or.inr sz_b2) all0)
 have A22_ : Arv Z T18.heap b2 c3_ .byte (4 : Int32) [(.int ((((qi3 >>> ((0 : Int32) &&& 31)))).toInt8.toInt32)), (.int ((((qi3 >>> ((8 : Int32) &&& 31)))).toInt8.toInt32)), (.int ((((qi4 >>> ((0 : Int32) &&& 31)))).toInt8.toInt32)), (.int ((((qi4 >>> ((8 : Int32) &&& 31)))).toInt8.toInt32))] (.int 0) := w20
 refine own_lvF X18 Bd (.ref b2) rfl ⟨b2, c3_, rfl, N18, K21, sz_b2, A22_⟩ rfl (fun fs hr => pre0 _ (by
  show Sx p e below s₁ m 0 #[rv qa1, iv 0, iv 2, .unset, .unset] [] _
  refine zj X0 Bd d7_0 rfl ?_
  refine st1 _ ?_
  refine XS.astoreN X1.here hx rfl (hb hby d7_4) rfl rfl (l' := #[rv qa1, iv 0, iv 2, rv b2, .unset]) rfl ?_
  refine zc X1 Bd d7_5 ?_
  refine zs X1 Bd d7_6 (l' := #[rv qa1, iv 0, iv 2, rv b2, iv 0]) rfl ?_
  refine zi X1 Bd d7_8 rfl ?_
  refine zj X1 Bd d7_10 rfl ?_
  refine zn X1 Bd d7_11 (XT.ii_ge_f ((by decide) : (0 : Int32) < (2 : Int32))) ?_
  refine zb X1 Bd d7_14 rfl rfl ?_
  refine zi X1 Bd d7_15 rfl ?_
  refine zb X1 Bd d7_17 rfl rfl ?_
  refine zj X1 Bd d7_18 rfl ?_
  refine X1.caload hx (j := (0 : Int32)) (v := (.int qi3)) Ar7.1 (State.isArrayOf_alike hZ.alike Ar7.2.1) Ar7.2.2 hin9 hat9 (g := (mkF m 19 #[rv qa1, iv 0, iv 2, rv b2, iv 0] [.int 0, .ref qa1, .int 0, .ref b2])) rfl rfl (hb hby d7_19) _ ?_
  refine st10 _ ?_
  refine XS.iinc X10.here hx rfl (hb hby d7_23) rfl (l' := #[rv qa1, iv 1, iv 2, rv b2, iv 0]) rfl ?_
  refine XS.iinc X10.here hx rfl (hb hby d7_26) rfl (l' := #[rv qa1, iv 1, iv 2, rv b2, iv 1]) rfl ?_
  refine zg (pc' := 8) X10 Bd d7_29 rfl ?_
  refine zi X10 Bd d7_8 rfl ?_
  refine zj X10 Bd d7_10 rfl ?_
  refine zn X10 Bd d7_11 (XT.ii_ge_f ((by decide) : (1 : Int32) < (2 : Int32))) ?_
  refine zb X10 Bd d7_14 rfl rfl ?_
  refine zi X10 Bd d7_15 rfl ?_
  refine zb X10 Bd d7_17 rfl rfl ?_
  refine zj X10 Bd d7_18 rfl ?_
  refine X10.caload hx (j := (1 : Int32)) (v := (.int qi4)) Ar15.1 (State.isArrayOf_alike hZ.alike Ar15.2.1) Ar15.2.2 hin17 hat17 (g := (mkF m 19 #[rv qa1, iv 1, iv 2, rv b2, iv 1] [.int 1, .ref qa1, .int 1, .ref b2])) rfl rfl (hb hby d7_19) _ ?_
  show Sx p e below T10 m 20 #[rv qa1, iv 1, iv 2, rv b2, iv 1] [.int qi4, .int 1, .ref b2] _
  refine st18 _ ?_
  refine XS.iinc X18.here hx rfl (hb hby d7_23) rfl (l' := #[rv qa1, iv 2, iv 2, rv b2, iv 1]) rfl ?_
  refine XS.iinc X18.here hx rfl (hb hby d7_26) rfl (l' := #[rv qa1, iv 2, iv 2, rv b2, iv 2]) rfl ?_
  refine zg (pc' := 8) X18 Bd d7_29 rfl ?_
  refine zi X18 Bd d7_8 rfl ?_
  refine zj X18 Bd d7_10 rfl ?_
  refine zy (pc' := 32) X18 Bd d7_11 (XT.ii_ge_t ((by decide) : ¬ ((2 : Int32) < (2 : Int32)))) rfl ?_
  refine zb X18 Bd d7_32 rfl rfl ?_
  exact retOut X18 hx Bd.returns rfl (Or.inr (Or.inr (Or.inr (Or.inr ⟨rfl, rfl, rfl⟩)))) (hb hby d7_33) hr))
-- java/lang/StringUTF16.getChar([BI)C
def Q36 (Z : State) (qi2 : Int32) (qi4 : Int32) (qi5 : Int32) (qi6 : Int32) (qi7 : Int32) (h0 : Heap) (n0 : Nat) (v : Option Value) (h : Heap) (L : List Loc) : Prop := v = some (.int (((((((own_at ([qi4, qi5, qi6, qi7] : List Int32) ((qi2 <<< ((1 : Int32) &&& 31)))) &&& (255 : Int32)) <<< ((0 : Int32) &&& 31))) ||| ((((own_at ([qi4, qi5, qi6, qi7] : List Int32) (((qi2 <<< ((1 : Int32) &&& 31))) + (1 : Int32))) &&& (255 : Int32)) <<< ((8 : Int32) &&& 31))))).toUInt32.toUInt16.toUInt32.toInt32)) ∧ Fr n0 L ∧ h = h0
theorem rm36 (l : Launch) (Z : State) (a0 : Array Value) (hw : HW a0 Z) (qa1 : Addr) (qi2 : Int32) (qk3 : ClassId) (qi4 : Int32) (qi5 : Int32) (qi6 : Int32) (qi7 : Int32) (h0 : Heap) (n0 : Nat) (X00 : Old Z n0 h0) (uS12 : Sta Z Z.heap "java/lang/StringUTF16" "$assertionsDisabled" "Z" (.int 1)) (uS15 : Sta Z Z.heap "java/lang/StringUTF16" "HI_BYTE_SHIFT" "I" (.int 0)) (uS18 : Sta Z Z.heap "java/lang/StringUTF16" "LO_BYTE_SHIFT" "I" (.int 8)) (A_qa1 : Arv Z h0 qa1 qk3 .byte (4 : Int32) [.int qi4, .int qi5, .int qi6, .int qi7] (.int 0)) (hc3 : ¬ (qi2 < (0 : Int32))) (hc4 : qi2 < (2 : Int32)) :
    MF l Z Y11_ jdk_52_method_5_code 2 (some .char) (Rm 0 0 0 0) #[.ref qa1, .int qi2] h0 (Q36 Z qi2 qi4 qi5 qi6 qi7 h0 n0) := by
 refine own_sF pn3 rfl (fun m => ef10 m qa1 qi2) ?_
 intro p e s m below meth c s₁ Bd hZ hh hx hby hml hown hnm X0 e0 pre0
 have N0 := Fr.nil n0
 obtain ⟨T1, X1, e1, st1⟩ := getS2 X0 hx hZ hown (host := "") (Or.inl (w55_ hw)) Via.refl e0 (uS12.ext X00.2) (g := (mkF m 0 #[rv qa1, iv qi2] [])) rfl (hb hby d11_0)
 have A2_ : Arv Z h0 qa1 qk3 .byte (4 : Int32) (([qi4, qi5, qi6, qi7] : List Int32).map Value.int) (.int 0) := A_qa1
 have av5 := A2_
 obtain ⟨cl5, Ar5, q5, S5, N5, H5, Gf5⟩ := av5
 have hin6 : ¬ (((qi2 <<< ((1 : Int32) &&& 31))) < 0 ∨ cl5.slots.size ≤ (((qi2 <<< ((1 : Int32) &&& 31))) : Int32).toNatClampNeg) := inb_of S5 (own_shla2 hc3 hc4)
 have hat6 : cl5.slots[(((qi2 <<< ((1 : Int32) &&& 31))) : Int32).toNatClampNeg]? = some (.int (own_at ([qi4, qi5, qi6, qi7] : List Int32) ((qi2 <<< ((1 : Int32) &&& 31))))) := Has.at H5 hin6 (own_atV _ _)
 obtain ⟨T7, X7, e7, st7⟩ := getS2 X1 hx hZ hown (host := "") (Or.inl (w56_ hw)) Via.refl e1 (uS15.ext X00.2) (g := (mkF m 42 #[rv qa1, iv (((qi2 <<< ((1 : Int32) &&& 31))) + (1 : Int32))] [(.int ((own_at ([qi4, qi5, qi6, qi7] : List Int32) ((qi2 <<< ((1 : Int32) &&& 31)))) &&& (255 : Int32)))])) rfl (hb hby d11_42)
 have av8 := A2_
 obtain ⟨cl8, Ar8, q8, S8, N8, H8, Gf8⟩ := av8
 have hin9 : ¬ ((((qi2 <<< ((1 : Int32) &&& 31))) + (1 : Int32)) < 0 ∨ cl8.slots.size ≤ ((((qi2 <<< ((1 : Int32) &&& 31))) + (1 : Int32)) : Int32).toNatClampNeg) := inb_of S8 (own_shlb2 hc3 hc4)
 have hat9 : cl8.slots[((((qi2 <<< ((1 : Int32) &&& 31))) + (1 : Int32)) : Int32).toNatClampNeg]? = some (.int (own_at ([qi4, qi5, qi6, qi7] : List Int32) (((qi2 <<< ((1 : Int32) &&& 31))) + (1 : Int32)))) := Has.at H8 hin9 (own_atV _ _)
 obtain ⟨T10, X10, e10, st10⟩ := getS2 X7 hx hZ hown (host := "") (Or.inl (w57_ hw)) Via.refl e7 (uS18.ext X00.2) (g := (mkF m 53 #[rv qa1, iv (((qi2 <<< ((1 : Int32) &&& 31))) + (1 : Int32))] [(.int ((own_at ([qi4, qi5, qi6, qi7] : List Int32) (((qi2 <<< ((1 : Int32) &&& 31))) + (1 : Int32))) &&& (255 : Int32))), (.int ((((own_at ([qi4, qi5, qi6, qi7] : List Int32) ((qi2 <<< ((1 : Int32) &&& 31)))) &&& (255 : Int32)) <<< ((0 : Int32) &&& 31))))])) rfl (hb hby d11_53)
 refine own_lvF X10 Bd (.int (nar .char (((((((own_at ([qi4, qi5, qi6, qi7] : List Int32) ((qi2 <<< ((1 : Int32) &&& 31)))) &&& (255 : Int32)) <<< ((0 : Int32) &&& 31))) ||| ((((own_at ([qi4, qi5, qi6, qi7] : List Int32) (((qi2 <<< ((1 : Int32) &&& 31))) + (1 : Int32))) &&& (255 : Int32)) <<< ((8 : Int32) &&& 31))))).toUInt32.toUInt16.toUInt32.toInt32))) e10 ⟨(congrArg (fun z => some (Value.int z)) (own_nar_i2c _)), N0, rfl⟩ rfl (fun fs hr => pre0 _ (by
  show Sx p e below s₁ m 0 #[rv qa1, iv qi2] [] _
  refine st1 _ ?_
  refine zp (pc' := 28) X1 Bd d11_3 (XT.i0_ne_t ((by decide) : ¬ ((1 : Int32) = (0 : Int32)))) rfl ?_
  refine zj X1 Bd d11_28 rfl ?_
  refine zc X1 Bd d11_29 ?_
  refine XS.ishl X1.here hx rfl (hb hby d11_30) rfl ?_
  refine zt X1 Bd d11_31 (l' := #[rv qa1, iv ((qi2 <<< ((1 : Int32) &&& 31)))]) rfl ?_
  refine zb X1 Bd d11_32 rfl rfl ?_
  refine zj X1 Bd d11_33 rfl ?_
  refine XS.iinc X1.here hx rfl (hb hby d11_34) rfl (l' := #[rv qa1, iv (((qi2 <<< ((1 : Int32) &&& 31))) + (1 : Int32))]) rfl ?_
  refine X1.baloadBytes hx (j := ((qi2 <<< ((1 : Int32) &&& 31)))) (v := (.int (own_at ([qi4, qi5, qi6, qi7] : List Int32) ((qi2 <<< ((1 : Int32) &&& 31)))))) (by rw [e1]; exact Ar5.1) (State.isArrayOf_alike hZ.alike Ar5.2.1) Ar5.2.2 hin6 hat6 (g := (mkF m 37 #[rv qa1, iv (((qi2 <<< ((1 : Int32) &&& 31))) + (1 : Int32))] [(.int ((qi2 <<< ((1 : Int32) &&& 31)))), .ref qa1])) rfl rfl (hb hby d11_37) _ ?_
  refine XS.sipush X1.here hx rfl (hb hby d11_38) ?_
  refine XS.iand X1.here hx rfl (hb hby d11_41) rfl ?_
  refine st7 _ ?_
  refine XS.ishl X7.here hx rfl (hb hby d11_45) rfl ?_
  refine zb X7 Bd d11_46 rfl rfl ?_
  refine zj X7 Bd d11_47 rfl ?_
  refine X7.baloadBytes hx (j := (((qi2 <<< ((1 : Int32) &&& 31))) + (1 : Int32))) (v := (.int (own_at ([qi4, qi5, qi6, qi7] : List Int32) (((qi2 <<< ((1 : Int32) &&& 31))) + (1 : Int32))))) (by rw [e7]; exact Ar8.1) (State.isArrayOf_alike hZ.alike Ar8.2.1) Ar8.2.2 hin9 hat9 (g := (mkF m 48 #[rv qa1, iv (((qi2 <<< ((1 : Int32) &&& 31))) + (1 : Int32))] [(.int (((qi2 <<< ((1 : Int32) &&& 31))) + (1 : Int32))), .ref qa1, (.int ((((own_at ([qi4, qi5, qi6, qi7] : List Int32) ((qi2 <<< ((1 : Int32) &&& 31)))) &&& (255 : Int32)) <<< ((0 : Int32) &&& 31))))])) rfl rfl (hb hby d11_48) _ ?_
  refine XS.sipush X7.here hx rfl (hb hby d11_49) ?_
  refine XS.iand X7.here hx rfl (hb hby d11_52) rfl ?_
  refine st10 _ ?_
  refine XS.ishl X10.here hx rfl (hb hby d11_56) rfl ?_
  refine XS.ior X10.here hx rfl (hb hby d11_57) rfl ?_
  refine XS.i2c X10.here hx rfl (hb hby d11_58) rfl ?_
  exact retN X10 hx (t := .char) Bd.returns (by simp) (hb hby d11_59) hr))
theorem d6_26 : decode jdk_52_method_21_code 26 = .ok (.aload_n 2, 1) := by decide +kernel
theorem d6_27 : decode jdk_52_method_21_code 27 = .ok (.iload_n 3, 1) := by decide +kernel
theorem d6_28 : decode jdk_52_method_21_code 28 = .ok (.iload 6, 2) := by decide +kernel
theorem d6_30 : decode jdk_52_method_21_code 30 = .ok (.i2b, 1) := by decide +kernel
theorem d6_31 : decode jdk_52_method_21_code 31 = .ok (.bastore, 1) := by decide +kernel
theorem d6_32 : decode jdk_52_method_21_code 32 = .ok (.iinc 1 1, 3) := by decide +kernel
theorem d6_35 : decode jdk_52_method_21_code 35 = .ok (.iinc 3 1, 3) := by decide +kernel
theorem d6_38 : decode jdk_52_method_21_code 38 = .ok (.iinc 5 1, 3) := by decide +kernel
theorem d6_41 : decode jdk_52_method_21_code 41 = .ok (.goto (-38), 3) := by decide +kernel
-- java/lang/StringUTF16.compress([CI[BII)I
def Q37 (Z : State) (qa2 : Addr) (qi4 : Int32) (qk6 : ClassId) (h0 : Heap) (n0 : Nat) (v : Option Value) (h : Heap) (L : List Loc) : Prop := v = some (.int 1) ∧ Fr n0 L ∧ Keep h0 h [qa2] ∧ Arv Z h qa2 qk6 .byte (2 : Int32) [(.int ((qi4).toInt8.toInt32)), .int 0] (.int 0)
theorem rm37 (l : Launch) (Z : State) (a0 : Array Value) (hw : HW a0 Z) (qa1 : Addr) (qa2 : Addr) (qk3 : ClassId) (qi4 : Int32) (qi5 : Int32) (qk6 : ClassId) (h0 : Heap) (n0 : Nat) (X00 : Old Z n0 h0) (A_qa1 : Arv Z h0 qa1 qk3 .char (2 : Int32) [.int qi4, .int qi5] (.int 0)) (hc3 : ¬ ((255 : Int32) < qi4)) (A_qa2 : Arv Z h0 qa2 qk6 .byte (2 : Int32) [.int 0, .int 0] (.int 0)) (g_qa2 : n0 ≤ qa2) (ne_qa1_qa2 : qa1 ≠ qa2) (hc11 : (255 : Int32) < qi5) :
    MF l Z Y6_ jdk_52_method_21_code 7 (some .int) (Rm 0 0 0 0) #[.ref qa1, .int 0, .ref qa2, .int 0, .int 2] h0 (Q37 Z qa2 qi4 qk6 h0 n0) := by
 refine own_sF pn3 rfl (fun m => ef7 m qa1 (0 : Int32) qa2 (0 : Int32) (2 : Int32)) ?_
 intro p e s m below meth c s₁ Bd hZ hh hx hby hml hown hnm X0 e0 pre0
 have N0 := Fr.nil n0
 have av1 := A_qa1
 obtain ⟨cl1, Ar1, q1, S1, N1, H1, Gf1⟩ := av1
 have hin2 : ¬ ((0 : Int32) < 0 ∨ cl1.slots.size ≤ ((0 : Int32) : Int32).toNatClampNeg) := inb_of S1 (by decide)
 have hat2 : cl1.slots[((0 : Int32) : Int32).toNatClampNeg]? = some (.int qi4) := Has.at H1 hin2 rfl
 have av4 := A_qa2
 obtain ⟨cl4, Ar4, q4, S4, N4, H4, Gf4⟩ := av4
 have hin5 : ¬ ((0 : Int32) < 0 ∨ cl4.slots.size ≤ ((0 : Int32) : Int32).toNatClampNeg) := inb_of S4 (by decide)
 obtain ⟨T5, h5, X5, e5, W5, st5⟩ := stB X0 hx hZ e0 Ar4 (j := (0 : Int32)) hin5 (g := (mkF m 31 #[rv qa1, iv 0, rv qa2, iv 0, iv 2, iv 0, iv qi4] [(.int ((qi4).toInt8.toInt32)), .int 0, .ref qa2])) rfl rfl (hb hby d6_31)
 have N5_ := Fr.snoc X5 N0 g_qa2
 have K6 := (Keep.refl h0 [qa2]).wr W5 (Or.inl (mI 0 rfl))
 have A7_ : Arv Z h5 qa2 qk6 .byte (2 : Int32) [(.int ((qi4).toInt8.toInt32)), .int 0] (.int 0) := by have q := Arv.set (v := .int (nar .byte ((qi4).toInt8.toInt32))) Ar4 q4 S4 N4 H4 Gf4 (fits_nar_byte _) W5 0 (by decide) (lE rfl); rw [((own_nar_i2b _) : nar .byte ((qi4).toInt8.toInt32) = ((qi4).toInt8.toInt32))] at q; exact q
 have A9_ := A_qa1.other W5 ne_qa1_qa2
 have av8 := A9_
 obtain ⟨cl8, Ar8, q8, S8, N8, H8, Gf8⟩ := av8
 have hin10 : ¬ ((1 : Int32) < 0 ∨ cl8.slots.size ≤ ((1 : Int32) : Int32).toNatClampNeg) := inb_of S8 (by decide)
 have hat10 : cl8.slots[((1 : Int32) : Int32).toNatClampNeg]? = some (.int qi5) := Has.at H8 hin10 rfl
 refine own_lvF X5 Bd (.int 1) e5 ⟨rfl, N5_, K6, A7_⟩ rfl (fun fs hr => pre0 _ (by
  show Sx p e below s₁ m 0 #[rv qa1, iv 0, rv qa2, iv 0, iv 2, .unset, .unset] [] _
  refine zc X0 Bd d6_0 ?_
  refine zs X0 Bd d6_1 (l' := #[rv qa1, iv 0, rv qa2, iv 0, iv 2, iv 0, .unset]) rfl ?_
  refine zi X0 Bd d6_3 rfl ?_
  refine zi X0 Bd d6_5 rfl ?_
  refine zn X0 Bd d6_7 (XT.ii_ge_f ((by decide) : (0 : Int32) < (2 : Int32))) ?_
  refine zb X0 Bd d6_10 rfl rfl ?_
  refine zj X0 Bd d6_11 rfl ?_
  refine X0.caload hx (j := (0 : Int32)) (v := (.int qi4)) (by rw [e0]; exact Ar1.1) (State.isArrayOf_alike hZ.alike Ar1.2.1) Ar1.2.2 hin2 hat2 (g := (mkF m 12 #[rv qa1, iv 0, rv qa2, iv 0, iv 2, iv 0, .unset] [.int 0, .ref qa1])) rfl rfl (hb hby d6_12) _ ?_
  refine zs X0 Bd d6_13 (l' := #[rv qa1, iv 0, rv qa2, iv 0, iv 2, iv 0, iv qi4]) rfl ?_
  refine zi X0 Bd d6_15 rfl ?_
  refine XS.sipush X0.here hx rfl (hb hby d6_17) ?_
  refine zy (pc' := 26) X0 Bd d6_20 (XT.ii_le_t (hc3 : ¬ ((255 : Int32) < qi4))) rfl ?_
  refine zb X0 Bd d6_26 rfl rfl ?_
  refine zj X0 Bd d6_27 rfl ?_
  refine zi X0 Bd d6_28 rfl ?_
  refine XS.i2b X0.here hx rfl (hb hby d6_30) rfl ?_
  refine st5 _ ?_
  refine XS.iinc X5.here hx rfl (hb hby d6_32) rfl (l' := #[rv qa1, iv 1, rv qa2, iv 0, iv 2, iv 0, iv qi4]) rfl ?_
  refine XS.iinc X5.here hx rfl (hb hby d6_35) rfl (l' := #[rv qa1, iv 1, rv qa2, iv 1, iv 2, iv 0, iv qi4]) rfl ?_
  refine XS.iinc X5.here hx rfl (hb hby d6_38) rfl (l' := #[rv qa1, iv 1, rv qa2, iv 1, iv 2, iv 1, iv qi4]) rfl ?_
  refine zg (pc' := 3) X5 Bd d6_41 rfl ?_
  refine zi X5 Bd d6_3 rfl ?_
  refine zi X5 Bd d6_5 rfl ?_
  refine zn X5 Bd d6_7 (XT.ii_ge_f ((by decide) : (1 : Int32) < (2 : Int32))) ?_
  refine zb X5 Bd d6_10 rfl rfl ?_
  show Sx p e below T5 m 11 #[rv qa1, iv 1, rv qa2, iv 1, iv 2, iv 1, iv qi4] [.ref qa1] _
  refine zj X5 Bd d6_11 rfl ?_
  refine X5.caload hx (j := (1 : Int32)) (v := (.int qi5)) (by rw [e5]; exact Ar8.1) (State.isArrayOf_alike hZ.alike Ar8.2.1) Ar8.2.2 hin10 hat10 (g := (mkF m 12 #[rv qa1, iv 1, rv qa2, iv 1, iv 2, iv 1, iv qi4] [.int 1, .ref qa1])) rfl rfl (hb hby d6_12) _ ?_
  refine zs X5 Bd d6_13 (l' := #[rv qa1, iv 1, rv qa2, iv 1, iv 2, iv 1, iv qi5]) rfl ?_
  refine zi X5 Bd d6_15 rfl ?_
  refine XS.sipush X5.here hx rfl (hb hby d6_17) ?_
  refine zn X5 Bd d6_20 (XT.ii_le_f (hc11 : (255 : Int32) < qi5)) ?_
  refine zi X5 Bd d6_23 rfl ?_
  exact retI X5 hx Bd.returns (hb hby d6_25) hr))
-- java/lang/StringUTF16.compress([CII)[B
def Q38 (Z : State) (qi3 : Int32) (qi4 : Int32) (h0 : Heap) (n0 : Nat) (v : Option Value) (h : Heap) (L : List Loc) : Prop := ∃ bm : Addr, ∃ cm : ClassId, v = some (.ref bm) ∧ Fr n0 L ∧ Keep h0 h [] ∧ h0.size ≤ bm ∧ Arv Z h bm cm .byte (4 : Int32) [(.int ((((qi3 >>> ((0 : Int32) &&& 31)))).toInt8.toInt32)), (.int ((((qi3 >>> ((8 : Int32) &&& 31)))).toInt8.toInt32)), (.int ((((qi4 >>> ((0 : Int32) &&& 31)))).toInt8.toInt32)), (.int ((((qi4 >>> ((8 : Int32) &&& 31)))).toInt8.toInt32))] (.int 0)
theorem rm38 (l : Launch) (Z : State) (a0 : Array Value) (hw : HW a0 Z) (qa1 : Addr) (qk2 : ClassId) (qi3 : Int32) (qi4 : Int32) (h0 : Heap) (n0 : Nat) (X00 : Old Z n0 h0) (uS12 : Sta Z Z.heap "java/lang/StringUTF16" "$assertionsDisabled" "Z" (.int 1)) (uS15 : Sta Z Z.heap "java/lang/StringUTF16" "HI_BYTE_SHIFT" "I" (.int 0)) (uS18 : Sta Z Z.heap "java/lang/StringUTF16" "LO_BYTE_SHIFT" "I" (.int 8)) (A_qa1 : Arv Z h0 qa1 qk2 .char (2 : Int32) [.int qi3, .int qi4] (.int 0)) (hc1 : (255 : Int32) < (own_max ([qi3, qi4] : List Int32))) (hr20 : nar .char qi3 = qi3) (hr39 : nar .char qi4 = qi4) :
    MF l Z Y12_ jdk_52_method_16_code 6 (some (.array .byte)) (Rm 3 2 6 40) #[.ref qa1, .int 0, .int 2] h0 (Q38 Z qi3 qi4 h0 n0) := by
 refine own_sF pn3 rfl (fun m => ef6 m qa1 (0 : Int32) (2 : Int32)) ?_
 intro p e s m below meth c s₁ Bd hZ hh hx hby hml hown hnm X0 e0 pre0
 have N0 := Fr.nil n0
 obtain ⟨T2, h2, c2, X2, e2, E2, A2, st2⟩ := newP (aty := .byte) X0 hx hZ (w24_ hw) e0 (g := (mkF m 1 #[rv qa1, iv 0, iv 2, .unset, .unset, .unset] [.int 2])) rfl (hb hby d5_1) rfl (by decide) (cap := 2) (by decide) (lE rfl) (lE rfl) (lE rfl)
 obtain ⟨b2, g2⟩ : ∃ z, z = h0.size := ⟨_, rfl⟩
 rw [← g2] at A2 st2
 replace X2 : Stand p l e (Rm 3 2 6 40) s m #[.ref qa1, .int 0, .int 2] below meth c T2 _ 1 2 := X2
 have K3 := (Keep.refl h0 []).ext E2
 have A4_ : Arv Z h2 b2 c2 .byte (2 : Int32) [.int 0, .int 0] (.int 0) := (Arv.new A2 (by decide)).pad (pad_rep [] (.int 0) 2)
 have A6_ := A_qa1.ext E2
 have pr7 : Pr p e below T2 m 9 #[rv qa1, iv 0, iv 2, rv b2, .unset, .unset] [.int 2, .int 0, .ref b2, .int 0, .ref qa1] s₁ (entryFrame m #[.ref qa1, .int 0, .int 2] 6) := fun t k => pre0 t (by
  show Sx p e below s₁ m 0 #[rv qa1, iv 0, iv 2, .unset, .unset, .unset] [] _
  refine zj X0 Bd d5_0 rfl ?_
  refine st2 _ ?_
  refine XS.astoreN X2.here hx rfl (hb hby d5_3) rfl rfl (l' := #[rv qa1, iv 0, iv 2, rv b2, .unset, .unset]) rfl ?_
  refine zb X2 Bd d5_4 rfl rfl ?_
  refine zj X2 Bd d5_5 rfl ?_
  refine zb X2 Bd d5_6 rfl rfl ?_
  refine zc X2 Bd d5_7 ?_
  refine zj X2 Bd d5_8 rfl ?_
  exact k)
 by_cases hc8 : (255 : Int32) < qi3
 ·
  skip
  have A10_ := A_qa1.ext E2
  have O11 := X00.ext E2
  obtain ⟨_, T9, L9, X9, hQ9, st9⟩ := own_cS 1 2 [] 9 #[rv qa1, iv 0, iv 2, rv b2, .unset, .unset] X2 hx hZ hown (w25_ hw) (w26_ hw) (w22_ hw) (w27_ hw) (rm31 l Z a0 hw  qa1 b2 qk2 qi3 qi4 h2 n0 O11 A10_ hc8) pd6 hml.symm (hb hby d5_9) e2 rfl rfl rfl rfl (by decide)
  obtain ⟨rfl, N9q, e9q⟩ := hQ9
  have N9 := Fr.app N0 N9q
  obtain ⟨_, T12, L12, X12, hQ12, st12⟩ := own_cS 2 6 [] 23 #[rv qa1, iv 0, iv 2, rv b2, iv 0, .unset] X9 hx hZ hown (w42_ hw) (w43_ hw) (w22_ hw) (w44_ hw) (rm35 l Z a0 hw  qa1 qk2 qi3 qi4 h2 n0 O11 uS12 uS15 uS18 A10_) pd10 hml.symm (hb hby d5_23) e9q rfl rfl rfl rfl (by decide)
  obtain ⟨b13, c14_, rfl, N12q, K12q, w15, w16⟩ := hQ12
  have N12 := Fr.app N9 N12q
  have K17 := K3.trans K12q (fun x q => nomatch q)
  have O19 := O11.keep K12q all0
  obtain ⟨_, T18, L18, X18, hQ18, st18⟩ := own_cS 2 6 [] 32 #[rv qa1, iv 0, iv 2, rv b2, iv 0, rv b13] X12 hx hZ hown (w58_ hw) (w59_ hw) (w22_ hw) (w60_ hw) (rm36 l Z a0 hw  b13 (0 : Int32) c14_ ((((qi3 >>> ((0 : Int32) &&& 31)))).toInt8.toInt32) ((((qi3 >>> ((8 : Int32) &&& 31)))).toInt8.toInt32) ((((qi4 >>> ((0 : Int32) &&& 31)))).toInt8.toInt32) ((((qi4 >>> ((8 : Int32) &&& 31)))).toInt8.toInt32) T12.heap n0 O19 uS12 uS15 uS18 w16 (by decide) (by decide)) pd11 hml.symm (hb hby d5_32) rfl rfl rfl rfl rfl (by decide)
  obtain ⟨rfl, N18q, e18q⟩ := hQ18
  have N18 := Fr.app N12 N18q
  have sz_b13 : h0.size ≤ b13 := Nat.le_trans K3.1 w15
  refine own_lvF X18 Bd (.ref b13) e18q ⟨b13, c14_, rfl, N18, K17, sz_b13, w16⟩ rfl (fun fs hr => pr7 _ (by
   show Sx p e below T2 m 9 #[rv qa1, iv 0, iv 2, rv b2, .unset, .unset] [.int 2, .int 0, .ref b2, .int 0, .ref qa1] _
   refine st9 _ ?_
   refine zs X9 Bd d5_12 (l' := #[rv qa1, iv 0, iv 2, rv b2, iv 0, .unset]) rfl ?_
   refine zi X9 Bd d5_14 rfl ?_
   refine zj X9 Bd d5_16 rfl ?_
   refine zn X9 Bd d5_17 (XT.ii_eq_f ((by decide) : ¬ ((0 : Int32) = (2 : Int32)))) ?_
   refine zb X9 Bd d5_20 rfl rfl ?_
   refine zj X9 Bd d5_21 rfl ?_
   refine zj X9 Bd d5_22 rfl ?_
   refine st12 _ ?_
   refine XS.astore X12.here hx rfl (hb hby d5_26) rfl rfl (l' := #[rv qa1, iv 0, iv 2, rv b2, iv 0, rv b13]) rfl ?_
   refine za X12 Bd d5_28 rfl rfl ?_
   refine zi X12 Bd d5_30 rfl ?_
   refine st18 _ ?_
   refine XS.sipush X18.here hx rfl (hb hby d5_35) ?_
   refine zy (pc' := 54) X18 Bd d5_38 (XT.ii_gt_t ((own_get16l hr20 hc8) : (255 : Int32) < ((((((((((qi3 >>> ((0 : Int32) &&& 31)))).toInt8.toInt32) &&& (255 : Int32)) <<< ((0 : Int32) &&& 31))) ||| (((((((qi3 >>> ((8 : Int32) &&& 31)))).toInt8.toInt32) &&& (255 : Int32)) <<< ((8 : Int32) &&& 31))))).toUInt32.toUInt16.toUInt32.toInt32))) rfl ?_
   refine za X18 Bd d5_54 rfl rfl ?_
   exact retOut X18 hx Bd.returns rfl (Or.inr (Or.inr (Or.inr (Or.inr ⟨rfl, rfl, rfl⟩)))) (hb hby d5_56) hr))
 ·
  skip
  have A22_ := A_qa1.ext E2
  have g_b2 : n0 ≤ b2 := Nat.le_trans (Nat.le_trans (Nat.le_of_eq X00.1.symm) X00.2.1) (Nat.le_of_eq g2.symm)
  by_cases hc23 : (255 : Int32) < qi4
  ·
   skip
   have A25_ := A_qa1.ext E2
   have g_b2 : n0 ≤ b2 := Nat.le_trans (Nat.le_trans (Nat.le_of_eq X00.1.symm) X00.2.1) (Nat.le_of_eq g2.symm)
   have O26 := X00.ext E2
   obtain ⟨_, T24, L24, X24, hQ24, st24⟩ := own_cS 1 2 [] 9 #[rv qa1, iv 0, iv 2, rv b2, .unset, .unset] X2 hx hZ hown (w25_ hw) (w26_ hw) (w22_ hw) (w27_ hw) (rm37 l Z a0 hw  qa1 b2 qk2 qi3 qi4 c2 h2 n0 O26 A25_ hc8 A4_ g_b2 (Nat.ne_of_lt (Nat.lt_of_lt_of_le A_qa1.lt (Nat.le_of_eq g2.symm))) hc23) pd6 hml.symm (hb hby d5_9) e2 rfl rfl rfl rfl (by decide)
   obtain ⟨rfl, N24q, K24q, w27⟩ := hQ24
   have N24 := Fr.app N0 N24q
   have sz_b2 : h0.size ≤ b2 := (Nat.le_of_eq g2.symm)
   have K28 := K3.trans K24q (allS (Or.inr sz_b2) all0)
   have A30_ := A25_.keep K24q (ninS (Nat.ne_of_lt (Nat.lt_of_lt_of_le A_qa1.lt (Nat.le_of_eq g2.symm))) nin0)
   have O31 := O26.keep K24q (allS g_b2 all0)
   obtain ⟨_, T29, L29, X29, hQ29, st29⟩ := own_cS 2 6 [] 23 #[rv qa1, iv 0, iv 2, rv b2, iv 1, .unset] X24 hx hZ hown (w42_ hw) (w43_ hw) (w22_ hw) (w44_ hw) (rm35 l Z a0 hw  qa1 qk2 qi3 qi4 T24.heap n0 O31 uS12 uS15 uS18 A30_) pd10 hml.symm (hb hby d5_23) rfl rfl rfl rfl rfl (by decide)
   obtain ⟨b32, c33_, rfl, N29q, K29q, w34, w35⟩ := hQ29
   have N29 := Fr.app N24 N29q
   have K36 := K28.trans K29q (fun x q => nomatch q)
   have O38 := O31.keep K29q all0
   obtain ⟨_, T37, L37, X37, hQ37, st37⟩ := own_cS 2 6 [] 32 #[rv qa1, iv 0, iv 2, rv b2, iv 1, rv b32] X29 hx hZ hown (w58_ hw) (w59_ hw) (w22_ hw) (w60_ hw) (rm36 l Z a0 hw  b32 (1 : Int32) c33_ ((((qi3 >>> ((0 : Int32) &&& 31)))).toInt8.toInt32) ((((qi3 >>> ((8 : Int32) &&& 31)))).toInt8.toInt32) ((((qi4 >>> ((0 : Int32) &&& 31)))).toInt8.toInt32) ((((qi4 >>> ((8 : Int32) &&& 31)))).toInt8.toInt32) T29.heap n0 O38 uS12 uS15 uS18 w35 (by decide) (by decide)) pd11 hml.symm (hb hby d5_32) rfl rfl rfl rfl rfl (by decide)
   obtain ⟨rfl, N37q, e37q⟩ := hQ37
   have N37 := Fr.app N29 N37q
   have sz_b32 : h0.size ≤ b32 := Nat.le_trans K28.1 w34
   refine own_lvF X37 Bd (.ref b32) e37q ⟨b32, c33_, rfl, N37, K36, sz_b32, w35⟩ rfl (fun fs hr => pr7 _ (by
    show Sx p e below T2 m 9 #[rv qa1, iv 0, iv 2, rv b2, .unset, .unset] [.int 2, .int 0, .ref b2, .int 0, .ref qa1] _
    refine st24 _ ?_
    refine zs X24 Bd d5_12 (l' := #[rv qa1, iv 0, iv 2, rv b2, iv 1, .unset]) rfl ?_
    refine zi X24 Bd d5_14 rfl ?_
    refine zj X24 Bd d5_16 rfl ?_
    refine zn X24 Bd d5_17 (XT.ii_eq_f ((by decide) : ¬ ((1 : Int32) = (2 : Int32)))) ?_
    refine zb X24 Bd d5_20 rfl rfl ?_
    refine zj X24 Bd d5_21 rfl ?_
    refine zj X24 Bd d5_22 rfl ?_
    refine st29 _ ?_
    refine XS.astore X29.here hx rfl (hb hby d5_26) rfl rfl (l' := #[rv qa1, iv 0, iv 2, rv b2, iv 1, rv b32]) rfl ?_
    refine za X29 Bd d5_28 rfl rfl ?_
    refine zi X29 Bd d5_30 rfl ?_
    refine st37 _ ?_
    refine XS.sipush X37.here hx rfl (hb hby d5_35) ?_
    refine zy (pc' := 54) X37 Bd d5_38 (XT.ii_gt_t ((own_get16l hr39 hc23) : (255 : Int32) < ((((((((((qi4 >>> ((0 : Int32) &&& 31)))).toInt8.toInt32) &&& (255 : Int32)) <<< ((0 : Int32) &&& 31))) ||| (((((((qi4 >>> ((8 : Int32) &&& 31)))).toInt8.toInt32) &&& (255 : Int32)) <<< ((8 : Int32) &&& 31))))).toUInt32.toUInt16.toUInt32.toInt32))) rfl ?_
    refine za X37 Bd d5_54 rfl rfl ?_
    exact retOut X37 hx Bd.returns rfl (Or.inr (Or.inr (Or.inr (Or.inr ⟨rfl, rfl, rfl⟩)))) (hb hby d5_56) hr))
  ·
   skip
   exact absurd hc1 (own_maxno _ (List.forall_mem_cons.mpr ⟨hc8, (List.forall_mem_cons.mpr ⟨hc23, (fun _ q => nomatch q)⟩)⟩))
-- java/lang/StringUTF16.coderFromArrayLen([BI)B
def Q39 (Z : State)  (h0 : Heap) (n0 : Nat) (v : Option Value) (h : Heap) (L : List Loc) : Prop := v = some (.int 1) ∧ Fr n0 L ∧ h = h0
theorem rm39 (l : Launch) (Z : State) (a0 : Array Value) (hw : HW a0 Z) (qa1 : Addr) (qk2 : ClassId) (qi3 : Int32) (qi4 : Int32) (qi5 : Int32) (qi6 : Int32) (h0 : Heap) (n0 : Nat) (X00 : Old Z n0 h0) (A_qa1 : Arv Z h0 qa1 qk2 .byte (4 : Int32) [.int qi3, .int qi4, .int qi5, .int qi6] (.int 0)) :
    MF l Z Y13_ jdk_52_method_15_code 2 (some .byte) (Rm 0 0 0 0) #[.ref qa1, .int 2] h0 (Q39 Z  h0 n0) := by
 refine own_sF pn3 rfl (fun m => ef10 m qa1 (2 : Int32)) ?_
 intro p e s m below meth c s₁ Bd hZ hh hx hby hml hown hnm X0 e0 pre0
 have N0 := Fr.nil n0
 have av1 := A_qa1
 obtain ⟨cl1, Ar1, q1, S1, N1, H1, Gf1⟩ := av1
 refine own_lvF X0 Bd (.int 1) e0 ⟨rfl, N0, rfl⟩ rfl (fun fs hr => pre0 _ (by
  show Sx p e below s₁ m 0 #[rv qa1, iv 2] [] _
  refine zj X0 Bd d12_0 rfl ?_
  refine zb X0 Bd d12_1 rfl rfl ?_
  refine X0.arraylength hx (by rw [e0]; exact Ar1.1) (State.isArrayOf_alike hZ.alike Ar1.2.1) (g := (mkF m 2 #[rv qa1, iv 2] [.ref qa1, .int 2])) rfl rfl (hb hby d12_2) _ ?_
  rw [len_of S1 N1]
  refine XS.isub X0.here hx rfl (hb hby d12_3) rfl ?_
  refine zd X0 Bd d12_4 ?_
  refine XS.iushr X0.here hx rfl (hb hby d12_6) rfl ?_
  refine XS.i2b X0.here hx rfl (hb hby d12_7) rfl ?_
  exact retN X0 hx (t := .byte) Bd.returns (by simp) (hb hby d12_8) hr))
-- java/lang/String.<init>([CIILjava/lang/Void;)V
def Q40 (Z : State) (qa1 : Addr) (qi4 : Int32) (qi5 : Int32) (h0 : Heap) (n0 : Nat) (v : Option Value) (h : Heap) (L : List Loc) : Prop := ∃ b7 : Addr, ∃ c8_ : ClassId, v = none ∧ Fr n0 L ∧ Keep h0 h [qa1] ∧ h0.size ≤ b7 ∧ Exa Z h qa1 "java/lang/String" ∧ Fld Z h qa1 "java/lang/String" "coder" "B" (.int 1) ∧ Fld Z h qa1 "java/lang/String" "value" "[B" (.ref b7) ∧ Arv Z h b7 c8_ .byte (4 : Int32) [(.int ((((qi4 >>> ((0 : Int32) &&& 31)))).toInt8.toInt32)), (.int ((((qi4 >>> ((8 : Int32) &&& 31)))).toInt8.toInt32)), (.int ((((qi5 >>> ((0 : Int32) &&& 31)))).toInt8.toInt32)), (.int ((((qi5 >>> ((8 : Int32) &&& 31)))).toInt8.toInt32))] (.int 0)
theorem rm40 (l : Launch) (Z : State) (a0 : Array Value) (hw : HW a0 Z) (G1 : Int32) (qa1 : Addr) (qa2 : Addr) (qk3 : ClassId) (qi4 : Int32) (qi5 : Int32) (h0 : Heap) (n0 : Nat) (X00 : Old Z n0 h0) (O2 : Sta Z Z.heap "java/lang/String" "COMPACT_STRINGS" "Z" (.int G1)) (P5 : ¬ (G1 = (0 : Int32))) (uS12 : Sta Z Z.heap "java/lang/StringUTF16" "$assertionsDisabled" "Z" (.int 1)) (uS15 : Sta Z Z.heap "java/lang/StringUTF16" "HI_BYTE_SHIFT" "I" (.int 0)) (uS18 : Sta Z Z.heap "java/lang/StringUTF16" "LO_BYTE_SHIFT" "I" (.int 8)) (A_qa2 : Arv Z h0 qa2 qk3 .char (2 : Int32) [.int qi4, .int qi5] (.int 0)) (hc4 : (255 : Int32) < (own_max ([qi4, qi5] : List Int32))) (hr5 : nar .char qi4 = qi4) (hr6 : nar .char qi5 = qi5) (E_qa1 : Exa Z h0 qa1 "java/lang/String") (F_qa1_coder : Fld Z h0 qa1 "java/lang/String" "coder" "B" (.int 0)) (g_qa1 : n0 ≤ qa1) (F_qa1_value : Fld Z h0 qa1 "java/lang/String" "value" "[B" .null) :
    MF l Z Y1_ jdk_42_method_149_code 6 none (Rm 4 2 6 57) #[.ref qa1, .ref qa2, .int 0, .int 2, .null] h0 (Q40 Z qa1 qi4 qi5 h0 n0) := by
 refine own_sF pn1 rfl (fun m => ef3 m qa1 qa2 (0 : Int32) (2 : Int32)) ?_
 intro p e s m below meth c s₁ Bd hZ hh hx hby hml hown hnm X0 e0 pre0
 have N0 := Fr.nil n0
 obtain ⟨T1, X1, e1, st1⟩ := initO X0 hx hZ hown (w16_ hw) (w17_ hw) (w18_ hw) e0 (g := (mkF m 1 #[rv qa1, rv qa2, iv 0, iv 2, .val .null, .unset] [.ref qa1])) rfl hml.symm rfl (hb hby d2_1) (by decide) (W := 0) (own_hw rfl) (lE rfl)
 obtain ⟨T2, X2, e2, st2⟩ := getS2 X1 hx hZ hown (host := "") (Or.inl (w19_ hw)) Via.refl e1 (O2.ext X00.2) (g := (mkF m 27 #[rv qa1, rv qa2, iv 0, iv 2, .val .null, .unset] [])) rfl (hb hby d2_27)
 obtain ⟨_, T3, L3, X3, hQ3, st3⟩ := own_cS 2 6 [] 36 #[rv qa1, rv qa2, iv 0, iv 2, .val .null, .unset] X2 hx hZ hown (w20_ hw) (w21_ hw) (w22_ hw) (w23_ hw) (rm38 l Z a0 hw  qa2 qk3 qi4 qi5 h0 n0 X00 uS12 uS15 uS18 A_qa2 hc4 hr5 hr6) pd10 hml.symm (hb hby d2_36) e2 rfl rfl rfl rfl (by decide)
 obtain ⟨b7, c8_, rfl, N3q, K3q, w9, w10⟩ := hQ3
 have N3 := Fr.app N0 N3q
 have K11 := (Keep.refl h0 [qa1]).trans K3q (fun x q => nomatch q)
 have O13 := X00.keep K3q all0
 obtain ⟨_, T12, L12, X12, hQ12, st12⟩ := own_cS 2 6 [.ref qa1] 45 #[rv qa1, rv qa2, iv 0, iv 2, .val .null, rv b7] X3 hx hZ hown (w28_ hw) (w29_ hw) (w22_ hw) (w30_ hw) (rm39 l Z a0 hw  b7 c8_ ((((qi4 >>> ((0 : Int32) &&& 31)))).toInt8.toInt32) ((((qi4 >>> ((8 : Int32) &&& 31)))).toInt8.toInt32) ((((qi5 >>> ((0 : Int32) &&& 31)))).toInt8.toInt32) ((((qi5 >>> ((8 : Int32) &&& 31)))).toInt8.toInt32) T3.heap n0 O13 w10) pd12 hml.symm (hb hby d2_45) rfl rfl rfl rfl rfl (by decide)
 obtain ⟨rfl, N12q, e12q⟩ := hQ12
 have N12 := Fr.app N3 N12q
 have F14_ := F_qa1_coder.keep K3q nin0
 have E15_ := E_qa1.keep K3q
 obtain ⟨T16, h16, X16, e16, W16, st16⟩ := putF X12 hx hZ hown (host := "") (Or.inl (w31_ hw)) Via.refl e12q F14_ E15_ (Or.inr ⟨(w32_ hw), rfl, hnm⟩) (w2_ hw) (ty := .byte) (by decide) rfl rfl (g := (mkF m 48 #[rv qa1, rv qa2, iv 0, iv 2, .val .null, rv b7] [.int 1, .ref qa1])) rfl rfl (hb hby d2_48)
 have N16 := Fr.snoc X16 N12 g_qa1
 have K17 := K11.wr W16 (Or.inl (mI 0 rfl))
 have F18_ : Fld Z h16 qa1 "java/lang/String" "coder" "B" (.int 1) := F14_.same W16
 have F19_ := F_qa1_value.keep K3q nin0
 have F20_ := F19_.other W16 (Or.inr (slot_ne (Or.inr (w34_ hw)) (Or.inr (w32_ hw)) (by decide) (t := (.array .byte)) (t' := .byte) (by decide) (by decide)))
 have E21_ := E15_.wr W16
 obtain ⟨T22, h22, X22, e22, W22, st22⟩ := putF X16 hx hZ hown (host := "") (Or.inl (w33_ hw)) Via.refl e16 F20_ E21_ (Or.inr ⟨(w34_ hw), rfl, hnm⟩) (w2_ hw) (ty := (.array .byte)) (by decide) rfl rfl (g := (mkF m 54 #[rv qa1, rv qa2, iv 0, iv 2, .val .null, rv b7] [.ref b7, .ref qa1])) rfl rfl (hb hby d2_54)
 have N22 := Fr.snoc X22 N16 g_qa1
 have K23 := K17.wr W22 (Or.inl (mI 0 rfl))
 have F24_ : Fld Z h22 qa1 "java/lang/String" "value" "[B" (.ref b7) := F20_.same W22
 have sz_b7 : h0.size ≤ b7 := w9
 have E25_ := E21_.wr W22
 have F26_ := F18_.other W22 (Or.inr (slot_ne (Or.inr (w32_ hw)) (Or.inr (w34_ hw)) (by decide) (t := .byte) (t' := (.array .byte)) (by decide) (by decide)))
 have A27_ := w10.other W16 (Ne.symm (Nat.ne_of_lt (Nat.lt_of_lt_of_le E_qa1.lt w9)))
 have A28_ := A27_.other W22 (Ne.symm (Nat.ne_of_lt (Nat.lt_of_lt_of_le E_qa1.lt w9)))
 refine own_lvN X22 Bd e22 ⟨b7, c8_, rfl, N22, K23, sz_b7, E25_, F26_, F24_, A28_⟩ rfl (fun fs hr => pre0 _ (by
  show Sx p e below s₁ m 0 #[rv qa1, rv qa2, iv 0, iv 2, .val .null, .unset] [] _
  refine zb X0 Bd d2_0 rfl rfl ?_
  refine st1 _ ?_
  refine zj X1 Bd d2_4 rfl ?_
  refine zp (pc' := 27) X1 Bd d2_5 (XT.i0_ne_t ((by decide) : ¬ ((2 : Int32) = (0 : Int32)))) rfl ?_
  refine st2 _ ?_
  refine zo X2 Bd d2_30 (XT.i0_eq_f (P5 : ¬ (G1 = (0 : Int32)))) ?_
  refine zb X2 Bd d2_33 rfl rfl ?_
  refine zj X2 Bd d2_34 rfl ?_
  refine zj X2 Bd d2_35 rfl ?_
  refine st3 _ ?_
  refine XS.astore X3.here hx rfl (hb hby d2_39) rfl rfl (l' := #[rv qa1, rv qa2, iv 0, iv 2, .val .null, rv b7]) rfl ?_
  refine zb X3 Bd d2_41 rfl rfl ?_
  refine za X3 Bd d2_42 rfl rfl ?_
  refine zj X3 Bd d2_44 rfl ?_
  refine st12 _ ?_
  refine st16 _ ?_
  refine zb X16 Bd d2_51 rfl rfl ?_
  refine za X16 Bd d2_52 rfl rfl ?_
  refine st22 _ ?_
  exact X22.returnOut hx Bd.returns (hb hby d2_57) hr))
-- java/lang/String.<init>([C)V
def Q41 (Z : State) (qa1 : Addr) (qi4 : Int32) (qi5 : Int32) (h0 : Heap) (n0 : Nat) (v : Option Value) (h : Heap) (L : List Loc) : Prop := ∃ b6 : Addr, ∃ c7_ : ClassId, v = none ∧ Fr n0 L ∧ Keep h0 h [qa1] ∧ h0.size ≤ b6 ∧ Exa Z h qa1 "java/lang/String" ∧ Fld Z h qa1 "java/lang/String" "coder" "B" (.int 1) ∧ Fld Z h qa1 "java/lang/String" "value" "[B" (.ref b6) ∧ Arv Z h b6 c7_ .byte (4 : Int32) [(.int ((((qi4 >>> ((0 : Int32) &&& 31)))).toInt8.toInt32)), (.int ((((qi4 >>> ((8 : Int32) &&& 31)))).toInt8.toInt32)), (.int ((((qi5 >>> ((0 : Int32) &&& 31)))).toInt8.toInt32)), (.int ((((qi5 >>> ((8 : Int32) &&& 31)))).toInt8.toInt32))] (.int 0)
theorem rm41 (l : Launch) (Z : State) (a0 : Array Value) (hw : HW a0 Z) (G1 : Int32) (qa1 : Addr) (qa2 : Addr) (qk3 : ClassId) (qi4 : Int32) (qi5 : Int32) (h0 : Heap) (n0 : Nat) (X00 : Old Z n0 h0) (O2 : Sta Z Z.heap "java/lang/String" "COMPACT_STRINGS" "Z" (.int G1)) (P5 : ¬ (G1 = (0 : Int32))) (uS12 : Sta Z Z.heap "java/lang/StringUTF16" "$assertionsDisabled" "Z" (.int 1)) (uS15 : Sta Z Z.heap "java/lang/StringUTF16" "HI_BYTE_SHIFT" "I" (.int 0)) (uS18 : Sta Z Z.heap "java/lang/StringUTF16" "LO_BYTE_SHIFT" "I" (.int 8)) (A_qa2 : Arv Z h0 qa2 qk3 .char (2 : Int32) [.int qi4, .int qi5] (.int 0)) (hc3 : (255 : Int32) < (own_max ([qi4, qi5] : List Int32))) (hr4 : nar .char qi4 = qi4) (hr5 : nar .char qi5 = qi5) (E_qa1 : Exa Z h0 qa1 "java/lang/String") (F_qa1_coder : Fld Z h0 qa1 "java/lang/String" "coder" "B" (.int 0)) (g_qa1 : n0 ≤ qa1) (F_qa1_value : Fld Z h0 qa1 "java/lang/String" "value" "[B" .null) :
    MF l Z Y2_ jdk_42_method_3_code 2 none (Rm 5 2 6 74) #[.ref qa1, .ref qa2] h0 (Q41 Z qa1 qi4 qi5 h0 n0) := by
 refine own_sF pn1 rfl (fun m => ef2 m qa1 qa2) ?_
 intro p e s m below meth c s₁ Bd hZ hh hx hby hml hown hnm X0 e0 pre0
 have N0 := Fr.nil n0
 have av1 := A_qa2
 obtain ⟨cl1, Ar1, q1, S1, N1, H1, Gf1⟩ := av1
 obtain ⟨_, T2, L2, X2, hQ2, st2⟩ := own_cI 2 6 [] 6 #[rv qa1, rv qa2] X0 hx hZ hown (w12_ hw) (w13_ hw) (w3_ hw) (w15_ hw) (rm40 l Z a0 hw G1 qa1 qa2 qk3 qi4 qi5 h0 n0 X00 O2 P5 uS12 uS15 uS18 A_qa2 hc3 hr4 hr5 E_qa1 F_qa1_coder g_qa1 F_qa1_value) pd1 hml.symm (hb hby d1_6) e0 rfl rfl rfl rfl rfl (by decide)
 obtain ⟨b6, c7_, rfl, N2q, K2q, w8, w9, w10, w11, w12⟩ := hQ2
 have N2 := Fr.app N0 N2q
 have K13 := (Keep.refl h0 [qa1]).trans K2q (allS (Or.inl (mI 0 rfl)) all0)
 have sz_b6 : h0.size ≤ b6 := w8
 have E14_ := E_qa1.keep K2q
 refine own_lvN X2 Bd rfl ⟨b6, c7_, rfl, N2, K13, sz_b6, E14_, w10, w11, w12⟩ rfl (fun fs hr => pre0 _ (by
  show Sx p e below s₁ m 0 #[rv qa1, rv qa2] [] _
  refine zb X0 Bd d1_0 rfl rfl ?_
  refine zb X0 Bd d1_1 rfl rfl ?_
  refine zc X0 Bd d1_2 ?_
  refine zb X0 Bd d1_3 rfl rfl ?_
  refine X0.arraylength hx (by rw [e0]; exact Ar1.1) (State.isArrayOf_alike hZ.alike Ar1.2.1) (g := (mkF m 4 #[rv qa1, rv qa2] [.ref qa2, .int 0, .ref qa2, .ref qa1])) rfl rfl (hb hby d1_4) _ ?_
  rw [len_of S1 N1]
  refine XS.aconstNull X0.here hx rfl (hb hby d1_5) ?_
  refine st2 _ ?_
  exact X2.returnOut hx Bd.returns (hb hby d1_9) hr))
-- java/lang/StringUTF16.length([B)I
def Q42 (Z : State)  (h0 : Heap) (n0 : Nat) (v : Option Value) (h : Heap) (L : List Loc) : Prop := v = some (.int 2) ∧ Fr n0 L ∧ h = h0
theorem rm42 (l : Launch) (Z : State) (a0 : Array Value) (hw : HW a0 Z) (qa1 : Addr) (qk2 : ClassId) (qi3 : Int32) (qi4 : Int32) (qi5 : Int32) (qi6 : Int32) (h0 : Heap) (n0 : Nat) (X00 : Old Z n0 h0) (A_qa1 : Arv Z h0 qa1 qk2 .byte (4 : Int32) [.int qi3, .int qi4, .int qi5, .int qi6] (.int 0)) :
    MF l Z Y15_ jdk_52_method_6_code 1 (some .int) (Rm 0 0 0 0) #[.ref qa1] h0 (Q42 Z  h0 n0) := by
 refine own_sF pn3 rfl (fun m => ef11 m qa1) ?_
 intro p e s m below meth c s₁ Bd hZ hh hx hby hml hown hnm X0 e0 pre0
 have N0 := Fr.nil n0
 have av1 := A_qa1
 obtain ⟨cl1, Ar1, q1, S1, N1, H1, Gf1⟩ := av1
 refine own_lvF X0 Bd (.int 2) e0 ⟨rfl, N0, rfl⟩ rfl (fun fs hr => pre0 _ (by
  show Sx p e below s₁ m 0 #[rv qa1] [] _
  refine zb X0 Bd d17_0 rfl rfl ?_
  refine X0.arraylength hx (by rw [e0]; exact Ar1.1) (State.isArrayOf_alike hZ.alike Ar1.2.1) (g := (mkF m 1 #[rv qa1] [.ref qa1])) rfl rfl (hb hby d17_1) _ ?_
  rw [len_of S1 N1]
  refine zc X0 Bd d17_2 ?_
  refine XS.ishr X0.here hx rfl (hb hby d17_3) rfl ?_
  exact retI X0 hx Bd.returns (hb hby d17_4) hr))
-- jdk/internal/util/Preconditions.checkIndex(IILjava/util/function/BiFunction;)I
def Q43 (Z : State) (qi1 : Int32) (h0 : Heap) (n0 : Nat) (v : Option Value) (h : Heap) (L : List Loc) : Prop := v = some (.int qi1) ∧ Fr n0 L ∧ h = h0
theorem rm43 (l : Launch) (Z : State) (a0 : Array Value) (hw : HW a0 Z) (G3 : Value) (qi1 : Int32) (h0 : Heap) (n0 : Nat) (X00 : Old Z n0 h0) (O4 : Sta Z Z.heap "jdk/internal/util/Preconditions" "SIOOBE_FORMATTER" "Ljava/util/function/BiFunction;" G3) (rG3 : G3.isRef = true) (hc1 : ¬ (qi1 < (0 : Int32))) (hc2 : qi1 < (2 : Int32)) :
    MF l Z Y16_ jdk_41_method_11_code 3 (some .int) (Rm 0 0 0 0) #[.int qi1, .int 2, G3] h0 (Q43 Z qi1 h0 n0) := by
 refine own_sF pn4 rfl (fun m => ef14 m qi1 (2 : Int32) G3 rG3) ?_
 intro p e s m below meth c s₁ Bd hZ hh hx hby hml hown hnm X0 e0 pre0
 have N0 := Fr.nil n0
 refine own_lvF X0 Bd (.int qi1) e0 ⟨rfl, N0, rfl⟩ rfl (fun fs hr => pre0 _ (by
  show Sx p e below s₁ m 0 #[iv qi1, iv 2, .val G3] [] _
  refine zj X0 Bd d19_0 rfl ?_
  refine zo X0 Bd d19_1 (XT.i0_lt_f (hc1 : ¬ (qi1 < (0 : Int32)))) ?_
  refine zj X0 Bd d19_4 rfl ?_
  refine zj X0 Bd d19_5 rfl ?_
  refine zy (pc' := 16) X0 Bd d19_6 (XT.ii_lt_t (hc2 : qi1 < (2 : Int32))) rfl ?_
  refine zj X0 Bd d19_16 rfl ?_
  exact retI X0 hx Bd.returns (hb hby d19_17) hr))
-- java/lang/String.checkIndex(II)V
def Q44 (Z : State)  (h0 : Heap) (n0 : Nat) (v : Option Value) (h : Heap) (L : List Loc) : Prop := v = none ∧ Fr n0 L ∧ h = h0
theorem rm44 (l : Launch) (Z : State) (a0 : Array Value) (hw : HW a0 Z) (G3 : Value) (qi1 : Int32) (h0 : Heap) (n0 : Nat) (X00 : Old Z n0 h0) (O4 : Sta Z Z.heap "jdk/internal/util/Preconditions" "SIOOBE_FORMATTER" "Ljava/util/function/BiFunction;" G3) (rG3 : G3.isRef = true) (hc3 : ¬ (qi1 < (0 : Int32))) (hc4 : qi1 < (2 : Int32)) :
    MF l Z Y17_ jdk_42_method_155_code 2 none (Rm 1 0 0 14) #[.int qi1, .int 2] h0 (Q44 Z  h0 n0) := by
 refine own_sF pn1 rfl (fun m => ef13 m qi1 (2 : Int32)) ?_
 intro p e s m below meth c s₁ Bd hZ hh hx hby hml hown hnm X0 e0 pre0
 have N0 := Fr.nil n0
 obtain ⟨T1, X1, e1, st1⟩ := getS2 X0 hx hZ hown (host := "") (Or.inl (w87_ hw)) Via.refl e0 (O4.ext X00.2) (g := (mkF m 2 #[iv qi1, iv 2] [.int 2, .int qi1])) rfl (hb hby d18_2)
 obtain ⟨_, T2, L2, X2, hQ2, st2⟩ := own_cS 0 0 [] 5 #[iv qi1, iv 2] X1 hx hZ hown (w89_ hw) (w90_ hw) (w88_ hw) (w91_ hw) (rm43 l Z a0 hw G3 qi1 h0 n0 X00 O4 rG3 hc3 hc4) pd15 hml.symm (hb hby d18_5) e1 rfl rfl rfl rfl (by decide)
 obtain ⟨rfl, N2q, e2q⟩ := hQ2
 have N2 := Fr.app N0 N2q
 refine own_lvN X2 Bd e2q ⟨rfl, N2, rfl⟩ rfl (fun fs hr => pre0 _ (by
  show Sx p e below s₁ m 0 #[iv qi1, iv 2] [] _
  refine zj X0 Bd d18_0 rfl ?_
  refine zj X0 Bd d18_1 rfl ?_
  refine st1 _ ?_
  refine st2 _ ?_
  refine XS.pop X2.here hx rfl (hb hby d18_8) rfl rfl ?_
  exact X2.returnOut hx Bd.returns (hb hby d18_9) hr))
-- java/lang/StringUTF16.checkIndex(I[B)V
def Q45 (Z : State)  (h0 : Heap) (n0 : Nat) (v : Option Value) (h : Heap) (L : List Loc) : Prop := v = none ∧ Fr n0 L ∧ h = h0
theorem rm45 (l : Launch) (Z : State) (a0 : Array Value) (hw : HW a0 Z) (G3 : Value) (qi1 : Int32) (qa2 : Addr) (qk3 : ClassId) (qi4 : Int32) (qi5 : Int32) (qi6 : Int32) (qi7 : Int32) (h0 : Heap) (n0 : Nat) (X00 : Old Z n0 h0) (O4 : Sta Z Z.heap "jdk/internal/util/Preconditions" "SIOOBE_FORMATTER" "Ljava/util/function/BiFunction;" G3) (rG3 : G3.isRef = true) (A_qa2 : Arv Z h0 qa2 qk3 .byte (4 : Int32) [.int qi4, .int qi5, .int qi6, .int qi7] (.int 0)) (hc3 : ¬ (qi1 < (0 : Int32))) (hc4 : qi1 < (2 : Int32)) :
    MF l Z Y18_ jdk_52_method_91_code 2 none (Rm 2 0 0 27) #[.int qi1, .ref qa2] h0 (Q45 Z  h0 n0) := by
 refine own_sF pn3 rfl (fun m => ef12 m qi1 qa2) ?_
 intro p e s m below meth c s₁ Bd hZ hh hx hby hml hown hnm X0 e0 pre0
 have N0 := Fr.nil n0
 obtain ⟨_, T1, L1, X1, hQ1, st1⟩ := own_cS 0 0 [.int qi1] 2 #[iv qi1, rv qa2] X0 hx hZ hown (w81_ hw) (w82_ hw) (w22_ hw) (w83_ hw) (rm42 l Z a0 hw  qa2 qk3 qi4 qi5 qi6 qi7 h0 n0 X00 A_qa2) pd14 hml.symm (hb hby d16_2) e0 rfl rfl rfl rfl (by decide)
 obtain ⟨rfl, N1q, e1q⟩ := hQ1
 have N1 := Fr.app N0 N1q
 obtain ⟨_, T2, L2, X2, hQ2, st2⟩ := own_cS 0 0 [] 5 #[iv qi1, rv qa2] X1 hx hZ hown (w84_ hw) (w85_ hw) (w3_ hw) (w86_ hw) (rm44 l Z a0 hw G3 qi1 h0 n0 X00 O4 rG3 hc3 hc4) pd16 hml.symm (hb hby d16_5) e1q rfl rfl rfl rfl (by decide)
 obtain ⟨rfl, N2q, e2q⟩ := hQ2
 have N2 := Fr.app N1 N2q
 refine own_lvN X2 Bd e2q ⟨rfl, N2, rfl⟩ rfl (fun fs hr => pre0 _ (by
  show Sx p e below s₁ m 0 #[iv qi1, rv qa2] [] _
  refine zj X0 Bd d16_0 rfl ?_
  refine zb X0 Bd d16_1 rfl rfl ?_
  refine st1 _ ?_
  refine st2 _ ?_
  exact X2.returnOut hx Bd.returns (hb hby d16_8) hr))
-- java/lang/StringUTF16.charAt([BI)C
def Q46 (Z : State) (qi2 : Int32) (qi4 : Int32) (qi5 : Int32) (qi6 : Int32) (qi7 : Int32) (h0 : Heap) (n0 : Nat) (v : Option Value) (h : Heap) (L : List Loc) : Prop := v = some (.int (((((((own_at ([qi4, qi5, qi6, qi7] : List Int32) ((qi2 <<< ((1 : Int32) &&& 31)))) &&& (255 : Int32)) <<< ((0 : Int32) &&& 31))) ||| ((((own_at ([qi4, qi5, qi6, qi7] : List Int32) (((qi2 <<< ((1 : Int32) &&& 31))) + (1 : Int32))) &&& (255 : Int32)) <<< ((8 : Int32) &&& 31))))).toUInt32.toUInt16.toUInt32.toInt32)) ∧ Fr n0 L ∧ h = h0
theorem rm46 (l : Launch) (Z : State) (a0 : Array Value) (hw : HW a0 Z) (G3 : Value) (qa1 : Addr) (qi2 : Int32) (qk3 : ClassId) (qi4 : Int32) (qi5 : Int32) (qi6 : Int32) (qi7 : Int32) (h0 : Heap) (n0 : Nat) (X00 : Old Z n0 h0) (O4 : Sta Z Z.heap "jdk/internal/util/Preconditions" "SIOOBE_FORMATTER" "Ljava/util/function/BiFunction;" G3) (rG3 : G3.isRef = true) (uS12 : Sta Z Z.heap "java/lang/StringUTF16" "$assertionsDisabled" "Z" (.int 1)) (uS15 : Sta Z Z.heap "java/lang/StringUTF16" "HI_BYTE_SHIFT" "I" (.int 0)) (uS18 : Sta Z Z.heap "java/lang/StringUTF16" "LO_BYTE_SHIFT" "I" (.int 8)) (A_qa1 : Arv Z h0 qa1 qk3 .byte (4 : Int32) [.int qi4, .int qi5, .int qi6, .int qi7] (.int 0)) (hc2 : ¬ (qi2 < (0 : Int32))) (hc3 : qi2 < (2 : Int32)) :
    MF l Z Y19_ jdk_52_method_83_code 2 (some .char) (Rm 3 0 0 40) #[.ref qa1, .int qi2] h0 (Q46 Z qi2 qi4 qi5 qi6 qi7 h0 n0) := by
 refine own_sF pn3 rfl (fun m => ef10 m qa1 qi2) ?_
 intro p e s m below meth c s₁ Bd hZ hh hx hby hml hown hnm X0 e0 pre0
 have N0 := Fr.nil n0
 obtain ⟨_, T1, L1, X1, hQ1, st1⟩ := own_cS 0 0 [] 2 #[rv qa1, iv qi2] X0 hx hZ hown (w78_ hw) (w79_ hw) (w22_ hw) (w80_ hw) (rm45 l Z a0 hw G3 qi2 qa1 qk3 qi4 qi5 qi6 qi7 h0 n0 X00 O4 rG3 A_qa1 hc2 hc3) pd17 hml.symm (hb hby d15_2) e0 rfl rfl rfl rfl (by decide)
 obtain ⟨rfl, N1q, e1q⟩ := hQ1
 have N1 := Fr.app N0 N1q
 obtain ⟨_, T4, L4, X4, hQ4, st4⟩ := own_cS 0 0 [] 7 #[rv qa1, iv qi2] X1 hx hZ hown (w58_ hw) (w59_ hw) (w22_ hw) (w60_ hw) (rm36 l Z a0 hw  qa1 qi2 qk3 qi4 qi5 qi6 qi7 h0 n0 X00 uS12 uS15 uS18 A_qa1 hc2 hc3) pd11 hml.symm (hb hby d15_7) e1q rfl rfl rfl rfl (by decide)
 obtain ⟨rfl, N4q, e4q⟩ := hQ4
 have N4 := Fr.app N1 N4q
 refine own_lvF X4 Bd (.int (nar .char (((((((own_at ([qi4, qi5, qi6, qi7] : List Int32) ((qi2 <<< ((1 : Int32) &&& 31)))) &&& (255 : Int32)) <<< ((0 : Int32) &&& 31))) ||| ((((own_at ([qi4, qi5, qi6, qi7] : List Int32) (((qi2 <<< ((1 : Int32) &&& 31))) + (1 : Int32))) &&& (255 : Int32)) <<< ((8 : Int32) &&& 31))))).toUInt32.toUInt16.toUInt32.toInt32))) e4q ⟨(congrArg (fun z => some (Value.int z)) (own_nar_i2c _)), N4, rfl⟩ rfl (fun fs hr => pre0 _ (by
  show Sx p e below s₁ m 0 #[rv qa1, iv qi2] [] _
  refine zj X0 Bd d15_0 rfl ?_
  refine zb X0 Bd d15_1 rfl rfl ?_
  refine st1 _ ?_
  refine zb X1 Bd d15_5 rfl rfl ?_
  refine zj X1 Bd d15_6 rfl ?_
  refine st4 _ ?_
  exact retN X4 hx (t := .char) Bd.returns (by simp) (hb hby d15_10) hr))
-- java/lang/String.charAt(I)C
def Q47 (Z : State) (qi2 : Int32) (qi5 : Int32) (qi6 : Int32) (qi7 : Int32) (qi8 : Int32) (h0 : Heap) (n0 : Nat) (v : Option Value) (h : Heap) (L : List Loc) : Prop := v = some (.int (own_at (own_L2 qi5 qi6 qi7 qi8) qi2)) ∧ Fr n0 L ∧ h = h0
theorem rm47 (l : Launch) (Z : State) (a0 : Array Value) (hw : HW a0 Z) (G1 : Int32) (G3 : Value) (qa1 : Addr) (qi2 : Int32) (qa3 : Addr) (qk4 : ClassId) (qi5 : Int32) (qi6 : Int32) (qi7 : Int32) (qi8 : Int32) (h0 : Heap) (n0 : Nat) (X00 : Old Z n0 h0) (O2 : Sta Z Z.heap "java/lang/String" "COMPACT_STRINGS" "Z" (.int G1)) (P5 : ¬ (G1 = (0 : Int32))) (O4 : Sta Z Z.heap "jdk/internal/util/Preconditions" "SIOOBE_FORMATTER" "Ljava/util/function/BiFunction;" G3) (rG3 : G3.isRef = true) (uS12 : Sta Z Z.heap "java/lang/StringUTF16" "$assertionsDisabled" "Z" (.int 1)) (uS15 : Sta Z Z.heap "java/lang/StringUTF16" "HI_BYTE_SHIFT" "I" (.int 0)) (uS18 : Sta Z Z.heap "java/lang/StringUTF16" "LO_BYTE_SHIFT" "I" (.int 8)) (F_qa1_value : Fld Z h0 qa1 "java/lang/String" "value" "[B" (.ref qa3)) (F_qa1_coder : Fld Z h0 qa1 "java/lang/String" "coder" "B" (.int 1)) (A_qa3 : Arv Z h0 qa3 qk4 .byte (4 : Int32) [.int qi5, .int qi6, .int qi7, .int qi8] (.int 0)) (hj0 : ¬ qi2 < 0) (hjk : qi2 < (2 : Int32)) (E_qa1 : Exa Z h0 qa1 "java/lang/String") :
    MF l Z Y5_ jdk_42_method_56_code 2 (some .char) (Rm 4 0 0 53) #[.ref qa1, .int qi2] h0 (Q47 Z qi2 qi5 qi6 qi7 qi8 h0 n0) := by
 refine own_sF pn1 rfl (fun m => ef10 m qa1 qi2) ?_
 intro p e s m below meth c s₁ Bd hZ hh hx hby hml hown hnm X0 e0 pre0
 have N0 := Fr.nil n0
 obtain ⟨_, T1, L1, X1, hQ1, st1⟩ := own_cV 0 0 [] 1 #[rv qa1, iv qi2] X0 hx hZ hown E_qa1 (w70_ hw) (w71_ hw) (notFace_of_selects (args := #[]) (mvT hZ (w73_ hw))) (w73_ hw) (w72_ hw) (w3_ hw) (w74_ hw) (rm21 l Z a0 hw G1 qa1 h0 n0 X00 O2 P5 F_qa1_coder) pd13 hml.symm (hb hby d13_1) e0 rfl rfl rfl rfl (by decide)
 obtain ⟨rfl, N1q, e1q⟩ := hQ1
 have N1 := Fr.app N0 N1q
 obtain ⟨T2, X2, e2, st2⟩ := getF X1 hx hZ hown (host := "") (Or.inl (w33_ hw)) Via.refl e1q F_qa1_value (g := (mkF m 17 #[rv qa1, iv qi2] [.ref qa1])) rfl rfl (hb hby d13_17)
 obtain ⟨_, T3, L3, X3, hQ3, st3⟩ := own_cS 0 0 [] 21 #[rv qa1, iv qi2] X2 hx hZ hown (w75_ hw) (w76_ hw) (w22_ hw) (w77_ hw) (rm46 l Z a0 hw G3 qa3 qi2 qk4 qi5 qi6 qi7 qi8 h0 n0 X00 O4 rG3 uS12 uS15 uS18 A_qa3 hj0 hjk) pd11 hml.symm (hb hby d13_21) e2 rfl rfl rfl rfl (by decide)
 obtain ⟨rfl, N3q, e3q⟩ := hQ3
 have N3 := Fr.app N1 N3q
 refine own_lvF X3 Bd (.int (nar .char (((((((own_at ([qi5, qi6, qi7, qi8] : List Int32) ((qi2 <<< ((1 : Int32) &&& 31)))) &&& (255 : Int32)) <<< ((0 : Int32) &&& 31))) ||| ((((own_at ([qi5, qi6, qi7, qi8] : List Int32) (((qi2 <<< ((1 : Int32) &&& 31))) + (1 : Int32))) &&& (255 : Int32)) <<< ((8 : Int32) &&& 31))))).toUInt32.toUInt16.toUInt32.toInt32))) e3q ⟨(congrArg (fun z => some (Value.int z)) ((own_nar_i2c _).trans (own_cat2 qi5 qi6 qi7 qi8 qi2 hj0 hjk))), N3, rfl⟩ rfl (fun fs hr => pre0 _ (by
  show Sx p e below s₁ m 0 #[rv qa1, iv qi2] [] _
  refine zb X0 Bd d13_0 rfl rfl ?_
  refine st1 _ ?_
  refine zp (pc' := 16) X1 Bd d13_4 (XT.i0_eq_t ((by decide) : (0 : Int32) = (0 : Int32))) rfl ?_
  refine zb X1 Bd d13_16 rfl rfl ?_
  refine st2 _ ?_
  refine zj X2 Bd d13_20 rfl ?_
  refine st3 _ ?_
  exact retN X3 hx (t := .char) Bd.returns (by simp) (hb hby d13_24) hr))
-- com/example/backstop/backstop/WholeNumbers.isDigits(Ljava/lang/String;II)Z
def Q48 (Z : State) (qi2 : Int32) (qi3 : Int32) (qi6 : Int32) (qi7 : Int32) (qi8 : Int32) (qi9 : Int32) (h0 : Heap) (n0 : Nat) (v : Option Value) (h : Heap) (L : List Loc) : Prop := v = some (.int (own_isd (own_L2 qi6 qi7 qi8 qi9) qi2 qi3)) ∧ Fr n0 L ∧ h = h0
theorem rm48 (l : Launch) (Z : State) (a0 : Array Value) (hw : HW a0 Z) (G1 : Int32) (G3 : Value) (qa1 : Addr) (qi2 : Int32) (qi3 : Int32) (qa4 : Addr) (qk5 : ClassId) (qi6 : Int32) (qi7 : Int32) (qi8 : Int32) (qi9 : Int32) (h0 : Heap) (n0 : Nat) (X00 : Old Z n0 h0) (O2 : Sta Z Z.heap "java/lang/String" "COMPACT_STRINGS" "Z" (.int G1)) (P5 : ¬ (G1 = (0 : Int32))) (O4 : Sta Z Z.heap "jdk/internal/util/Preconditions" "SIOOBE_FORMATTER" "Ljava/util/function/BiFunction;" G3) (rG3 : G3.isRef = true) (uS12 : Sta Z Z.heap "java/lang/StringUTF16" "$assertionsDisabled" "Z" (.int 1)) (uS15 : Sta Z Z.heap "java/lang/StringUTF16" "HI_BYTE_SHIFT" "I" (.int 0)) (uS18 : Sta Z Z.heap "java/lang/StringUTF16" "LO_BYTE_SHIFT" "I" (.int 8)) (F_qa1_value : Fld Z h0 qa1 "java/lang/String" "value" "[B" (.ref qa4)) (F_qa1_coder : Fld Z h0 qa1 "java/lang/String" "coder" "B" (.int 1)) (A_qa4 : Arv Z h0 qa4 qk5 .byte (4 : Int32) [.int qi6, .int qi7, .int qi8, .int qi9] (.int 0)) (hs0 : ¬ qi2 < 0) (he0 : ¬ (2 : Int32) < qi3) (E_qa1 : Exa Z h0 qa1 "java/lang/String") :
    MF l Z Y4_ prog_50_method_3_code 5 (some .boolean) (Rm 5 0 0 66) #[.ref qa1, .int qi2, .int qi3] h0 (Q48 Z qi2 qi3 qi6 qi7 qi8 qi9 h0 n0) := by
 refine own_sF pn2 rfl (fun m => ef5 m qa1 qi2 qi3) ?_
 intro p e s m below meth c s₁ Bd hZ hh hx hby hml hown hnm X0 e0 pre0
 have N0 := Fr.nil n0
 have pr1 : Pr p e below s₁ m 2 #[rv qa1, iv qi2, iv qi3, .unset, .unset] [.int qi3, .int qi2] s₁ (entryFrame m #[.ref qa1, .int qi2, .int qi3] 5) := fun t k => pre0 t (by
  show Sx p e below s₁ m 0 #[rv qa1, iv qi2, iv qi3, .unset, .unset] [] _
  refine zj X0 Bd d4_0 rfl ?_
  refine zj X0 Bd d4_1 rfl ?_
  exact k)
 by_cases hc2 : qi2 < qi3
 ·
  skip
  have pr3 : Pr p e below s₁ m 9 #[rv qa1, iv qi2, iv qi3, iv qi2, .unset] [] s₁ (entryFrame m #[.ref qa1, .int qi2, .int qi3] 5) := fun t k => pr1 t (by
   show Sx p e below s₁ m 2 #[rv qa1, iv qi2, iv qi3, .unset, .unset] [.int qi3, .int qi2] _
   refine zy (pc' := 7) X0 Bd d4_2 (XT.ii_lt_t (hc2 : qi2 < qi3)) rfl ?_
   refine zj X0 Bd d4_7 rfl ?_
   refine zt X0 Bd d4_8 (l' := #[rv qa1, iv qi2, iv qi3, iv qi2, .unset]) rfl ?_
   exact k)
  refine own_loop1 (fun i_ => (qi3.toInt - i_.toInt).toNat) (fun T4 L4 i_ => ∃ sl4_4 : Slot, Stand p l e (Rm 5 0 0 66) s m #[.ref qa1, .int qi2, .int qi3] below meth c T4 L4 0 0 ∧ T4.heap = h0 ∧ Fr n0 L4 ∧ (¬ i_ < 0) ∧ ((own_digI (own_L2 qi6 qi7 qi8 qi9) qi2 qi3) = own_digI (own_L2 qi6 qi7 qi8 qi9) i_ qi3) ∧ (sl4_4 = .unset ∨ ∃ w, sl4_4 = .val w ∧ w.category = 1) ∧ Pr p e below T4 m 9 #[rv qa1, iv qi2, iv qi3, iv i_, sl4_4] [] s₁ (entryFrame m #[.ref qa1, .int qi2, .int qi3] 5)) ?_ s₁ _ qi2 ⟨.unset, X0, e0, N0, hs0, rfl, (Or.inl rfl), (fun t k => pr3 t k)⟩
  intro T4 L4 i_ hI4 ih4
  obtain ⟨sl4_4, X4, e4, N4, hq4_0, hq4_1, one4_4, pr4⟩ := hI4
  have pr5 : Pr p e below T4 m 11 #[rv qa1, iv qi2, iv qi3, iv i_, sl4_4] [.int qi3, .int i_] s₁ (entryFrame m #[.ref qa1, .int qi2, .int qi3] 5) := fun t k => pr4 t (by
   show Sx p e below T4 m 9 #[rv qa1, iv qi2, iv qi3, iv i_, sl4_4] [] _
   refine zj X4 Bd d4_9 rfl ?_
   refine zj X4 Bd d4_10 rfl ?_
   exact k)
  by_cases hc6 : i_ < qi3
  ·
   skip
   obtain ⟨_, T7, L7, X7, hQ7, st7⟩ := own_cV 0 0 [] 16 #[rv qa1, iv qi2, iv qi3, iv i_, sl4_4] X4 hx hZ hown E_qa1 (w65_ hw) (w66_ hw) (notFace_of_selects (args := #[]) (mvT hZ (w68_ hw))) (w68_ hw) (w67_ hw) (w3_ hw) (w69_ hw) (rm47 l Z a0 hw G1 G3 qa1 i_ qa4 qk5 qi6 qi7 qi8 qi9 h0 n0 X00 O2 P5 O4 rG3 uS12 uS15 uS18 F_qa1_value F_qa1_coder A_qa4 hq4_0 (own_iltk hc6 he0) E_qa1) pd4 hml.symm (hb hby d4_16) e4 rfl rfl rfl rfl (by decide)
   obtain ⟨rfl, N7q, e7q⟩ := hQ7
   have N7 := Fr.app N4 N7q
   have pr8 : Pr p e below T7 m 25 #[rv qa1, iv qi2, iv qi3, iv i_, iv (own_at (own_L2 qi6 qi7 qi8 qi9) i_)] [.int 48, (.int (own_at (own_L2 qi6 qi7 qi8 qi9) i_))] s₁ (entryFrame m #[.ref qa1, .int qi2, .int qi3] 5) := fun t k => pr5 t (by
    show Sx p e below T4 m 11 #[rv qa1, iv qi2, iv qi3, iv i_, sl4_4] [.int qi3, .int i_] _
    refine zn X4 Bd d4_11 (XT.ii_ge_f (hc6 : i_ < qi3)) ?_
    refine zb X4 Bd d4_14 rfl rfl ?_
    refine zj X4 Bd d4_15 rfl ?_
    refine st7 _ ?_
    refine XS.istoreS X7.here hx rfl (hb hby d4_19) rfl rfl one4_4 ?_
    refine zi X7 Bd d4_21 rfl ?_
    refine zd X7 Bd d4_23 ?_
    exact k)
   by_cases hc9 : (own_at (own_L2 qi6 qi7 qi8 qi9) i_) < (48 : Int32)
   ·
    skip
    refine own_lvF X7 Bd (.int 0) e7q ⟨(by rw [own_isd, if_pos hc2, hq4_1, own_dig0 hc6 hq4_0 (Or.inl hc9)]), N7, rfl⟩ rfl (fun fs hr => pr8 _ (by
     show Sx p e below T7 m 25 #[rv qa1, iv qi2, iv qi3, iv i_, iv (own_at (own_L2 qi6 qi7 qi8 qi9) i_)] [.int 48, (.int (own_at (own_L2 qi6 qi7 qi8 qi9) i_))] _
     refine zy (pc' := 35) X7 Bd d4_25 (XT.ii_lt_t (hc9 : (own_at (own_L2 qi6 qi7 qi8 qi9) i_) < (48 : Int32))) rfl ?_
     refine zc X7 Bd d4_35 ?_
     exact retN X7 hx (t := .boolean) Bd.returns (by simp) (hb hby d4_36) hr))
   ·
    skip
    have pr10 : Pr p e below T7 m 32 #[rv qa1, iv qi2, iv qi3, iv i_, iv (own_at (own_L2 qi6 qi7 qi8 qi9) i_)] [.int 57, (.int (own_at (own_L2 qi6 qi7 qi8 qi9) i_))] s₁ (entryFrame m #[.ref qa1, .int qi2, .int qi3] 5) := fun t k => pr8 t (by
     show Sx p e below T7 m 25 #[rv qa1, iv qi2, iv qi3, iv i_, iv (own_at (own_L2 qi6 qi7 qi8 qi9) i_)] [.int 48, (.int (own_at (own_L2 qi6 qi7 qi8 qi9) i_))] _
     refine zn X7 Bd d4_25 (XT.ii_lt_f (hc9 : ¬ ((own_at (own_L2 qi6 qi7 qi8 qi9) i_) < (48 : Int32)))) ?_
     refine zi X7 Bd d4_28 rfl ?_
     refine zd X7 Bd d4_30 ?_
     exact k)
    by_cases hc11 : (57 : Int32) < (own_at (own_L2 qi6 qi7 qi8 qi9) i_)
    ·
     skip
     refine own_lvF X7 Bd (.int 0) e7q ⟨(by rw [own_isd, if_pos hc2, hq4_1, own_dig0 hc6 hq4_0 (Or.inr hc11)]), N7, rfl⟩ rfl (fun fs hr => pr10 _ (by
      show Sx p e below T7 m 32 #[rv qa1, iv qi2, iv qi3, iv i_, iv (own_at (own_L2 qi6 qi7 qi8 qi9) i_)] [.int 57, (.int (own_at (own_L2 qi6 qi7 qi8 qi9) i_))] _
      refine zn X7 Bd d4_32 (XT.ii_le_f (hc11 : (57 : Int32) < (own_at (own_L2 qi6 qi7 qi8 qi9) i_))) ?_
      refine zc X7 Bd d4_35 ?_
      exact retN X7 hx (t := .boolean) Bd.returns (by simp) (hb hby d4_36) hr))
    ·
     skip
     have pr12 : Pr p e below T7 m 9 #[rv qa1, iv qi2, iv qi3, iv (i_ + (1 : Int32)), iv (own_at (own_L2 qi6 qi7 qi8 qi9) i_)] [] s₁ (entryFrame m #[.ref qa1, .int qi2, .int qi3] 5) := fun t k => pr10 t (by
      show Sx p e below T7 m 32 #[rv qa1, iv qi2, iv qi3, iv i_, iv (own_at (own_L2 qi6 qi7 qi8 qi9) i_)] [.int 57, (.int (own_at (own_L2 qi6 qi7 qi8 qi9) i_))] _
      refine zy (pc' := 37) X7 Bd d4_32 (XT.ii_le_t (hc11 : ¬ ((57 : Int32) < (own_at (own_L2 qi6 qi7 qi8 qi9) i_)))) rfl ?_
      refine XS.iinc X7.here hx rfl (hb hby d4_37) rfl (l' := #[rv qa1, iv qi2, iv qi3, iv (i_ + (1 : Int32)), iv (own_at (own_L2 qi6 qi7 qi8 qi9) i_)]) rfl ?_
      refine zg (pc' := 9) X7 Bd d4_40 rfl ?_
      exact k)
     exact ih4 T7 _ (i_ + (1 : Int32)) (own_decr hq4_0 hc6) ⟨iv (own_at (own_L2 qi6 qi7 qi8 qi9) i_), X7, e7q, N7, (own_inc0 hq4_0 hc6), (hq4_1.trans (own_digS hc6 hq4_0 hc9 hc11)), (Or.inr ⟨_, rfl, rfl⟩), (fun t k => pr12 t k)⟩
  ·
   skip
   refine own_lvF X4 Bd (.int 1) e4 ⟨(by rw [own_isd, if_pos hc2, hq4_1, own_dig1 hc6]), N4, rfl⟩ rfl (fun fs hr => pr5 _ (by
    show Sx p e below T4 m 11 #[rv qa1, iv qi2, iv qi3, iv i_, sl4_4] [.int qi3, .int i_] _
    refine zy (pc' := 43) X4 Bd d4_11 (XT.ii_ge_t (hc6 : ¬ (i_ < qi3))) rfl ?_
    refine zc X4 Bd d4_43 ?_
    exact retN X4 hx (t := .boolean) Bd.returns (by simp) (hb hby d4_44) hr))
 ·
  skip
  refine own_lvF X0 Bd (.int 0) e0 ⟨(by rw [own_isd, if_neg hc2]), N0, rfl⟩ rfl (fun fs hr => pr1 _ (by
   show Sx p e below s₁ m 2 #[rv qa1, iv qi2, iv qi3, .unset, .unset] [.int qi3, .int qi2] _
   refine zn X0 Bd d4_2 (XT.ii_lt_f (hc2 : ¬ (qi2 < qi3))) ?_
   refine zc X0 Bd d4_5 ?_
   exact retN X0 hx (t := .boolean) Bd.returns (by simp) (hb hby d4_6) hr))
-- com/example/backstop/backstop/WholeNumbers.isDigits(Ljava/lang/String;II)Z
def Q49 (Z : State) (qi2 : Int32) (qi3 : Int32) (qi6 : Int32) (qi7 : Int32) (h0 : Heap) (n0 : Nat) (v : Option Value) (h : Heap) (L : List Loc) : Prop := v = some (.int (own_isd ([qi6, qi7] : List Int32) qi2 qi3)) ∧ Fr n0 L ∧ h = h0
theorem rm49 (l : Launch) (Z : State) (a0 : Array Value) (hw : HW a0 Z) (G3 : Value) (G1 : Int32) (qa1 : Addr) (qi2 : Int32) (qi3 : Int32) (qa4 : Addr) (qk5 : ClassId) (qi6 : Int32) (qi7 : Int32) (h0 : Heap) (n0 : Nat) (X00 : Old Z n0 h0) (O4 : Sta Z Z.heap "jdk/internal/util/Preconditions" "SIOOBE_FORMATTER" "Ljava/util/function/BiFunction;" G3) (rG3 : G3.isRef = true) (O2 : Sta Z Z.heap "java/lang/String" "COMPACT_STRINGS" "Z" (.int G1)) (P5 : ¬ (G1 = (0 : Int32))) (F_qa1_value : Fld Z h0 qa1 "java/lang/String" "value" "[B" (.ref qa4)) (F_qa1_coder : Fld Z h0 qa1 "java/lang/String" "coder" "B" (.int 0)) (A_qa4 : Arv Z h0 qa4 qk5 .byte (2 : Int32) ((([qi6, qi7] : List Int32).map (fun c => c.toInt8.toInt32)).map Value.int) (.int 0)) (hp_qa1 : ∀ c ∈ ([qi6, qi7] : List Int32), ¬ c < 0 ∧ ¬ (255 : Int32) < c) (E_qa1 : Exa Z h0 qa1 "java/lang/String") (hs0 : ¬ qi2 < 0) (he0 : ¬ (2 : Int32) < qi3) :
    MF l Z Y4_ prog_50_method_3_code 5 (some .boolean) (Rm 4 0 0 53) #[.ref qa1, .int qi2, .int qi3] h0 (Q49 Z qi2 qi3 qi6 qi7 h0 n0) := by
 refine own_sF pn2 rfl (fun m => ef5 m qa1 qi2 qi3) ?_
 intro p e s m below meth c s₁ Bd hZ hh hx hby hml hown hnm X0 e0 pre0
 have N0 := Fr.nil n0
 have pr1 : Pr p e below s₁ m 2 #[rv qa1, iv qi2, iv qi3, .unset, .unset] [.int qi3, .int qi2] s₁ (entryFrame m #[.ref qa1, .int qi2, .int qi3] 5) := fun t k => pre0 t (by
  show Sx p e below s₁ m 0 #[rv qa1, iv qi2, iv qi3, .unset, .unset] [] _
  refine zj X0 Bd d4_0 rfl ?_
  refine zj X0 Bd d4_1 rfl ?_
  exact k)
 by_cases hc2 : qi2 < qi3
 ·
  skip
  have pr3 : Pr p e below s₁ m 9 #[rv qa1, iv qi2, iv qi3, iv qi2, .unset] [] s₁ (entryFrame m #[.ref qa1, .int qi2, .int qi3] 5) := fun t k => pr1 t (by
   show Sx p e below s₁ m 2 #[rv qa1, iv qi2, iv qi3, .unset, .unset] [.int qi3, .int qi2] _
   refine zy (pc' := 7) X0 Bd d4_2 (XT.ii_lt_t (hc2 : qi2 < qi3)) rfl ?_
   refine zj X0 Bd d4_7 rfl ?_
   refine zt X0 Bd d4_8 (l' := #[rv qa1, iv qi2, iv qi3, iv qi2, .unset]) rfl ?_
   exact k)
  refine own_loop1 (fun i_ => (qi3.toInt - i_.toInt).toNat) (fun T4 L4 i_ => ∃ sl4_4 : Slot, Stand p l e (Rm 4 0 0 53) s m #[.ref qa1, .int qi2, .int qi3] below meth c T4 L4 0 0 ∧ T4.heap = h0 ∧ Fr n0 L4 ∧ (¬ i_ < 0) ∧ ((own_digI ([qi6, qi7] : List Int32) qi2 qi3) = own_digI ([qi6, qi7] : List Int32) i_ qi3) ∧ (sl4_4 = .unset ∨ ∃ w, sl4_4 = .val w ∧ w.category = 1) ∧ Pr p e below T4 m 9 #[rv qa1, iv qi2, iv qi3, iv i_, sl4_4] [] s₁ (entryFrame m #[.ref qa1, .int qi2, .int qi3] 5)) ?_ s₁ _ qi2 ⟨.unset, X0, e0, N0, hs0, rfl, (Or.inl rfl), (fun t k => pr3 t k)⟩
  intro T4 L4 i_ hI4 ih4
  obtain ⟨sl4_4, X4, e4, N4, hq4_0, hq4_1, one4_4, pr4⟩ := hI4
  have pr5 : Pr p e below T4 m 11 #[rv qa1, iv qi2, iv qi3, iv i_, sl4_4] [.int qi3, .int i_] s₁ (entryFrame m #[.ref qa1, .int qi2, .int qi3] 5) := fun t k => pr4 t (by
   show Sx p e below T4 m 9 #[rv qa1, iv qi2, iv qi3, iv i_, sl4_4] [] _
   refine zj X4 Bd d4_9 rfl ?_
   refine zj X4 Bd d4_10 rfl ?_
   exact k)
  by_cases hc6 : i_ < qi3
  ·
   skip
   have hcd8 : StrChars.Road.CodA ([qi6, qi7] : List Int32) 0 (2 : Int32) ((([qi6, qi7] : List Int32).map (fun c => c.toInt8.toInt32)).map Value.int) := StrChars.Road.codOf (n := 2) rfl (fun x hx => (hp_qa1 x hx).2)
   have hbd8 : ∀ x ∈ ([qi6, qi7] : List Int32), ¬ x < 0 ∧ ¬ (65535 : Int32) < x := own_up _ hp_qa1
   obtain ⟨cq7, kq7, q7a, q7b, q7c⟩ := isOf hZ e4 E_qa1
   obtain ⟨_, T7, L7, X7, hQ7, st7⟩ := own_cb0 0 0 0 0 0 0 (X4.virtualBack hx (y := Y5_) (z := Y5_) hown (mvT hZ (w65_ hw)) (mvT hZ (w66_ hw)) (notFace_of_selects (args := #[]) (mvT hZ (w68_ hw))) (mvT hZ (w68_ hw)) (mvT hZ (w67_ hw)) (by decide) (StrChars.Road.chN (W := 0) hZ (own_wc hw) (kI := 4) (w2_ hw) E_qa1 F_qa1_value F_qa1_coder A_qa4 hcd8 hbd8 (O2.ext X00.2) P5 (O4.ext X00.2) rG3 (lE rfl) (i := (i_).toNatClampNeg) (own_ilt (k := 2) (by decide) hq4_0 hc6 he0) (j := i_) (own_ofn hq4_0) (lE rfl) (lE rfl)) q7a q7c (g := (mkF m 16 #[rv qa1, iv qi2, iv qi3, iv i_, sl4_4] [.int i_, .ref qa1])) rfl hml.symm (Steps.refl _) (argsL := [.int i_]) (rest := []) (lenOf pd4 rfl) rfl (own_hw rfl) (hb hby d4_16) (fun _ _ => ⟨rfl, e4, (lE rfl : 0 + 0 ≤ _), (lE rfl : 0 + 0 ≤ _)⟩)) rfl rfl
   dsimp only [Pt.U, Pt.locs, Pt.cells, Pt.slots] at hQ7
   obtain ⟨rfl, rfl, e7q⟩ := hQ7
   have N7 := Fr.app N4 (Fr.nil n0)
   have pr9 : Pr p e below T7 m 25 #[rv qa1, iv qi2, iv qi3, iv i_, iv (own_at ([qi6, qi7] : List Int32) i_)] [.int 48, (.int (own_at ([qi6, qi7] : List Int32) i_))] s₁ (entryFrame m #[.ref qa1, .int qi2, .int qi3] 5) := fun t k => pr5 t (by
    show Sx p e below T4 m 11 #[rv qa1, iv qi2, iv qi3, iv i_, sl4_4] [.int qi3, .int i_] _
    refine zn X4 Bd d4_11 (XT.ii_ge_f (hc6 : i_ < qi3)) ?_
    refine zb X4 Bd d4_14 rfl rfl ?_
    refine zj X4 Bd d4_15 rfl ?_
    refine st7.trans ?_
    refine XS.istoreS X7.here hx rfl (hb hby d4_19) rfl rfl one4_4 ?_
    refine zi X7 Bd d4_21 rfl ?_
    refine zd X7 Bd d4_23 ?_
    exact k)
   by_cases hc10 : (own_at ([qi6, qi7] : List Int32) i_) < (48 : Int32)
   ·
    skip
    refine own_lvF X7 Bd (.int 0) e7q ⟨(by rw [own_isd, if_pos hc2, hq4_1, own_dig0 hc6 hq4_0 (Or.inl hc10)]), N7, rfl⟩ rfl (fun fs hr => pr9 _ (by
     show Sx p e below T7 m 25 #[rv qa1, iv qi2, iv qi3, iv i_, iv (own_at ([qi6, qi7] : List Int32) i_)] [.int 48, (.int (own_at ([qi6, qi7] : List Int32) i_))] _
     refine zy (pc' := 35) X7 Bd d4_25 (XT.ii_lt_t (hc10 : (own_at ([qi6, qi7] : List Int32) i_) < (48 : Int32))) rfl ?_
     refine zc X7 Bd d4_35 ?_
     exact retN X7 hx (t := .boolean) Bd.returns (by simp) (hb hby d4_36) hr))
   ·
    skip
    have pr11 : Pr p e below T7 m 32 #[rv qa1, iv qi2, iv qi3, iv i_, iv (own_at ([qi6, qi7] : List Int32) i_)] [.int 57, (.int (own_at ([qi6, qi7] : List Int32) i_))] s₁ (entryFrame m #[.ref qa1, .int qi2, .int qi3] 5) := fun t k => pr9 t (by
     show Sx p e below T7 m 25 #[rv qa1, iv qi2, iv qi3, iv i_, iv (own_at ([qi6, qi7] : List Int32) i_)] [.int 48, (.int (own_at ([qi6, qi7] : List Int32) i_))] _
     refine zn X7 Bd d4_25 (XT.ii_lt_f (hc10 : ¬ ((own_at ([qi6, qi7] : List Int32) i_) < (48 : Int32)))) ?_
     refine zi X7 Bd d4_28 rfl ?_
     refine zd X7 Bd d4_30 ?_
     exact k)
    by_cases hc12 : (57 : Int32) < (own_at ([qi6, qi7] : List Int32) i_)
    ·
     skip
     refine own_lvF X7 Bd (.int 0) e7q ⟨(by rw [own_isd, if_pos hc2, hq4_1, own_dig0 hc6 hq4_0 (Or.inr hc12)]), N7, rfl⟩ rfl (fun fs hr => pr11 _ (by
      show Sx p e below T7 m 32 #[rv qa1, iv qi2, iv qi3, iv i_, iv (own_at ([qi6, qi7] : List Int32) i_)] [.int 57, (.int (own_at ([qi6, qi7] : List Int32) i_))] _
      refine zn X7 Bd d4_32 (XT.ii_le_f (hc12 : (57 : Int32) < (own_at ([qi6, qi7] : List Int32) i_))) ?_
      refine zc X7 Bd d4_35 ?_
      exact retN X7 hx (t := .boolean) Bd.returns (by simp) (hb hby d4_36) hr))
    ·
     skip
     have pr13 : Pr p e below T7 m 9 #[rv qa1, iv qi2, iv qi3, iv (i_ + (1 : Int32)), iv (own_at ([qi6, qi7] : List Int32) i_)] [] s₁ (entryFrame m #[.ref qa1, .int qi2, .int qi3] 5) := fun t k => pr11 t (by
      show Sx p e below T7 m 32 #[rv qa1, iv qi2, iv qi3, iv i_, iv (own_at ([qi6, qi7] : List Int32) i_)] [.int 57, (.int (own_at ([qi6, qi7] : List Int32) i_))] _
      refine zy (pc' := 37) X7 Bd d4_32 (XT.ii_le_t (hc12 : ¬ ((57 : Int32) < (own_at ([qi6, qi7] : List Int32) i_)))) rfl ?_
      refine XS.iinc X7.here hx rfl (hb hby d4_37) rfl (l' := #[rv qa1, iv qi2, iv qi3, iv (i_ + (1 : Int32)), iv (own_at ([qi6, qi7] : List Int32) i_)]) rfl ?_
      refine zg (pc' := 9) X7 Bd d4_40 rfl ?_
      exact k)
     exact ih4 T7 _ (i_ + (1 : Int32)) (own_decr hq4_0 hc6) ⟨iv (own_at ([qi6, qi7] : List Int32) i_), X7, e7q, N7, (own_inc0 hq4_0 hc6), (hq4_1.trans (own_digS hc6 hq4_0 hc10 hc12)), (Or.inr ⟨_, rfl, rfl⟩), (fun t k => pr13 t k)⟩
  ·
   skip
   refine own_lvF X4 Bd (.int 1) e4 ⟨(by rw [own_isd, if_pos hc2, hq4_1, own_dig1 hc6]), N4, rfl⟩ rfl (fun fs hr => pr5 _ (by
    show Sx p e below T4 m 11 #[rv qa1, iv qi2, iv qi3, iv i_, sl4_4] [.int qi3, .int i_] _
    refine zy (pc' := 43) X4 Bd d4_11 (XT.ii_ge_t (hc6 : ¬ (i_ < qi3))) rfl ?_
    refine zc X4 Bd d4_43 ?_
    exact retN X4 hx (t := .boolean) Bd.returns (by simp) (hb hby d4_44) hr))
 ·
  skip
  refine own_lvF X0 Bd (.int 0) e0 ⟨(by rw [own_isd, if_neg hc2]), N0, rfl⟩ rfl (fun fs hr => pr1 _ (by
   show Sx p e below s₁ m 2 #[rv qa1, iv qi2, iv qi3, .unset, .unset] [.int qi3, .int qi2] _
   refine zn X0 Bd d4_2 (XT.ii_lt_f (hc2 : ¬ (qi2 < qi3))) ?_
   refine zc X0 Bd d4_5 ?_
   exact retN X0 hx (t := .boolean) Bd.returns (by simp) (hb hby d4_6) hr))
theorem d0_38 : decode method_4_code 38 = .ok (.iload_n 0, 1) := by decide +kernel
theorem d0_39 : decode method_4_code 39 = .ok (.iconst 3, 1) := by decide +kernel
theorem d0_40 : decode method_4_code 40 = .ok (.if_icmp .ne 19, 3) := by decide +kernel
theorem d0_43 : decode method_4_code 43 = .ok (.iconst 3, 1) := by decide +kernel
theorem d0_44 : decode method_4_code 44 = .ok (.newarray .char, 2) := by decide +kernel
theorem d0_46 : decode method_4_code 46 = .ok (.dup, 1) := by decide +kernel
theorem d0_47 : decode method_4_code 47 = .ok (.iconst 0, 1) := by decide +kernel
theorem d0_48 : decode method_4_code 48 = .ok (.iload_n 1, 1) := by decide +kernel
theorem d0_49 : decode method_4_code 49 = .ok (.castore, 1) := by decide +kernel
theorem d0_50 : decode method_4_code 50 = .ok (.dup, 1) := by decide +kernel
theorem d0_51 : decode method_4_code 51 = .ok (.iconst 1, 1) := by decide +kernel
theorem d0_52 : decode method_4_code 52 = .ok (.iload_n 2, 1) := by decide +kernel
theorem d0_53 : decode method_4_code 53 = .ok (.castore, 1) := by decide +kernel
theorem d0_54 : decode method_4_code 54 = .ok (.dup, 1) := by decide +kernel
theorem d0_55 : decode method_4_code 55 = .ok (.iconst 2, 1) := by decide +kernel
theorem d0_56 : decode method_4_code 56 = .ok (.iload_n 3, 1) := by decide +kernel
theorem d0_57 : decode method_4_code 57 = .ok (.castore, 1) := by decide +kernel
theorem d0_58 : decode method_4_code 58 = .ok (.areturn, 1) := by decide +kernel
-- com/example/backstop/backstop/WholeNumbersIsDigitsPinLaw.chars(ICCCC)[C
def Q50 (Z : State) (qi2 : Int32) (qi3 : Int32) (qi4 : Int32) (h0 : Heap) (n0 : Nat) (v : Option Value) (h : Heap) (L : List Loc) : Prop := ∃ b5 : Addr, ∃ c5 : ClassId, v = some (.ref b5) ∧ Fr n0 L ∧ Keep h0 h [] ∧ h0.size ≤ b5 ∧ Arv Z h b5 c5 .char (3 : Int32) [.int qi2, .int qi3, .int qi4] (.int 0)
theorem rm50 (l : Launch) (Z : State) (a0 : Array Value) (hw : HW a0 Z) (qi1 : Int32) (qi2 : Int32) (qi3 : Int32) (qi4 : Int32) (qi5 : Int32) (h0 : Heap) (n0 : Nat) (X00 : Old Z n0 h0) (hc1 : ¬ (qi1 = (0 : Int32))) (hc2 : ¬ (qi1 = (1 : Int32))) (hc3 : ¬ (qi1 = (2 : Int32))) (hc4 : qi1 = (3 : Int32)) (hr11 : nar .char qi2 = qi2) (hr16 : nar .char qi3 = qi3) (hr21 : nar .char qi4 = qi4) :
    MF l Z Y0_ method_4_code 5 (some (.array .char)) (Rm 0 1 3 0) #[.int qi1, .int qi2, .int qi3, .int qi4, .int qi5] h0 (Q50 Z qi2 qi3 qi4 h0 n0) := by
 refine own_sF pn0 rfl (fun m => ef1 m qi1 qi2 qi3 qi4 qi5) ?_
 intro p e s m below meth c s₁ Bd hZ hh hx hby hml hown hnm X0 e0 pre0
 have N0 := Fr.nil n0
 obtain ⟨T5, h5, c5, X5, e5, E5, A5, st5⟩ := newP (aty := .char) X0 hx hZ (w8_ hw) e0 (g := (mkF m 44 #[iv qi1, iv qi2, iv qi3, iv qi4, iv qi5] [.int 3])) rfl (hb hby d0_44) rfl (by decide) (cap := 3) (by decide) (lE rfl) (lE rfl) (lE rfl)
 obtain ⟨b5, g5⟩ : ∃ z, z = h0.size := ⟨_, rfl⟩
 rw [← g5] at A5 st5
 replace X5 : Stand p l e (Rm 0 1 3 0) s m #[.int qi1, .int qi2, .int qi3, .int qi4, .int qi5] below meth c T5 _ 1 3 := X5
 have K6 := (Keep.refl h0 []).ext E5
 have A7_ : Arv Z h5 b5 c5 .char (3 : Int32) [.int 0, .int 0, .int 0] (.int 0) := (Arv.new A5 (by decide)).pad (pad_rep [] (.int 0) 3)
 have av8 := A7_
 obtain ⟨cl8, Ar8, q8, S8, N8, H8, Gf8⟩ := av8
 have hin9 : ¬ ((0 : Int32) < 0 ∨ cl8.slots.size ≤ ((0 : Int32) : Int32).toNatClampNeg) := inb_of S8 (by decide)
 obtain ⟨T9, h9, X9, e9, W9, st9⟩ := stC X5 hx hZ e5 Ar8 (j := (0 : Int32)) hin9 (g := (mkF m 49 #[iv qi1, iv qi2, iv qi3, iv qi4, iv qi5] [.int qi2, .int 0, .ref b5, .ref b5])) rfl rfl (hb hby d0_49)
 have g_b5 : n0 ≤ b5 := Nat.le_trans (Nat.le_trans (Nat.le_of_eq X00.1.symm) X00.2.1) (Nat.le_of_eq g5.symm)
 have N9_ := Fr.snoc X9 N0 g_b5
 have sz_b5 : h0.size ≤ b5 := (Nat.le_of_eq g5.symm)
 have K10 := K6.wr W9 (Or.inr sz_b5)
 have A12_ : Arv Z h9 b5 c5 .char (3 : Int32) [.int qi2, .int 0, .int 0] (.int 0) := by have q := Arv.set (v := .int (nar .char qi2)) Ar8 q8 S8 N8 H8 Gf8 (fits_nar_char _) W9 0 (by decide) (lE rfl); rw [(hr11 : nar .char qi2 = qi2)] at q; exact q
 have av13 := A12_
 obtain ⟨cl13, Ar13, q13, S13, N13, H13, Gf13⟩ := av13
 have hin14 : ¬ ((1 : Int32) < 0 ∨ cl13.slots.size ≤ ((1 : Int32) : Int32).toNatClampNeg) := inb_of S13 (by decide)
 obtain ⟨T14, h14, X14, e14, W14, st14⟩ := stC X9 hx hZ e9 Ar13 (j := (1 : Int32)) hin14 (g := (mkF m 53 #[iv qi1, iv qi2, iv qi3, iv qi4, iv qi5] [.int qi3, .int 1, .ref b5, .ref b5])) rfl rfl (hb hby d0_53)
 have N14_ := Fr.snoc X14 N9_ g_b5
 have K15 := K10.wr W14 (Or.inr sz_b5)
 have A17_ : Arv Z h14 b5 c5 .char (3 : Int32) [.int qi2, .int qi3, .int 0] (.int 0) := by have q := Arv.set (v := .int (nar .char qi3)) Ar13 q13 S13 N13 H13 Gf13 (fits_nar_char _) W14 1 (by decide) (lE rfl); rw [(hr16 : nar .char qi3 = qi3)] at q; exact q
 have av18 := A17_
 obtain ⟨cl18, Ar18, q18, S18, N18, H18, Gf18⟩ := av18
 have hin19 : ¬ ((2 : Int32) < 0 ∨ cl18.slots.size ≤ ((2 : Int32) : Int32).toNatClampNeg) := inb_of S18 (by decide)
 obtain ⟨T19, h19, X19, e19, W19, st19⟩ := stC X14 hx hZ e14 Ar18 (j := (2 : Int32)) hin19 (g := (mkF m 57 #[iv qi1, iv qi2, iv qi3, iv qi4, iv qi5] [.int qi4, .int 2, .ref b5, .ref b5])) rfl rfl (hb hby d0_57)
 have N19_ := Fr.snoc X19 N14_ g_b5
 have K20 := K15.wr W19 (Or.inr sz_b5)
 have A22_ : Arv Z h19 b5 c5 .char (3 : Int32) [.int qi2, .int qi3, .int qi4] (.int 0) := by have q := Arv.set (v := .int (nar .char qi4)) Ar18 q18 S18 N18 H18 Gf18 (fits_nar_char _) W19 2 (by decide) (lE rfl); rw [(hr21 : nar .char qi4 = qi4)] at q; exact q
 refine own_lvF X19 Bd (.ref b5) e19 ⟨b5, c5, rfl, N19_, K20, sz_b5, A22_⟩ rfl (fun fs hr => pre0 _ (by
  show Sx p e below s₁ m 0 #[iv qi1, iv qi2, iv qi3, iv qi4, iv qi5] [] _
  refine zj X0 Bd d0_0 rfl ?_
  refine zp (pc' := 8) X0 Bd d0_1 (XT.i0_ne_t (hc1 : ¬ (qi1 = (0 : Int32)))) rfl ?_
  refine zj X0 Bd d0_8 rfl ?_
  refine zc X0 Bd d0_9 ?_
  refine zy (pc' := 21) X0 Bd d0_10 (XT.ii_ne_t (hc2 : ¬ (qi1 = (1 : Int32)))) rfl ?_
  refine zj X0 Bd d0_21 rfl ?_
  refine zc X0 Bd d0_22 ?_
  refine zy (pc' := 38) X0 Bd d0_23 (XT.ii_ne_t (hc3 : ¬ (qi1 = (2 : Int32)))) rfl ?_
  refine zj X0 Bd d0_38 rfl ?_
  refine zc X0 Bd d0_39 ?_
  refine zn X0 Bd d0_40 (XT.ii_ne_f (hc4 : qi1 = (3 : Int32))) ?_
  refine zc X0 Bd d0_43 ?_
  refine st5 _ ?_
  refine XS.dup X5.here hx rfl (hb hby d0_46) rfl rfl ?_
  refine zc X5 Bd d0_47 ?_
  refine zj X5 Bd d0_48 rfl ?_
  refine st9 _ ?_
  refine XS.dup X9.here hx rfl (hb hby d0_50) rfl rfl ?_
  refine zc X9 Bd d0_51 ?_
  refine zj X9 Bd d0_52 rfl ?_
  refine st14 _ ?_
  refine XS.dup X14.here hx rfl (hb hby d0_54) rfl rfl ?_
  refine zc X14 Bd d0_55 ?_
  refine zj X14 Bd d0_56 rfl ?_
  refine st19 _ ?_
  show Sx p e below T19 m 58 #[iv qi1, iv qi2, iv qi3, iv qi4, iv qi5] [.ref b5] _
  exact retOut X19 hx Bd.returns rfl (Or.inr (Or.inr (Or.inr (Or.inr ⟨rfl, rfl, rfl⟩)))) (hb hby d0_58) hr))
-- java/lang/StringUTF16.compress([CI[BII)I
def Q51 (Z : State)  (h0 : Heap) (n0 : Nat) (v : Option Value) (h : Heap) (L : List Loc) : Prop := v = some (.int 0) ∧ Fr n0 L ∧ h = h0
theorem rm51 (l : Launch) (Z : State) (a0 : Array Value) (hw : HW a0 Z) (qa1 : Addr) (qa2 : Addr) (qk3 : ClassId) (qi4 : Int32) (qi5 : Int32) (qi6 : Int32) (h0 : Heap) (n0 : Nat) (X00 : Old Z n0 h0) (A_qa1 : Arv Z h0 qa1 qk3 .char (3 : Int32) [.int qi4, .int qi5, .int qi6] (.int 0)) (hc3 : (255 : Int32) < qi4) :
    MF l Z Y6_ jdk_52_method_21_code 7 (some .int) (Rm 0 0 0 0) #[.ref qa1, .int 0, .ref qa2, .int 0, .int 3] h0 (Q51 Z  h0 n0) := by
 refine own_sF pn3 rfl (fun m => ef7 m qa1 (0 : Int32) qa2 (0 : Int32) (3 : Int32)) ?_
 intro p e s m below meth c s₁ Bd hZ hh hx hby hml hown hnm X0 e0 pre0
 have N0 := Fr.nil n0
 have av1 := A_qa1
 obtain ⟨cl1, Ar1, q1, S1, N1, H1, Gf1⟩ := av1
 have hin2 : ¬ ((0 : Int32) < 0 ∨ cl1.slots.size ≤ ((0 : Int32) : Int32).toNatClampNeg) := inb_of S1 (by decide)
 have hat2 : cl1.slots[((0 : Int32) : Int32).toNatClampNeg]? = some (.int qi4) := Has.at H1 hin2 rfl
 refine own_lvF X0 Bd (.int 0) e0 ⟨rfl, N0, rfl⟩ rfl (fun fs hr => pre0 _ (by
  show Sx p e below s₁ m 0 #[rv qa1, iv 0, rv qa2, iv 0, iv 3, .unset, .unset] [] _
  refine zc X0 Bd d6_0 ?_
  refine zs X0 Bd d6_1 (l' := #[rv qa1, iv 0, rv qa2, iv 0, iv 3, iv 0, .unset]) rfl ?_
  refine zi X0 Bd d6_3 rfl ?_
  refine zi X0 Bd d6_5 rfl ?_
  refine zn X0 Bd d6_7 (XT.ii_ge_f ((by decide) : (0 : Int32) < (3 : Int32))) ?_
  refine zb X0 Bd d6_10 rfl rfl ?_
  refine zj X0 Bd d6_11 rfl ?_
  refine X0.caload hx (j := (0 : Int32)) (v := (.int qi4)) (by rw [e0]; exact Ar1.1) (State.isArrayOf_alike hZ.alike Ar1.2.1) Ar1.2.2 hin2 hat2 (g := (mkF m 12 #[rv qa1, iv 0, rv qa2, iv 0, iv 3, iv 0, .unset] [.int 0, .ref qa1])) rfl rfl (hb hby d6_12) _ ?_
  refine zs X0 Bd d6_13 (l' := #[rv qa1, iv 0, rv qa2, iv 0, iv 3, iv 0, iv qi4]) rfl ?_
  refine zi X0 Bd d6_15 rfl ?_
  refine XS.sipush X0.here hx rfl (hb hby d6_17) ?_
  refine zn X0 Bd d6_20 (XT.ii_le_f (hc3 : (255 : Int32) < qi4)) ?_
  refine zi X0 Bd d6_23 rfl ?_
  exact retI X0 hx Bd.returns (hb hby d6_25) hr))
-- java/lang/StringUTF16.newBytesLength(I)I
def Q52 (Z : State)  (h0 : Heap) (n0 : Nat) (v : Option Value) (h : Heap) (L : List Loc) : Prop := v = some (.int 6) ∧ Fr n0 L ∧ h = h0
theorem rm52 (l : Launch) (Z : State) (a0 : Array Value) (hw : HW a0 Z)  (h0 : Heap) (n0 : Nat) (X00 : Old Z n0 h0)  :
    MF l Z Y7_ jdk_52_method_3_code 1 (some .int) (Rm 0 0 0 0) #[.int 3] h0 (Q52 Z  h0 n0) := by
 refine own_sF pn3 rfl (fun m => ef8 m (3 : Int32)) ?_
 intro p e s m below meth c s₁ Bd hZ hh hx hby hml hown hnm X0 e0 pre0
 have N0 := Fr.nil n0
 refine own_lvF X0 Bd (.int 6) e0 ⟨rfl, N0, rfl⟩ rfl (fun fs hr => pre0 _ (by
  show Sx p e below s₁ m 0 #[iv 3] [] _
  refine zj X0 Bd d9_0 rfl ?_
  refine zp (pc' := 12) X0 Bd d9_1 (XT.i0_ge_t ((by decide) : ¬ ((3 : Int32) < (0 : Int32)))) rfl ?_
  refine zj X0 Bd d9_12 rfl ?_
  refine X0.ldcInt hx hown (mvT hZ (w51_ hw)) (g := (mkF m 13 #[iv 3] [.int 3])) rfl (hb hby d9_13) _ ?_
  refine zy (pc' := 55) X0 Bd d9_15 (XT.ii_lt_t ((by decide) : (3 : Int32) < (1073741823 : Int32))) rfl ?_
  refine zj X0 Bd d9_55 rfl ?_
  refine zc X0 Bd d9_56 ?_
  refine XS.ishl X0.here hx rfl (hb hby d9_57) rfl ?_
  exact retI X0 hx Bd.returns (hb hby d9_58) hr))
-- java/lang/StringUTF16.newBytesFor(I)[B
def Q53 (Z : State)  (h0 : Heap) (n0 : Nat) (v : Option Value) (h : Heap) (L : List Loc) : Prop := ∃ b2 : Addr, ∃ c2 : ClassId, v = some (.ref b2) ∧ Fr n0 L ∧ Keep h0 h [] ∧ h0.size ≤ b2 ∧ Arv Z h b2 c2 .byte (6 : Int32) [.int 0, .int 0, .int 0, .int 0, .int 0, .int 0] (.int 0)
theorem rm53 (l : Launch) (Z : State) (a0 : Array Value) (hw : HW a0 Z)  (h0 : Heap) (n0 : Nat) (X00 : Old Z n0 h0)  :
    MF l Z Y8_ jdk_52_method_2_code 1 (some (.array .byte)) (Rm 1 1 6 12) #[.int 3] h0 (Q53 Z  h0 n0) := by
 refine own_sF pn3 rfl (fun m => ef8 m (3 : Int32)) ?_
 intro p e s m below meth c s₁ Bd hZ hh hx hby hml hown hnm X0 e0 pre0
 have N0 := Fr.nil n0
 obtain ⟨_, T1, L1, X1, hQ1, st1⟩ := own_cS 0 0 [] 1 #[iv 3] X0 hx hZ hown (w48_ hw) (w49_ hw) (w22_ hw) (w50_ hw) (rm52 l Z a0 hw   h0 n0 X00 ) pd7 hml.symm (hb hby d8_1) e0 rfl rfl rfl rfl (by decide)
 obtain ⟨rfl, N1q, e1q⟩ := hQ1
 have N1 := Fr.app N0 N1q
 obtain ⟨T2, h2, c2, X2, e2, E2, A2, st2⟩ := newP (aty := .byte) X1 hx hZ (w24_ hw) e1q (g := (mkF m 4 #[iv 3] [.int 6])) rfl (hb hby d8_4) rfl (by decide) (cap := 6) (by decide) (lE rfl) (lE rfl) (lE rfl)
 obtain ⟨b2, g2⟩ : ∃ z, z = h0.size := ⟨_, rfl⟩
 rw [← g2] at A2 st2
 replace X2 : Stand p l e (Rm 1 1 6 12) s m #[.int 3] below meth c T2 _ 1 6 := X2
 have K3 := (Keep.refl h0 []).ext E2
 have A4_ : Arv Z h2 b2 c2 .byte (6 : Int32) [.int 0, .int 0, .int 0, .int 0, .int 0, .int 0] (.int 0) := (Arv.new A2 (by decide)).pad (pad_rep [] (.int 0) 6)
 have sz_b2 : h0.size ≤ b2 := (Nat.le_of_eq g2.symm)
 refine own_lvF X2 Bd (.ref b2) e2 ⟨b2, c2, rfl, N1, K3, sz_b2, A4_⟩ rfl (fun fs hr => pre0 _ (by
  show Sx p e below s₁ m 0 #[iv 3] [] _
  refine zj X0 Bd d8_0 rfl ?_
  refine st1 _ ?_
  refine st2 _ ?_
  exact retOut X2 hx Bd.returns rfl (Or.inr (Or.inr (Or.inr (Or.inr ⟨rfl, rfl, rfl⟩)))) (hb hby d8_6) hr))
-- java/lang/StringUTF16.putChar([BII)V
def Q54 (Z : State) (qa1 : Addr) (qi2 : Int32) (qi3 : Int32) (qk4 : ClassId) (qi5 : Int32) (qi6 : Int32) (qi7 : Int32) (qi8 : Int32) (qi9 : Int32) (qi10 : Int32) (h0 : Heap) (n0 : Nat) (v : Option Value) (h : Heap) (L : List Loc) : Prop := v = none ∧ Fr n0 L ∧ Keep h0 h [qa1] ∧ Arv Z h qa1 qk4 .byte (6 : Int32) (((([qi5, qi6, qi7, qi8, qi9, qi10] : List Int32).set (((qi2 <<< ((1 : Int32) &&& 31)))).toNatClampNeg ((((qi3 >>> ((0 : Int32) &&& 31)))).toInt8.toInt32)).set ((((qi2 <<< ((1 : Int32) &&& 31))) + (1 : Int32))).toNatClampNeg ((((qi3 >>> ((8 : Int32) &&& 31)))).toInt8.toInt32)).map Value.int) (.int 0)
theorem rm54 (l : Launch) (Z : State) (a0 : Array Value) (hw : HW a0 Z) (qa1 : Addr) (qi2 : Int32) (qi3 : Int32) (qk4 : ClassId) (qi5 : Int32) (qi6 : Int32) (qi7 : Int32) (qi8 : Int32) (qi9 : Int32) (qi10 : Int32) (h0 : Heap) (n0 : Nat) (X00 : Old Z n0 h0) (uS12 : Sta Z Z.heap "java/lang/StringUTF16" "$assertionsDisabled" "Z" (.int 1)) (uS15 : Sta Z Z.heap "java/lang/StringUTF16" "HI_BYTE_SHIFT" "I" (.int 0)) (uS18 : Sta Z Z.heap "java/lang/StringUTF16" "LO_BYTE_SHIFT" "I" (.int 8)) (A_qa1 : Arv Z h0 qa1 qk4 .byte (6 : Int32) [.int qi5, .int qi6, .int qi7, .int qi8, .int qi9, .int qi10] (.int 0)) (hc4 : ¬ (qi2 < (0 : Int32))) (hc5 : qi2 < (3 : Int32)) (g_qa1 : n0 ≤ qa1) :
    MF l Z Y9_ jdk_52_method_4_code 3 none (Rm 0 0 0 0) #[.ref qa1, .int qi2, .int qi3] h0 (Q54 Z qa1 qi2 qi3 qk4 qi5 qi6 qi7 qi8 qi9 qi10 h0 n0) := by
 refine own_sF pn3 rfl (fun m => ef9 m qa1 qi2 qi3) ?_
 intro p e s m below meth c s₁ Bd hZ hh hx hby hml hown hnm X0 e0 pre0
 have N0 := Fr.nil n0
 obtain ⟨T1, X1, e1, st1⟩ := getS2 X0 hx hZ hown (host := "") (Or.inl (w55_ hw)) Via.refl e0 (uS12.ext X00.2) (g := (mkF m 0 #[rv qa1, iv qi2, iv qi3] [])) rfl (hb hby d10_0)
 obtain ⟨T2, X2, e2, st2⟩ := getS2 X1 hx hZ hown (host := "") (Or.inl (w56_ hw)) Via.refl e1 (uS15.ext X00.2) (g := (mkF m 38 #[rv qa1, iv (((qi2 <<< ((1 : Int32) &&& 31))) + (1 : Int32)), iv qi3] [.int qi3, (.int ((qi2 <<< ((1 : Int32) &&& 31)))), .ref qa1])) rfl (hb hby d10_38)
 have A3_ : Arv Z h0 qa1 qk4 .byte (6 : Int32) (([qi5, qi6, qi7, qi8, qi9, qi10] : List Int32).map Value.int) (.int 0) := A_qa1
 have av6 := A3_
 obtain ⟨cl6, Ar6, q6, S6, N6, H6, Gf6⟩ := av6
 have hin7 : ¬ (((qi2 <<< ((1 : Int32) &&& 31))) < 0 ∨ cl6.slots.size ≤ (((qi2 <<< ((1 : Int32) &&& 31))) : Int32).toNatClampNeg) := inb_of S6 (own_shla3 hc4 hc5)
 obtain ⟨T7, h7, X7, e7, W7, st7⟩ := stB X2 hx hZ e2 Ar6 (j := ((qi2 <<< ((1 : Int32) &&& 31)))) hin7 (g := (mkF m 43 #[rv qa1, iv (((qi2 <<< ((1 : Int32) &&& 31))) + (1 : Int32)), iv qi3] [(.int ((((qi3 >>> ((0 : Int32) &&& 31)))).toInt8.toInt32)), (.int ((qi2 <<< ((1 : Int32) &&& 31)))), .ref qa1])) rfl rfl (hb hby d10_43)
 have N7_ := Fr.snoc X7 N0 g_qa1
 have K8 := (Keep.refl h0 [qa1]).wr W7 (Or.inl (mI 0 rfl))
 have A9_ : Arv Z h7 qa1 qk4 .byte (6 : Int32) ((([qi5, qi6, qi7, qi8, qi9, qi10] : List Int32).set (((qi2 <<< ((1 : Int32) &&& 31)))).toNatClampNeg ((((qi3 >>> ((0 : Int32) &&& 31)))).toInt8.toInt32)).map Value.int) (.int 0) := by rw [List.map_set]; have q := Arv.set (v := .int (nar .byte ((((qi3 >>> ((0 : Int32) &&& 31)))).toInt8.toInt32))) Ar6 q6 S6 N6 H6 Gf6 (fits_nar_byte _) W7 _ rfl (by rw [List.length_map]; exact own_ltn (k := 6) (by decide) (own_shla3 hc4 hc5)); rw [((own_nar_i2b _) : nar .byte ((((qi3 >>> ((0 : Int32) &&& 31)))).toInt8.toInt32) = ((((qi3 >>> ((0 : Int32) &&& 31)))).toInt8.toInt32))] at q; exact q
 have O11 := X00.wr W7 g_qa1
 obtain ⟨T10, X10, e10, st10⟩ := getS2 X7 hx hZ hown (host := "") (Or.inl (w57_ hw)) Via.refl e7 (uS18.ext O11.2) (g := (mkF m 47 #[rv qa1, iv (((qi2 <<< ((1 : Int32) &&& 31))) + (1 : Int32)), iv qi3] [.int qi3, (.int (((qi2 <<< ((1 : Int32) &&& 31))) + (1 : Int32))), .ref qa1])) rfl (hb hby d10_47)
 have av12 := A9_
 obtain ⟨cl12, Ar12, q12, S12, N12, H12, Gf12⟩ := av12
 have hin13 : ¬ ((((qi2 <<< ((1 : Int32) &&& 31))) + (1 : Int32)) < 0 ∨ cl12.slots.size ≤ ((((qi2 <<< ((1 : Int32) &&& 31))) + (1 : Int32)) : Int32).toNatClampNeg) := inb_of S12 (own_shlb3 hc4 hc5)
 obtain ⟨T13, h13, X13, e13, W13, st13⟩ := stB X10 hx hZ e10 Ar12 (j := (((qi2 <<< ((1 : Int32) &&& 31))) + (1 : Int32))) hin13 (g := (mkF m 52 #[rv qa1, iv (((qi2 <<< ((1 : Int32) &&& 31))) + (1 : Int32)), iv qi3] [(.int ((((qi3 >>> ((8 : Int32) &&& 31)))).toInt8.toInt32)), (.int (((qi2 <<< ((1 : Int32) &&& 31))) + (1 : Int32))), .ref qa1])) rfl rfl (hb hby d10_52)
 have N13_ := Fr.snoc X13 N7_ g_qa1
 have K14 := K8.wr W13 (Or.inl (mI 0 rfl))
 have A15_ : Arv Z h13 qa1 qk4 .byte (6 : Int32) (((([qi5, qi6, qi7, qi8, qi9, qi10] : List Int32).set (((qi2 <<< ((1 : Int32) &&& 31)))).toNatClampNeg ((((qi3 >>> ((0 : Int32) &&& 31)))).toInt8.toInt32)).set ((((qi2 <<< ((1 : Int32) &&& 31))) + (1 : Int32))).toNatClampNeg ((((qi3 >>> ((8 : Int32) &&& 31)))).toInt8.toInt32)).map Value.int) (.int 0) := by rw [List.map_set]; have q := Arv.set (v := .int (nar .byte ((((qi3 >>> ((8 : Int32) &&& 31)))).toInt8.toInt32))) Ar12 q12 S12 N12 H12 Gf12 (fits_nar_byte _) W13 _ rfl (by rw [List.length_map, List.length_set]; exact own_ltn (k := 6) (by decide) (own_shlb3 hc4 hc5)); rw [((own_nar_i2b _) : nar .byte ((((qi3 >>> ((8 : Int32) &&& 31)))).toInt8.toInt32) = ((((qi3 >>> ((8 : Int32) &&& 31)))).toInt8.toInt32))] at q; exact q
 refine own_lvN X13 Bd e13 ⟨rfl, N13_, K14, A15_⟩ rfl (fun fs hr => pre0 _ (by
  show Sx p e below s₁ m 0 #[rv qa1, iv qi2, iv qi3] [] _
  refine st1 _ ?_
  refine zp (pc' := 28) X1 Bd d10_3 (XT.i0_ne_t ((by decide) : ¬ ((1 : Int32) = (0 : Int32)))) rfl ?_
  refine zj X1 Bd d10_28 rfl ?_
  refine zc X1 Bd d10_29 ?_
  refine XS.ishl X1.here hx rfl (hb hby d10_30) rfl ?_
  refine zt X1 Bd d10_31 (l' := #[rv qa1, iv ((qi2 <<< ((1 : Int32) &&& 31))), iv qi3]) rfl ?_
  refine zb X1 Bd d10_32 rfl rfl ?_
  refine zj X1 Bd d10_33 rfl ?_
  refine XS.iinc X1.here hx rfl (hb hby d10_34) rfl (l' := #[rv qa1, iv (((qi2 <<< ((1 : Int32) &&& 31))) + (1 : Int32)), iv qi3]) rfl ?_
  refine zj X1 Bd d10_37 rfl ?_
  refine st2 _ ?_
  refine XS.ishr X2.here hx rfl (hb hby d10_41) rfl ?_
  refine XS.i2b X2.here hx rfl (hb hby d10_42) rfl ?_
  refine st7 _ ?_
  refine zb X7 Bd d10_44 rfl rfl ?_
  refine zj X7 Bd d10_45 rfl ?_
  refine zj X7 Bd d10_46 rfl ?_
  refine st10 _ ?_
  refine XS.ishr X10.here hx rfl (hb hby d10_50) rfl ?_
  refine XS.i2b X10.here hx rfl (hb hby d10_51) rfl ?_
  refine st13 _ ?_
  exact X13.returnOut hx Bd.returns (hb hby d10_53) hr))
-- java/lang/StringUTF16.toBytes([CII)[B
def Q55 (Z : State) (qi3 : Int32) (qi4 : Int32) (qi5 : Int32) (h0 : Heap) (n0 : Nat) (v : Option Value) (h : Heap) (L : List Loc) : Prop := ∃ b2 : Addr, ∃ c3_ : ClassId, v = some (.ref b2) ∧ Fr n0 L ∧ Keep h0 h [] ∧ h0.size ≤ b2 ∧ Arv Z h b2 c3_ .byte (6 : Int32) [(.int ((((qi3 >>> ((0 : Int32) &&& 31)))).toInt8.toInt32)), (.int ((((qi3 >>> ((8 : Int32) &&& 31)))).toInt8.toInt32)), (.int ((((qi4 >>> ((0 : Int32) &&& 31)))).toInt8.toInt32)), (.int ((((qi4 >>> ((8 : Int32) &&& 31)))).toInt8.toInt32)), (.int ((((qi5 >>> ((0 : Int32) &&& 31)))).toInt8.toInt32)), (.int ((((qi5 >>> ((8 : Int32) &&& 31)))).toInt8.toInt32))] (.int 0)
theorem rm55 (l : Launch) (Z : State) (a0 : Array Value) (hw : HW a0 Z) (qa1 : Addr) (qk2 : ClassId) (qi3 : Int32) (qi4 : Int32) (qi5 : Int32) (h0 : Heap) (n0 : Nat) (X00 : Old Z n0 h0) (uS12 : Sta Z Z.heap "java/lang/StringUTF16" "$assertionsDisabled" "Z" (.int 1)) (uS15 : Sta Z Z.heap "java/lang/StringUTF16" "HI_BYTE_SHIFT" "I" (.int 0)) (uS18 : Sta Z Z.heap "java/lang/StringUTF16" "LO_BYTE_SHIFT" "I" (.int 8)) (A_qa1 : Arv Z h0 qa1 qk2 .char (3 : Int32) [.int qi3, .int qi4, .int qi5] (.int 0)) :
    MF l Z Y10_ jdk_52_method_14_code 5 (some (.array .byte)) (Rm 2 1 6 24) #[.ref qa1, .int 0, .int 3] h0 (Q55 Z qi3 qi4 qi5 h0 n0) := by
 refine own_sF pn3 rfl (fun m => ef5 m qa1 (0 : Int32) (3 : Int32)) ?_
 intro p e s m below meth c s₁ Bd hZ hh hx hby hml hown hnm X0 e0 pre0
 have N0 := Fr.nil n0
 obtain ⟨_, T1, L1, X1, hQ1, st1⟩ := own_cS 1 6 [] 1 #[rv qa1, iv 0, iv 3, .unset, .unset] X0 hx hZ hown (w45_ hw) (w46_ hw) (w22_ hw) (w47_ hw) (rm53 l Z a0 hw   h0 n0 X00 ) pd8 hml.symm (hb hby d7_1) e0 rfl rfl rfl rfl (by decide)
 obtain ⟨b2, c3_, rfl, N1q, K1q, w4, w5⟩ := hQ1
 have N1 := Fr.app N0 N1q
 have K6 := (Keep.refl h0 []).trans K1q (fun x q => nomatch q)
 have A8_ := A_qa1.keep K1q nin0
 have av7 := A8_
 obtain ⟨cl7, Ar7, q7, S7, N7, H7, Gf7⟩ := av7
 have hin9 : ¬ ((0 : Int32) < 0 ∨ cl7.slots.size ≤ ((0 : Int32) : Int32).toNatClampNeg) := inb_of S7 (by decide)
 have hat9 : cl7.slots[((0 : Int32) : Int32).toNatClampNeg]? = some (.int qi3) := Has.at H7 hin9 rfl
 have g_b2 : n0 ≤ b2 := Nat.le_trans (Nat.le_trans (Nat.le_of_eq X00.1.symm) X00.2.1) w4
 have O11 := X00.keep K1q all0
 obtain ⟨_, T10, L10, X10, hQ10, st10⟩ := own_cS 1 6 [] 20 #[rv qa1, iv 0, iv 3, rv b2, iv 0] X1 hx hZ hown (w52_ hw) (w53_ hw) (w22_ hw) (w54_ hw) (rm54 l Z a0 hw  b2 (0 : Int32) qi3 c3_ (0 : Int32) (0 : Int32) (0 : Int32) (0 : Int32) (0 : Int32) (0 : Int32) T1.heap n0 O11 uS12 uS15 uS18 w5 (by decide) (by decide) g_b2) pd9 hml.symm (hb hby d7_20) rfl rfl rfl rfl rfl (by decide)
 obtain ⟨rfl, N10q, K10q, w12⟩ := hQ10
 have N10 := Fr.app N1 N10q
 have sz_b2 : h0.size ≤ b2 := w4
 have K13 := K6.trans K10q (allS (Or.inr sz_b2) all0)
 have A14_ : Arv Z T10.heap b2 c3_ .byte (6 : Int32) [(.int ((((qi3 >>> ((0 : Int32) &&& 31)))).toInt8.toInt32)), (.int ((((qi3 >>> ((8 : Int32) &&& 31)))).toInt8.toInt32)), .int 0, .int 0, .int 0, .int 0] (.int 0) := w12
 have A16_ := A8_.keep K10q (ninS (Nat.ne_of_lt (Nat.lt_of_lt_of_le A_qa1.lt w4)) nin0)
 have av15 := A16_
 obtain ⟨cl15, Ar15, q15, S15, N15, H15, Gf15⟩ := av15
 have hin17 : ¬ ((1 : Int32) < 0 ∨ cl15.slots.size ≤ ((1 : Int32) : Int32).toNatClampNeg) := inb_of S15 (by decide)
 have hat17 : cl15.slots[((1 : Int32) : Int32).toNatClampNeg]? = some (.int qi4) := Has.at H15 hin17 rfl
 have O19 := O11.keep K10q (allS g_b2 all0)
 obtain ⟨_, T18, L18, X18, hQ18, st18⟩ := own_cS 1 6 [] 20 #[rv qa1, iv 1, iv 3, rv b2, iv 1] X10 hx hZ hown (w52_ hw) (w53_ hw) (w22_ hw) (w54_ hw) (rm54 l Z a0 hw  b2 (1 : Int32) qi4 c3_ ((((qi3 >>> ((0 : Int32) &&& 31)))).toInt8.toInt32) ((((qi3 >>> ((8 : Int32) &&& 31)))).toInt8.toInt32) (0 : Int32) (0 : Int32) (0 : Int32) (0 : Int32) T10.heap n0 O19 uS12 uS15 uS18 A14_ (by decide) (by decide) g_b2) pd9 hml.symm (hb hby d7_20) rfl rfl rfl rfl rfl (by decide)
 obtain ⟨rfl, N18q, K18q, w20⟩ := hQ18
 have N18 := Fr.app N10 N18q
 have K21 := K13.trans K18q (allS (Or.inr sz_b2) all0)
 have A22_ : Arv Z T18.heap b2 c3_ .byte (6 : Int32) [(.int ((((qi3 >>> ((0 : Int32) &&& 31)))).toInt8.toInt32)), (.int ((((qi3 >>> ((8 : Int32) &&& 31)))).toInt8.toInt32)), (.int ((((qi4 >>> ((0 : Int32) &&& 31)))).toInt8.toInt32)), (.int ((((qi4 >>> ((8 : Int32) &&& 31)))).toInt8.toInt32)), .int 0, .int 0] (.int 0) := w20
 have A24_ := A16_.keep K18q (ninS (Nat.ne_of_lt (Nat.lt_of_lt_of_le A_qa1.lt w4)) nin0)
 have av23 := A24_
 obtain ⟨cl23, Ar23, q23, S23, N23, H23, Gf23⟩ := av23
 have hin25 : ¬ ((2 : Int32) < 0 ∨ cl23.slots.size ≤ ((2 : Int32) : Int32).toNatClampNeg) := inb_of S23 (by decide)
 have hat25 : cl23.slots[((2 : Int32) : Int32).toNatClampNeg]? = some (.int qi5) := Has.at H23 hin25 rfl
 have O27 := O19.keep K18q (allS g_b2 all0)
 obtain ⟨_, T26, L26, X26, hQ26, st26⟩ := own_cS 1 6 [] 20 #[rv qa1, iv 2, iv 3, rv b2, iv 2] X18 hx hZ hown (w52_ hw) (w53_ hw) (w22_ hw) (w54_ hw) (rm54 l Z a0 hw  b2 (2 : Int32) qi5 c3_ ((((qi3 >>> ((0 : Int32) &&& 31)))).toInt8.toInt32) ((((qi3 >>> ((8 : Int32) &&& 31)))).toInt8.toInt32) ((((qi4 >>> ((0 : Int32) &&& 31)))).toInt8.toInt32) ((((qi4 >>> ((8 : Int32) &&& 31)))).toInt8.toInt32) (0 : Int32) (0 : Int32) T18.heap n0 O27 uS12 uS15 uS18 A22_ (by decide) (by decide) g_b2) pd9 hml.symm (hb hby d7_20) rfl rfl rfl rfl rfl (by decide)
 obtain ⟨rfl, N26q, K26q, w28⟩ := hQ26
 have N26 := Fr.app N18 N26q
 have K29 := K21.trans K26q (allS (Or.inr sz_b2) all0)
 have A30_ : Arv Z T26.heap b2 c3_ .byte (6 : Int32) [(.int ((((qi3 >>> ((0 : Int32) &&& 31)))).toInt8.toInt32)), (.int ((((qi3 >>> ((8 : Int32) &&& 31)))).toInt8.toInt32)), (.int ((((qi4 >>> ((0 : Int32) &&& 31)))).toInt8.toInt32)), (.int ((((qi4 >>> ((8 : Int32) &&& 31)))).toInt8.toInt32)), (.int ((((qi5 >>> ((0 : Int32) &&& 31)))).toInt8.toInt32)), (.int ((((qi5 >>> ((8 : Int32) &&& 31)))).toInt8.toInt32))] (.int 0) := w28
 refine own_lvF X26 Bd (.ref b2) rfl ⟨b2, c3_, rfl, N26, K29, sz_b2, A30_⟩ rfl (fun fs hr => pre0 _ (by
  show Sx p e below s₁ m 0 #[rv qa1, iv 0, iv 3, .unset, .unset] [] _
  refine zj X0 Bd d7_0 rfl ?_
  refine st1 _ ?_
  refine XS.astoreN X1.here hx rfl (hb hby d7_4) rfl rfl (l' := #[rv qa1, iv 0, iv 3, rv b2, .unset]) rfl ?_
  refine zc X1 Bd d7_5 ?_
  refine zs X1 Bd d7_6 (l' := #[rv qa1, iv 0, iv 3, rv b2, iv 0]) rfl ?_
  refine zi X1 Bd d7_8 rfl ?_
  refine zj X1 Bd d7_10 rfl ?_
  refine zn X1 Bd d7_11 (XT.ii_ge_f ((by decide) : (0 : Int32) < (3 : Int32))) ?_
  refine zb X1 Bd d7_14 rfl rfl ?_
  refine zi X1 Bd d7_15 rfl ?_
  refine zb X1 Bd d7_17 rfl rfl ?_
  refine zj X1 Bd d7_18 rfl ?_
  refine X1.caload hx (j := (0 : Int32)) (v := (.int qi3)) Ar7.1 (State.isArrayOf_alike hZ.alike Ar7.2.1) Ar7.2.2 hin9 hat9 (g := (mkF m 19 #[rv qa1, iv 0, iv 3, rv b2, iv 0] [.int 0, .ref qa1, .int 0, .ref b2])) rfl rfl (hb hby d7_19) _ ?_
  refine st10 _ ?_
  refine XS.iinc X10.here hx rfl (hb hby d7_23) rfl (l' := #[rv qa1, iv 1, iv 3, rv b2, iv 0]) rfl ?_
  refine XS.iinc X10.here hx rfl (hb hby d7_26) rfl (l' := #[rv qa1, iv 1, iv 3, rv b2, iv 1]) rfl ?_
  refine zg (pc' := 8) X10 Bd d7_29 rfl ?_
  refine zi X10 Bd d7_8 rfl ?_
  refine zj X10 Bd d7_10 rfl ?_
  refine zn X10 Bd d7_11 (XT.ii_ge_f ((by decide) : (1 : Int32) < (3 : Int32))) ?_
  refine zb X10 Bd d7_14 rfl rfl ?_
  refine zi X10 Bd d7_15 rfl ?_
  refine zb X10 Bd d7_17 rfl rfl ?_
  refine zj X10 Bd d7_18 rfl ?_
  refine X10.caload hx (j := (1 : Int32)) (v := (.int qi4)) Ar15.1 (State.isArrayOf_alike hZ.alike Ar15.2.1) Ar15.2.2 hin17 hat17 (g := (mkF m 19 #[rv qa1, iv 1, iv 3, rv b2, iv 1] [.int 1, .ref qa1, .int 1, .ref b2])) rfl rfl (hb hby d7_19) _ ?_
  show Sx p e below T10 m 20 #[rv qa1, iv 1, iv 3, rv b2, iv 1] [.int qi4, .int 1, .ref b2] _
  refine st18 _ ?_
  refine XS.iinc X18.here hx rfl (hb hby d7_23) rfl (l' := #[rv qa1, iv 2, iv 3, rv b2, iv 1]) rfl ?_
  refine XS.iinc X18.here hx rfl (hb hby d7_26) rfl (l' := #[rv qa1, iv 2, iv 3, rv b2, iv 2]) rfl ?_
  refine zg (pc' := 8) X18 Bd d7_29 rfl ?_
  refine zi X18 Bd d7_8 rfl ?_
  refine zj X18 Bd d7_10 rfl ?_
  refine zn X18 Bd d7_11 (XT.ii_ge_f ((by decide) : (2 : Int32) < (3 : Int32))) ?_
  refine zb X18 Bd d7_14 rfl rfl ?_
  refine zi X18 Bd d7_15 rfl ?_
  refine zb X18 Bd d7_17 rfl rfl ?_
  refine zj X18 Bd d7_18 rfl ?_
  refine X18.caload hx (j := (2 : Int32)) (v := (.int qi5)) Ar23.1 (State.isArrayOf_alike hZ.alike Ar23.2.1) Ar23.2.2 hin25 hat25 (g := (mkF m 19 #[rv qa1, iv 2, iv 3, rv b2, iv 2] [.int 2, .ref qa1, .int 2, .ref b2])) rfl rfl (hb hby d7_19) _ ?_
  refine st26 _ ?_
  refine XS.iinc X26.here hx rfl (hb hby d7_23) rfl (l' := #[rv qa1, iv 3, iv 3, rv b2, iv 2]) rfl ?_
  refine XS.iinc X26.here hx rfl (hb hby d7_26) rfl (l' := #[rv qa1, iv 3, iv 3, rv b2, iv 3]) rfl ?_
  refine zg (pc' := 8) X26 Bd d7_29 rfl ?_
  refine zi X26 Bd d7_8 rfl ?_
  refine zj X26 Bd d7_10 rfl ?_
  refine zy (pc' := 32) X26 Bd d7_11 (XT.ii_ge_t ((by decide) : ¬ ((3 : Int32) < (3 : Int32)))) rfl ?_
  refine zb X26 Bd d7_32 rfl rfl ?_
  exact retOut X26 hx Bd.returns rfl (Or.inr (Or.inr (Or.inr (Or.inr ⟨rfl, rfl, rfl⟩)))) (hb hby d7_33) hr))
-- java/lang/StringUTF16.getChar([BI)C
def Q56 (Z : State) (qi2 : Int32) (qi4 : Int32) (qi5 : Int32) (qi6 : Int32) (qi7 : Int32) (qi8 : Int32) (qi9 : Int32) (h0 : Heap) (n0 : Nat) (v : Option Value) (h : Heap) (L : List Loc) : Prop := v = some (.int (((((((own_at ([qi4, qi5, qi6, qi7, qi8, qi9] : List Int32) ((qi2 <<< ((1 : Int32) &&& 31)))) &&& (255 : Int32)) <<< ((0 : Int32) &&& 31))) ||| ((((own_at ([qi4, qi5, qi6, qi7, qi8, qi9] : List Int32) (((qi2 <<< ((1 : Int32) &&& 31))) + (1 : Int32))) &&& (255 : Int32)) <<< ((8 : Int32) &&& 31))))).toUInt32.toUInt16.toUInt32.toInt32)) ∧ Fr n0 L ∧ h = h0
theorem rm56 (l : Launch) (Z : State) (a0 : Array Value) (hw : HW a0 Z) (qa1 : Addr) (qi2 : Int32) (qk3 : ClassId) (qi4 : Int32) (qi5 : Int32) (qi6 : Int32) (qi7 : Int32) (qi8 : Int32) (qi9 : Int32) (h0 : Heap) (n0 : Nat) (X00 : Old Z n0 h0) (uS12 : Sta Z Z.heap "java/lang/StringUTF16" "$assertionsDisabled" "Z" (.int 1)) (uS15 : Sta Z Z.heap "java/lang/StringUTF16" "HI_BYTE_SHIFT" "I" (.int 0)) (uS18 : Sta Z Z.heap "java/lang/StringUTF16" "LO_BYTE_SHIFT" "I" (.int 8)) (A_qa1 : Arv Z h0 qa1 qk3 .byte (6 : Int32) [.int qi4, .int qi5, .int qi6, .int qi7, .int qi8, .int qi9] (.int 0)) (hc3 : ¬ (qi2 < (0 : Int32))) (hc4 : qi2 < (3 : Int32)) :
    MF l Z Y11_ jdk_52_method_5_code 2 (some .char) (Rm 0 0 0 0) #[.ref qa1, .int qi2] h0 (Q56 Z qi2 qi4 qi5 qi6 qi7 qi8 qi9 h0 n0) := by
 refine own_sF pn3 rfl (fun m => ef10 m qa1 qi2) ?_
 intro p e s m below meth c s₁ Bd hZ hh hx hby hml hown hnm X0 e0 pre0
 have N0 := Fr.nil n0
 obtain ⟨T1, X1, e1, st1⟩ := getS2 X0 hx hZ hown (host := "") (Or.inl (w55_ hw)) Via.refl e0 (uS12.ext X00.2) (g := (mkF m 0 #[rv qa1, iv qi2] [])) rfl (hb hby d11_0)
 have A2_ : Arv Z h0 qa1 qk3 .byte (6 : Int32) (([qi4, qi5, qi6, qi7, qi8, qi9] : List Int32).map Value.int) (.int 0) := A_qa1
 have av5 := A2_
 obtain ⟨cl5, Ar5, q5, S5, N5, H5, Gf5⟩ := av5
 have hin6 : ¬ (((qi2 <<< ((1 : Int32) &&& 31))) < 0 ∨ cl5.slots.size ≤ (((qi2 <<< ((1 : Int32) &&& 31))) : Int32).toNatClampNeg) := inb_of S5 (own_shla3 hc3 hc4)
 have hat6 : cl5.slots[(((qi2 <<< ((1 : Int32) &&& 31))) : Int32).toNatClampNeg]? = some (.int (own_at ([qi4, qi5, qi6, qi7, qi8, qi9] : List Int32) ((qi2 <<< ((1 : Int32) &&& 31))))) := Has.at H5 hin6 (own_atV _ _)
 obtain ⟨T7, X7, e7, st7⟩ := getS2 X1 hx hZ hown (host := "") (Or.inl (w56_ hw)) Via.refl e1 (uS15.ext X00.2) (g := (mkF m 42 #[rv qa1, iv (((qi2 <<< ((1 : Int32) &&& 31))) + (1 : Int32))] [(.int ((own_at ([qi4, qi5, qi6, qi7, qi8, qi9] : List Int32) ((qi2 <<< ((1 : Int32) &&& 31)))) &&& (255 : Int32)))])) rfl (hb hby d11_42)
 have av8 := A2_
 obtain ⟨cl8, Ar8, q8, S8, N8, H8, Gf8⟩ := av8
 have hin9 : ¬ ((((qi2 <<< ((1 : Int32) &&& 31))) + (1 : Int32)) < 0 ∨ cl8.slots.size ≤ ((((qi2 <<< ((1 : Int32) &&& 31))) + (1 : Int32)) : Int32).toNatClampNeg) := inb_of S8 (own_shlb3 hc3 hc4)
 have hat9 : cl8.slots[((((qi2 <<< ((1 : Int32) &&& 31))) + (1 : Int32)) : Int32).toNatClampNeg]? = some (.int (own_at ([qi4, qi5, qi6, qi7, qi8, qi9] : List Int32) (((qi2 <<< ((1 : Int32) &&& 31))) + (1 : Int32)))) := Has.at H8 hin9 (own_atV _ _)
 obtain ⟨T10, X10, e10, st10⟩ := getS2 X7 hx hZ hown (host := "") (Or.inl (w57_ hw)) Via.refl e7 (uS18.ext X00.2) (g := (mkF m 53 #[rv qa1, iv (((qi2 <<< ((1 : Int32) &&& 31))) + (1 : Int32))] [(.int ((own_at ([qi4, qi5, qi6, qi7, qi8, qi9] : List Int32) (((qi2 <<< ((1 : Int32) &&& 31))) + (1 : Int32))) &&& (255 : Int32))), (.int ((((own_at ([qi4, qi5, qi6, qi7, qi8, qi9] : List Int32) ((qi2 <<< ((1 : Int32) &&& 31)))) &&& (255 : Int32)) <<< ((0 : Int32) &&& 31))))])) rfl (hb hby d11_53)
 refine own_lvF X10 Bd (.int (nar .char (((((((own_at ([qi4, qi5, qi6, qi7, qi8, qi9] : List Int32) ((qi2 <<< ((1 : Int32) &&& 31)))) &&& (255 : Int32)) <<< ((0 : Int32) &&& 31))) ||| ((((own_at ([qi4, qi5, qi6, qi7, qi8, qi9] : List Int32) (((qi2 <<< ((1 : Int32) &&& 31))) + (1 : Int32))) &&& (255 : Int32)) <<< ((8 : Int32) &&& 31))))).toUInt32.toUInt16.toUInt32.toInt32))) e10 ⟨(congrArg (fun z => some (Value.int z)) (own_nar_i2c _)), N0, rfl⟩ rfl (fun fs hr => pre0 _ (by
  show Sx p e below s₁ m 0 #[rv qa1, iv qi2] [] _
  refine st1 _ ?_
  refine zp (pc' := 28) X1 Bd d11_3 (XT.i0_ne_t ((by decide) : ¬ ((1 : Int32) = (0 : Int32)))) rfl ?_
  refine zj X1 Bd d11_28 rfl ?_
  refine zc X1 Bd d11_29 ?_
  refine XS.ishl X1.here hx rfl (hb hby d11_30) rfl ?_
  refine zt X1 Bd d11_31 (l' := #[rv qa1, iv ((qi2 <<< ((1 : Int32) &&& 31)))]) rfl ?_
  refine zb X1 Bd d11_32 rfl rfl ?_
  refine zj X1 Bd d11_33 rfl ?_
  refine XS.iinc X1.here hx rfl (hb hby d11_34) rfl (l' := #[rv qa1, iv (((qi2 <<< ((1 : Int32) &&& 31))) + (1 : Int32))]) rfl ?_
  refine X1.baloadBytes hx (j := ((qi2 <<< ((1 : Int32) &&& 31)))) (v := (.int (own_at ([qi4, qi5, qi6, qi7, qi8, qi9] : List Int32) ((qi2 <<< ((1 : Int32) &&& 31)))))) (by rw [e1]; exact Ar5.1) (State.isArrayOf_alike hZ.alike Ar5.2.1) Ar5.2.2 hin6 hat6 (g := (mkF m 37 #[rv qa1, iv (((qi2 <<< ((1 : Int32) &&& 31))) + (1 : Int32))] [(.int ((qi2 <<< ((1 : Int32) &&& 31)))), .ref qa1])) rfl rfl (hb hby d11_37) _ ?_
  refine XS.sipush X1.here hx rfl (hb hby d11_38) ?_
  refine XS.iand X1.here hx rfl (hb hby d11_41) rfl ?_
  refine st7 _ ?_
  refine XS.ishl X7.here hx rfl (hb hby d11_45) rfl ?_
  refine zb X7 Bd d11_46 rfl rfl ?_
  refine zj X7 Bd d11_47 rfl ?_
  refine X7.baloadBytes hx (j := (((qi2 <<< ((1 : Int32) &&& 31))) + (1 : Int32))) (v := (.int (own_at ([qi4, qi5, qi6, qi7, qi8, qi9] : List Int32) (((qi2 <<< ((1 : Int32) &&& 31))) + (1 : Int32))))) (by rw [e7]; exact Ar8.1) (State.isArrayOf_alike hZ.alike Ar8.2.1) Ar8.2.2 hin9 hat9 (g := (mkF m 48 #[rv qa1, iv (((qi2 <<< ((1 : Int32) &&& 31))) + (1 : Int32))] [(.int (((qi2 <<< ((1 : Int32) &&& 31))) + (1 : Int32))), .ref qa1, (.int ((((own_at ([qi4, qi5, qi6, qi7, qi8, qi9] : List Int32) ((qi2 <<< ((1 : Int32) &&& 31)))) &&& (255 : Int32)) <<< ((0 : Int32) &&& 31))))])) rfl rfl (hb hby d11_48) _ ?_
  refine XS.sipush X7.here hx rfl (hb hby d11_49) ?_
  refine XS.iand X7.here hx rfl (hb hby d11_52) rfl ?_
  refine st10 _ ?_
  refine XS.ishl X10.here hx rfl (hb hby d11_56) rfl ?_
  refine XS.ior X10.here hx rfl (hb hby d11_57) rfl ?_
  refine XS.i2c X10.here hx rfl (hb hby d11_58) rfl ?_
  exact retN X10 hx (t := .char) Bd.returns (by simp) (hb hby d11_59) hr))
-- java/lang/StringUTF16.compress([CI[BII)I
def Q57 (Z : State) (qa2 : Addr) (qi4 : Int32) (qk7 : ClassId) (h0 : Heap) (n0 : Nat) (v : Option Value) (h : Heap) (L : List Loc) : Prop := v = some (.int 1) ∧ Fr n0 L ∧ Keep h0 h [qa2] ∧ Arv Z h qa2 qk7 .byte (3 : Int32) [(.int ((qi4).toInt8.toInt32)), .int 0, .int 0] (.int 0)
theorem rm57 (l : Launch) (Z : State) (a0 : Array Value) (hw : HW a0 Z) (qa1 : Addr) (qa2 : Addr) (qk3 : ClassId) (qi4 : Int32) (qi5 : Int32) (qi6 : Int32) (qk7 : ClassId) (h0 : Heap) (n0 : Nat) (X00 : Old Z n0 h0) (A_qa1 : Arv Z h0 qa1 qk3 .char (3 : Int32) [.int qi4, .int qi5, .int qi6] (.int 0)) (hc3 : ¬ ((255 : Int32) < qi4)) (A_qa2 : Arv Z h0 qa2 qk7 .byte (3 : Int32) [.int 0, .int 0, .int 0] (.int 0)) (g_qa2 : n0 ≤ qa2) (ne_qa1_qa2 : qa1 ≠ qa2) (hc11 : (255 : Int32) < qi5) :
    MF l Z Y6_ jdk_52_method_21_code 7 (some .int) (Rm 0 0 0 0) #[.ref qa1, .int 0, .ref qa2, .int 0, .int 3] h0 (Q57 Z qa2 qi4 qk7 h0 n0) := by
 refine own_sF pn3 rfl (fun m => ef7 m qa1 (0 : Int32) qa2 (0 : Int32) (3 : Int32)) ?_
 intro p e s m below meth c s₁ Bd hZ hh hx hby hml hown hnm X0 e0 pre0
 have N0 := Fr.nil n0
 have av1 := A_qa1
 obtain ⟨cl1, Ar1, q1, S1, N1, H1, Gf1⟩ := av1
 have hin2 : ¬ ((0 : Int32) < 0 ∨ cl1.slots.size ≤ ((0 : Int32) : Int32).toNatClampNeg) := inb_of S1 (by decide)
 have hat2 : cl1.slots[((0 : Int32) : Int32).toNatClampNeg]? = some (.int qi4) := Has.at H1 hin2 rfl
 have av4 := A_qa2
 obtain ⟨cl4, Ar4, q4, S4, N4, H4, Gf4⟩ := av4
 have hin5 : ¬ ((0 : Int32) < 0 ∨ cl4.slots.size ≤ ((0 : Int32) : Int32).toNatClampNeg) := inb_of S4 (by decide)
 obtain ⟨T5, h5, X5, e5, W5, st5⟩ := stB X0 hx hZ e0 Ar4 (j := (0 : Int32)) hin5 (g := (mkF m 31 #[rv qa1, iv 0, rv qa2, iv 0, iv 3, iv 0, iv qi4] [(.int ((qi4).toInt8.toInt32)), .int 0, .ref qa2])) rfl rfl (hb hby d6_31)
 have N5_ := Fr.snoc X5 N0 g_qa2
 have K6 := (Keep.refl h0 [qa2]).wr W5 (Or.inl (mI 0 rfl))
 have A7_ : Arv Z h5 qa2 qk7 .byte (3 : Int32) [(.int ((qi4).toInt8.toInt32)), .int 0, .int 0] (.int 0) := by have q := Arv.set (v := .int (nar .byte ((qi4).toInt8.toInt32))) Ar4 q4 S4 N4 H4 Gf4 (fits_nar_byte _) W5 0 (by decide) (lE rfl); rw [((own_nar_i2b _) : nar .byte ((qi4).toInt8.toInt32) = ((qi4).toInt8.toInt32))] at q; exact q
 have A9_ := A_qa1.other W5 ne_qa1_qa2
 have av8 := A9_
 obtain ⟨cl8, Ar8, q8, S8, N8, H8, Gf8⟩ := av8
 have hin10 : ¬ ((1 : Int32) < 0 ∨ cl8.slots.size ≤ ((1 : Int32) : Int32).toNatClampNeg) := inb_of S8 (by decide)
 have hat10 : cl8.slots[((1 : Int32) : Int32).toNatClampNeg]? = some (.int qi5) := Has.at H8 hin10 rfl
 refine own_lvF X5 Bd (.int 1) e5 ⟨rfl, N5_, K6, A7_⟩ rfl (fun fs hr => pre0 _ (by
  show Sx p e below s₁ m 0 #[rv qa1, iv 0, rv qa2, iv 0, iv 3, .unset, .unset] [] _
  refine zc X0 Bd d6_0 ?_
  refine zs X0 Bd d6_1 (l' := #[rv qa1, iv 0, rv qa2, iv 0, iv 3, iv 0, .unset]) rfl ?_
  refine zi X0 Bd d6_3 rfl ?_
  refine zi X0 Bd d6_5 rfl ?_
  refine zn X0 Bd d6_7 (XT.ii_ge_f ((by decide) : (0 : Int32) < (3 : Int32))) ?_
  refine zb X0 Bd d6_10 rfl rfl ?_
  refine zj X0 Bd d6_11 rfl ?_
  refine X0.caload hx (j := (0 : Int32)) (v := (.int qi4)) (by rw [e0]; exact Ar1.1) (State.isArrayOf_alike hZ.alike Ar1.2.1) Ar1.2.2 hin2 hat2 (g := (mkF m 12 #[rv qa1, iv 0, rv qa2, iv 0, iv 3, iv 0, .unset] [.int 0, .ref qa1])) rfl rfl (hb hby d6_12) _ ?_
  refine zs X0 Bd d6_13 (l' := #[rv qa1, iv 0, rv qa2, iv 0, iv 3, iv 0, iv qi4]) rfl ?_
  refine zi X0 Bd d6_15 rfl ?_
  refine XS.sipush X0.here hx rfl (hb hby d6_17) ?_
  refine zy (pc' := 26) X0 Bd d6_20 (XT.ii_le_t (hc3 : ¬ ((255 : Int32) < qi4))) rfl ?_
  refine zb X0 Bd d6_26 rfl rfl ?_
  refine zj X0 Bd d6_27 rfl ?_
  refine zi X0 Bd d6_28 rfl ?_
  refine XS.i2b X0.here hx rfl (hb hby d6_30) rfl ?_
  refine st5 _ ?_
  refine XS.iinc X5.here hx rfl (hb hby d6_32) rfl (l' := #[rv qa1, iv 1, rv qa2, iv 0, iv 3, iv 0, iv qi4]) rfl ?_
  refine XS.iinc X5.here hx rfl (hb hby d6_35) rfl (l' := #[rv qa1, iv 1, rv qa2, iv 1, iv 3, iv 0, iv qi4]) rfl ?_
  refine XS.iinc X5.here hx rfl (hb hby d6_38) rfl (l' := #[rv qa1, iv 1, rv qa2, iv 1, iv 3, iv 1, iv qi4]) rfl ?_
  refine zg (pc' := 3) X5 Bd d6_41 rfl ?_
  refine zi X5 Bd d6_3 rfl ?_
  refine zi X5 Bd d6_5 rfl ?_
  refine zn X5 Bd d6_7 (XT.ii_ge_f ((by decide) : (1 : Int32) < (3 : Int32))) ?_
  refine zb X5 Bd d6_10 rfl rfl ?_
  show Sx p e below T5 m 11 #[rv qa1, iv 1, rv qa2, iv 1, iv 3, iv 1, iv qi4] [.ref qa1] _
  refine zj X5 Bd d6_11 rfl ?_
  refine X5.caload hx (j := (1 : Int32)) (v := (.int qi5)) (by rw [e5]; exact Ar8.1) (State.isArrayOf_alike hZ.alike Ar8.2.1) Ar8.2.2 hin10 hat10 (g := (mkF m 12 #[rv qa1, iv 1, rv qa2, iv 1, iv 3, iv 1, iv qi4] [.int 1, .ref qa1])) rfl rfl (hb hby d6_12) _ ?_
  refine zs X5 Bd d6_13 (l' := #[rv qa1, iv 1, rv qa2, iv 1, iv 3, iv 1, iv qi5]) rfl ?_
  refine zi X5 Bd d6_15 rfl ?_
  refine XS.sipush X5.here hx rfl (hb hby d6_17) ?_
  refine zn X5 Bd d6_20 (XT.ii_le_f (hc11 : (255 : Int32) < qi5)) ?_
  refine zi X5 Bd d6_23 rfl ?_
  exact retI X5 hx Bd.returns (hb hby d6_25) hr))
-- java/lang/StringUTF16.compress([CI[BII)I
def Q58 (Z : State) (qa2 : Addr) (qi4 : Int32) (qi5 : Int32) (qk7 : ClassId) (h0 : Heap) (n0 : Nat) (v : Option Value) (h : Heap) (L : List Loc) : Prop := v = some (.int 2) ∧ Fr n0 L ∧ Keep h0 h [qa2] ∧ Arv Z h qa2 qk7 .byte (3 : Int32) [(.int ((qi4).toInt8.toInt32)), (.int ((qi5).toInt8.toInt32)), .int 0] (.int 0)
theorem rm58 (l : Launch) (Z : State) (a0 : Array Value) (hw : HW a0 Z) (qa1 : Addr) (qa2 : Addr) (qk3 : ClassId) (qi4 : Int32) (qi5 : Int32) (qi6 : Int32) (qk7 : ClassId) (h0 : Heap) (n0 : Nat) (X00 : Old Z n0 h0) (A_qa1 : Arv Z h0 qa1 qk3 .char (3 : Int32) [.int qi4, .int qi5, .int qi6] (.int 0)) (hc3 : ¬ ((255 : Int32) < qi4)) (A_qa2 : Arv Z h0 qa2 qk7 .byte (3 : Int32) [.int 0, .int 0, .int 0] (.int 0)) (g_qa2 : n0 ≤ qa2) (ne_qa1_qa2 : qa1 ≠ qa2) (hc11 : ¬ ((255 : Int32) < qi5)) (hc19 : (255 : Int32) < qi6) :
    MF l Z Y6_ jdk_52_method_21_code 7 (some .int) (Rm 0 0 0 0) #[.ref qa1, .int 0, .ref qa2, .int 0, .int 3] h0 (Q58 Z qa2 qi4 qi5 qk7 h0 n0) := by
 refine own_sF pn3 rfl (fun m => ef7 m qa1 (0 : Int32) qa2 (0 : Int32) (3 : Int32)) ?_
 intro p e s m below meth c s₁ Bd hZ hh hx hby hml hown hnm X0 e0 pre0
 have N0 := Fr.nil n0
 have av1 := A_qa1
 obtain ⟨cl1, Ar1, q1, S1, N1, H1, Gf1⟩ := av1
 have hin2 : ¬ ((0 : Int32) < 0 ∨ cl1.slots.size ≤ ((0 : Int32) : Int32).toNatClampNeg) := inb_of S1 (by decide)
 have hat2 : cl1.slots[((0 : Int32) : Int32).toNatClampNeg]? = some (.int qi4) := Has.at H1 hin2 rfl
 have av4 := A_qa2
 obtain ⟨cl4, Ar4, q4, S4, N4, H4, Gf4⟩ := av4
 have hin5 : ¬ ((0 : Int32) < 0 ∨ cl4.slots.size ≤ ((0 : Int32) : Int32).toNatClampNeg) := inb_of S4 (by decide)
 obtain ⟨T5, h5, X5, e5, W5, st5⟩ := stB X0 hx hZ e0 Ar4 (j := (0 : Int32)) hin5 (g := (mkF m 31 #[rv qa1, iv 0, rv qa2, iv 0, iv 3, iv 0, iv qi4] [(.int ((qi4).toInt8.toInt32)), .int 0, .ref qa2])) rfl rfl (hb hby d6_31)
 have N5_ := Fr.snoc X5 N0 g_qa2
 have K6 := (Keep.refl h0 [qa2]).wr W5 (Or.inl (mI 0 rfl))
 have A7_ : Arv Z h5 qa2 qk7 .byte (3 : Int32) [(.int ((qi4).toInt8.toInt32)), .int 0, .int 0] (.int 0) := by have q := Arv.set (v := .int (nar .byte ((qi4).toInt8.toInt32))) Ar4 q4 S4 N4 H4 Gf4 (fits_nar_byte _) W5 0 (by decide) (lE rfl); rw [((own_nar_i2b _) : nar .byte ((qi4).toInt8.toInt32) = ((qi4).toInt8.toInt32))] at q; exact q
 have A9_ := A_qa1.other W5 ne_qa1_qa2
 have av8 := A9_
 obtain ⟨cl8, Ar8, q8, S8, N8, H8, Gf8⟩ := av8
 have hin10 : ¬ ((1 : Int32) < 0 ∨ cl8.slots.size ≤ ((1 : Int32) : Int32).toNatClampNeg) := inb_of S8 (by decide)
 have hat10 : cl8.slots[((1 : Int32) : Int32).toNatClampNeg]? = some (.int qi5) := Has.at H8 hin10 rfl
 have av12 := A7_
 obtain ⟨cl12, Ar12, q12, S12, N12, H12, Gf12⟩ := av12
 have hin13 : ¬ ((1 : Int32) < 0 ∨ cl12.slots.size ≤ ((1 : Int32) : Int32).toNatClampNeg) := inb_of S12 (by decide)
 obtain ⟨T13, h13, X13, e13, W13, st13⟩ := stB X5 hx hZ e5 Ar12 (j := (1 : Int32)) hin13 (g := (mkF m 31 #[rv qa1, iv 1, rv qa2, iv 1, iv 3, iv 1, iv qi5] [(.int ((qi5).toInt8.toInt32)), .int 1, .ref qa2])) rfl rfl (hb hby d6_31)
 have N13_ := Fr.snoc X13 N5_ g_qa2
 have K14 := K6.wr W13 (Or.inl (mI 0 rfl))
 have A15_ : Arv Z h13 qa2 qk7 .byte (3 : Int32) [(.int ((qi4).toInt8.toInt32)), (.int ((qi5).toInt8.toInt32)), .int 0] (.int 0) := by have q := Arv.set (v := .int (nar .byte ((qi5).toInt8.toInt32))) Ar12 q12 S12 N12 H12 Gf12 (fits_nar_byte _) W13 1 (by decide) (lE rfl); rw [((own_nar_i2b _) : nar .byte ((qi5).toInt8.toInt32) = ((qi5).toInt8.toInt32))] at q; exact q
 have A17_ := A9_.other W13 ne_qa1_qa2
 have av16 := A17_
 obtain ⟨cl16, Ar16, q16, S16, N16, H16, Gf16⟩ := av16
 have hin18 : ¬ ((2 : Int32) < 0 ∨ cl16.slots.size ≤ ((2 : Int32) : Int32).toNatClampNeg) := inb_of S16 (by decide)
 have hat18 : cl16.slots[((2 : Int32) : Int32).toNatClampNeg]? = some (.int qi6) := Has.at H16 hin18 rfl
 refine own_lvF X13 Bd (.int 2) e13 ⟨rfl, N13_, K14, A15_⟩ rfl (fun fs hr => pre0 _ (by
  show Sx p e below s₁ m 0 #[rv qa1, iv 0, rv qa2, iv 0, iv 3, .unset, .unset] [] _
  refine zc X0 Bd d6_0 ?_
  refine zs X0 Bd d6_1 (l' := #[rv qa1, iv 0, rv qa2, iv 0, iv 3, iv 0, .unset]) rfl ?_
  refine zi X0 Bd d6_3 rfl ?_
  refine zi X0 Bd d6_5 rfl ?_
  refine zn X0 Bd d6_7 (XT.ii_ge_f ((by decide) : (0 : Int32) < (3 : Int32))) ?_
  refine zb X0 Bd d6_10 rfl rfl ?_
  refine zj X0 Bd d6_11 rfl ?_
  refine X0.caload hx (j := (0 : Int32)) (v := (.int qi4)) (by rw [e0]; exact Ar1.1) (State.isArrayOf_alike hZ.alike Ar1.2.1) Ar1.2.2 hin2 hat2 (g := (mkF m 12 #[rv qa1, iv 0, rv qa2, iv 0, iv 3, iv 0, .unset] [.int 0, .ref qa1])) rfl rfl (hb hby d6_12) _ ?_
  refine zs X0 Bd d6_13 (l' := #[rv qa1, iv 0, rv qa2, iv 0, iv 3, iv 0, iv qi4]) rfl ?_
  refine zi X0 Bd d6_15 rfl ?_
  refine XS.sipush X0.here hx rfl (hb hby d6_17) ?_
  refine zy (pc' := 26) X0 Bd d6_20 (XT.ii_le_t (hc3 : ¬ ((255 : Int32) < qi4))) rfl ?_
  refine zb X0 Bd d6_26 rfl rfl ?_
  refine zj X0 Bd d6_27 rfl ?_
  refine zi X0 Bd d6_28 rfl ?_
  refine XS.i2b X0.here hx rfl (hb hby d6_30) rfl ?_
  refine st5 _ ?_
  refine XS.iinc X5.here hx rfl (hb hby d6_32) rfl (l' := #[rv qa1, iv 1, rv qa2, iv 0, iv 3, iv 0, iv qi4]) rfl ?_
  refine XS.iinc X5.here hx rfl (hb hby d6_35) rfl (l' := #[rv qa1, iv 1, rv qa2, iv 1, iv 3, iv 0, iv qi4]) rfl ?_
  refine XS.iinc X5.here hx rfl (hb hby d6_38) rfl (l' := #[rv qa1, iv 1, rv qa2, iv 1, iv 3, iv 1, iv qi4]) rfl ?_
  refine zg (pc' := 3) X5 Bd d6_41 rfl ?_
  refine zi X5 Bd d6_3 rfl ?_
  refine zi X5 Bd d6_5 rfl ?_
  refine zn X5 Bd d6_7 (XT.ii_ge_f ((by decide) : (1 : Int32) < (3 : Int32))) ?_
  refine zb X5 Bd d6_10 rfl rfl ?_
  show Sx p e below T5 m 11 #[rv qa1, iv 1, rv qa2, iv 1, iv 3, iv 1, iv qi4] [.ref qa1] _
  refine zj X5 Bd d6_11 rfl ?_
  refine X5.caload hx (j := (1 : Int32)) (v := (.int qi5)) (by rw [e5]; exact Ar8.1) (State.isArrayOf_alike hZ.alike Ar8.2.1) Ar8.2.2 hin10 hat10 (g := (mkF m 12 #[rv qa1, iv 1, rv qa2, iv 1, iv 3, iv 1, iv qi4] [.int 1, .ref qa1])) rfl rfl (hb hby d6_12) _ ?_
  refine zs X5 Bd d6_13 (l' := #[rv qa1, iv 1, rv qa2, iv 1, iv 3, iv 1, iv qi5]) rfl ?_
  refine zi X5 Bd d6_15 rfl ?_
  refine XS.sipush X5.here hx rfl (hb hby d6_17) ?_
  refine zy (pc' := 26) X5 Bd d6_20 (XT.ii_le_t (hc11 : ¬ ((255 : Int32) < qi5))) rfl ?_
  refine zb X5 Bd d6_26 rfl rfl ?_
  refine zj X5 Bd d6_27 rfl ?_
  refine zi X5 Bd d6_28 rfl ?_
  refine XS.i2b X5.here hx rfl (hb hby d6_30) rfl ?_
  refine st13 _ ?_
  refine XS.iinc X13.here hx rfl (hb hby d6_32) rfl (l' := #[rv qa1, iv 2, rv qa2, iv 1, iv 3, iv 1, iv qi5]) rfl ?_
  refine XS.iinc X13.here hx rfl (hb hby d6_35) rfl (l' := #[rv qa1, iv 2, rv qa2, iv 2, iv 3, iv 1, iv qi5]) rfl ?_
  refine XS.iinc X13.here hx rfl (hb hby d6_38) rfl (l' := #[rv qa1, iv 2, rv qa2, iv 2, iv 3, iv 2, iv qi5]) rfl ?_
  refine zg (pc' := 3) X13 Bd d6_41 rfl ?_
  refine zi X13 Bd d6_3 rfl ?_
  refine zi X13 Bd d6_5 rfl ?_
  refine zn X13 Bd d6_7 (XT.ii_ge_f ((by decide) : (2 : Int32) < (3 : Int32))) ?_
  refine zb X13 Bd d6_10 rfl rfl ?_
  refine zj X13 Bd d6_11 rfl ?_
  refine X13.caload hx (j := (2 : Int32)) (v := (.int qi6)) (by rw [e13]; exact Ar16.1) (State.isArrayOf_alike hZ.alike Ar16.2.1) Ar16.2.2 hin18 hat18 (g := (mkF m 12 #[rv qa1, iv 2, rv qa2, iv 2, iv 3, iv 2, iv qi5] [.int 2, .ref qa1])) rfl rfl (hb hby d6_12) _ ?_
  refine zs X13 Bd d6_13 (l' := #[rv qa1, iv 2, rv qa2, iv 2, iv 3, iv 2, iv qi6]) rfl ?_
  refine zi X13 Bd d6_15 rfl ?_
  refine XS.sipush X13.here hx rfl (hb hby d6_17) ?_
  refine zn X13 Bd d6_20 (XT.ii_le_f (hc19 : (255 : Int32) < qi6)) ?_
  show Sx p e below T13 m 23 #[rv qa1, iv 2, rv qa2, iv 2, iv 3, iv 2, iv qi6] [] _
  refine zi X13 Bd d6_23 rfl ?_
  exact retI X13 hx Bd.returns (hb hby d6_25) hr))
-- java/lang/StringUTF16.compress([CII)[B
def Q59 (Z : State) (qi3 : Int32) (qi4 : Int32) (qi5 : Int32) (h0 : Heap) (n0 : Nat) (v : Option Value) (h : Heap) (L : List Loc) : Prop := ∃ bm : Addr, ∃ cm : ClassId, v = some (.ref bm) ∧ Fr n0 L ∧ Keep h0 h [] ∧ h0.size ≤ bm ∧ Arv Z h bm cm .byte (6 : Int32) [(.int ((((qi3 >>> ((0 : Int32) &&& 31)))).toInt8.toInt32)), (.int ((((qi3 >>> ((8 : Int32) &&& 31)))).toInt8.toInt32)), (.int ((((qi4 >>> ((0 : Int32) &&& 31)))).toInt8.toInt32)), (.int ((((qi4 >>> ((8 : Int32) &&& 31)))).toInt8.toInt32)), (.int ((((qi5 >>> ((0 : Int32) &&& 31)))).toInt8.toInt32)), (.int ((((qi5 >>> ((8 : Int32) &&& 31)))).toInt8.toInt32))] (.int 0)
theorem rm59 (l : Launch) (Z : State) (a0 : Array Value) (hw : HW a0 Z) (qa1 : Addr) (qk2 : ClassId) (qi3 : Int32) (qi4 : Int32) (qi5 : Int32) (h0 : Heap) (n0 : Nat) (X00 : Old Z n0 h0) (uS12 : Sta Z Z.heap "java/lang/StringUTF16" "$assertionsDisabled" "Z" (.int 1)) (uS15 : Sta Z Z.heap "java/lang/StringUTF16" "HI_BYTE_SHIFT" "I" (.int 0)) (uS18 : Sta Z Z.heap "java/lang/StringUTF16" "LO_BYTE_SHIFT" "I" (.int 8)) (A_qa1 : Arv Z h0 qa1 qk2 .char (3 : Int32) [.int qi3, .int qi4, .int qi5] (.int 0)) (hc1 : (255 : Int32) < (own_max ([qi3, qi4, qi5] : List Int32))) (hr20 : nar .char qi3 = qi3) (hr39 : nar .char qi4 = qi4) (hr58 : nar .char qi5 = qi5) :
    MF l Z Y12_ jdk_52_method_16_code 6 (some (.array .byte)) (Rm 3 2 9 40) #[.ref qa1, .int 0, .int 3] h0 (Q59 Z qi3 qi4 qi5 h0 n0) := by
 refine own_sF pn3 rfl (fun m => ef6 m qa1 (0 : Int32) (3 : Int32)) ?_
 intro p e s m below meth c s₁ Bd hZ hh hx hby hml hown hnm X0 e0 pre0
 have N0 := Fr.nil n0
 obtain ⟨T2, h2, c2, X2, e2, E2, A2, st2⟩ := newP (aty := .byte) X0 hx hZ (w24_ hw) e0 (g := (mkF m 1 #[rv qa1, iv 0, iv 3, .unset, .unset, .unset] [.int 3])) rfl (hb hby d5_1) rfl (by decide) (cap := 3) (by decide) (lE rfl) (lE rfl) (lE rfl)
 obtain ⟨b2, g2⟩ : ∃ z, z = h0.size := ⟨_, rfl⟩
 rw [← g2] at A2 st2
 replace X2 : Stand p l e (Rm 3 2 9 40) s m #[.ref qa1, .int 0, .int 3] below meth c T2 _ 1 3 := X2
 have K3 := (Keep.refl h0 []).ext E2
 have A4_ : Arv Z h2 b2 c2 .byte (3 : Int32) [.int 0, .int 0, .int 0] (.int 0) := (Arv.new A2 (by decide)).pad (pad_rep [] (.int 0) 3)
 have A6_ := A_qa1.ext E2
 have pr7 : Pr p e below T2 m 9 #[rv qa1, iv 0, iv 3, rv b2, .unset, .unset] [.int 3, .int 0, .ref b2, .int 0, .ref qa1] s₁ (entryFrame m #[.ref qa1, .int 0, .int 3] 6) := fun t k => pre0 t (by
  show Sx p e below s₁ m 0 #[rv qa1, iv 0, iv 3, .unset, .unset, .unset] [] _
  refine zj X0 Bd d5_0 rfl ?_
  refine st2 _ ?_
  refine XS.astoreN X2.here hx rfl (hb hby d5_3) rfl rfl (l' := #[rv qa1, iv 0, iv 3, rv b2, .unset, .unset]) rfl ?_
  refine zb X2 Bd d5_4 rfl rfl ?_
  refine zj X2 Bd d5_5 rfl ?_
  refine zb X2 Bd d5_6 rfl rfl ?_
  refine zc X2 Bd d5_7 ?_
  refine zj X2 Bd d5_8 rfl ?_
  exact k)
 by_cases hc8 : (255 : Int32) < qi3
 ·
  skip
  have A10_ := A_qa1.ext E2
  have O11 := X00.ext E2
  obtain ⟨_, T9, L9, X9, hQ9, st9⟩ := own_cS 1 3 [] 9 #[rv qa1, iv 0, iv 3, rv b2, .unset, .unset] X2 hx hZ hown (w25_ hw) (w26_ hw) (w22_ hw) (w27_ hw) (rm51 l Z a0 hw  qa1 b2 qk2 qi3 qi4 qi5 h2 n0 O11 A10_ hc8) pd6 hml.symm (hb hby d5_9) e2 rfl rfl rfl rfl (by decide)
  obtain ⟨rfl, N9q, e9q⟩ := hQ9
  have N9 := Fr.app N0 N9q
  obtain ⟨_, T12, L12, X12, hQ12, st12⟩ := own_cS 2 9 [] 23 #[rv qa1, iv 0, iv 3, rv b2, iv 0, .unset] X9 hx hZ hown (w42_ hw) (w43_ hw) (w22_ hw) (w44_ hw) (rm55 l Z a0 hw  qa1 qk2 qi3 qi4 qi5 h2 n0 O11 uS12 uS15 uS18 A10_) pd10 hml.symm (hb hby d5_23) e9q rfl rfl rfl rfl (by decide)
  obtain ⟨b13, c14_, rfl, N12q, K12q, w15, w16⟩ := hQ12
  have N12 := Fr.app N9 N12q
  have K17 := K3.trans K12q (fun x q => nomatch q)
  have O19 := O11.keep K12q all0
  obtain ⟨_, T18, L18, X18, hQ18, st18⟩ := own_cS 2 9 [] 32 #[rv qa1, iv 0, iv 3, rv b2, iv 0, rv b13] X12 hx hZ hown (w58_ hw) (w59_ hw) (w22_ hw) (w60_ hw) (rm56 l Z a0 hw  b13 (0 : Int32) c14_ ((((qi3 >>> ((0 : Int32) &&& 31)))).toInt8.toInt32) ((((qi3 >>> ((8 : Int32) &&& 31)))).toInt8.toInt32) ((((qi4 >>> ((0 : Int32) &&& 31)))).toInt8.toInt32) ((((qi4 >>> ((8 : Int32) &&& 31)))).toInt8.toInt32) ((((qi5 >>> ((0 : Int32) &&& 31)))).toInt8.toInt32) ((((qi5 >>> ((8 : Int32) &&& 31)))).toInt8.toInt32) T12.heap n0 O19 uS12 uS15 uS18 w16 (by decide) (by decide)) pd11 hml.symm (hb hby d5_32) rfl rfl rfl rfl rfl (by decide)
  obtain ⟨rfl, N18q, e18q⟩ := hQ18
  have N18 := Fr.app N12 N18q
  have sz_b13 : h0.size ≤ b13 := Nat.le_trans K3.1 w15
  refine own_lvF X18 Bd (.ref b13) e18q ⟨b13, c14_, rfl, N18, K17, sz_b13, w16⟩ rfl (fun fs hr => pr7 _ (by
   show Sx p e below T2 m 9 #[rv qa1, iv 0, iv 3, rv b2, .unset, .unset] [.int 3, .int 0, .ref b2, .int 0, .ref qa1] _
   refine st9 _ ?_
   refine zs X9 Bd d5_12 (l' := #[rv qa1, iv 0, iv 3, rv b2, iv 0, .unset]) rfl ?_
   refine zi X9 Bd d5_14 rfl ?_
   refine zj X9 Bd d5_16 rfl ?_
   refine zn X9 Bd d5_17 (XT.ii_eq_f ((by decide) : ¬ ((0 : Int32) = (3 : Int32)))) ?_
   refine zb X9 Bd d5_20 rfl rfl ?_
   refine zj X9 Bd d5_21 rfl ?_
   refine zj X9 Bd d5_22 rfl ?_
   refine st12 _ ?_
   refine XS.astore X12.here hx rfl (hb hby d5_26) rfl rfl (l' := #[rv qa1, iv 0, iv 3, rv b2, iv 0, rv b13]) rfl ?_
   refine za X12 Bd d5_28 rfl rfl ?_
   refine zi X12 Bd d5_30 rfl ?_
   refine st18 _ ?_
   refine XS.sipush X18.here hx rfl (hb hby d5_35) ?_
   refine zy (pc' := 54) X18 Bd d5_38 (XT.ii_gt_t ((own_get16l hr20 hc8) : (255 : Int32) < ((((((((((qi3 >>> ((0 : Int32) &&& 31)))).toInt8.toInt32) &&& (255 : Int32)) <<< ((0 : Int32) &&& 31))) ||| (((((((qi3 >>> ((8 : Int32) &&& 31)))).toInt8.toInt32) &&& (255 : Int32)) <<< ((8 : Int32) &&& 31))))).toUInt32.toUInt16.toUInt32.toInt32))) rfl ?_
   refine za X18 Bd d5_54 rfl rfl ?_
   exact retOut X18 hx Bd.returns rfl (Or.inr (Or.inr (Or.inr (Or.inr ⟨rfl, rfl, rfl⟩)))) (hb hby d5_56) hr))
 ·
  skip
  have A22_ := A_qa1.ext E2
  have g_b2 : n0 ≤ b2 := Nat.le_trans (Nat.le_trans (Nat.le_of_eq X00.1.symm) X00.2.1) (Nat.le_of_eq g2.symm)
  by_cases hc23 : (255 : Int32) < qi4
  ·
   skip
   have A25_ := A_qa1.ext E2
   have g_b2 : n0 ≤ b2 := Nat.le_trans (Nat.le_trans (Nat.le_of_eq X00.1.symm) X00.2.1) (Nat.le_of_eq g2.symm)
   have O26 := X00.ext E2
   obtain ⟨_, T24, L24, X24, hQ24, st24⟩ := own_cS 1 3 [] 9 #[rv qa1, iv 0, iv 3, rv b2, .unset, .unset] X2 hx hZ hown (w25_ hw) (w26_ hw) (w22_ hw) (w27_ hw) (rm57 l Z a0 hw  qa1 b2 qk2 qi3 qi4 qi5 c2 h2 n0 O26 A25_ hc8 A4_ g_b2 (Nat.ne_of_lt (Nat.lt_of_lt_of_le A_qa1.lt (Nat.le_of_eq g2.symm))) hc23) pd6 hml.symm (hb hby d5_9) e2 rfl rfl rfl rfl (by decide)
   obtain ⟨rfl, N24q, K24q, w27⟩ := hQ24
   have N24 := Fr.app N0 N24q
   have sz_b2 : h0.size ≤ b2 := (Nat.le_of_eq g2.symm)
   have K28 := K3.trans K24q (allS (Or.inr sz_b2) all0)
   have A30_ := A25_.keep K24q (ninS (Nat.ne_of_lt (Nat.lt_of_lt_of_le A_qa1.lt (Nat.le_of_eq g2.symm))) nin0)
   have O31 := O26.keep K24q (allS g_b2 all0)
   obtain ⟨_, T29, L29, X29, hQ29, st29⟩ := own_cS 2 9 [] 23 #[rv qa1, iv 0, iv 3, rv b2, iv 1, .unset] X24 hx hZ hown (w42_ hw) (w43_ hw) (w22_ hw) (w44_ hw) (rm55 l Z a0 hw  qa1 qk2 qi3 qi4 qi5 T24.heap n0 O31 uS12 uS15 uS18 A30_) pd10 hml.symm (hb hby d5_23) rfl rfl rfl rfl rfl (by decide)
   obtain ⟨b32, c33_, rfl, N29q, K29q, w34, w35⟩ := hQ29
   have N29 := Fr.app N24 N29q
   have K36 := K28.trans K29q (fun x q => nomatch q)
   have O38 := O31.keep K29q all0
   obtain ⟨_, T37, L37, X37, hQ37, st37⟩ := own_cS 2 9 [] 32 #[rv qa1, iv 0, iv 3, rv b2, iv 1, rv b32] X29 hx hZ hown (w58_ hw) (w59_ hw) (w22_ hw) (w60_ hw) (rm56 l Z a0 hw  b32 (1 : Int32) c33_ ((((qi3 >>> ((0 : Int32) &&& 31)))).toInt8.toInt32) ((((qi3 >>> ((8 : Int32) &&& 31)))).toInt8.toInt32) ((((qi4 >>> ((0 : Int32) &&& 31)))).toInt8.toInt32) ((((qi4 >>> ((8 : Int32) &&& 31)))).toInt8.toInt32) ((((qi5 >>> ((0 : Int32) &&& 31)))).toInt8.toInt32) ((((qi5 >>> ((8 : Int32) &&& 31)))).toInt8.toInt32) T29.heap n0 O38 uS12 uS15 uS18 w35 (by decide) (by decide)) pd11 hml.symm (hb hby d5_32) rfl rfl rfl rfl rfl (by decide)
   obtain ⟨rfl, N37q, e37q⟩ := hQ37
   have N37 := Fr.app N29 N37q
   have sz_b32 : h0.size ≤ b32 := Nat.le_trans K28.1 w34
   refine own_lvF X37 Bd (.ref b32) e37q ⟨b32, c33_, rfl, N37, K36, sz_b32, w35⟩ rfl (fun fs hr => pr7 _ (by
    show Sx p e below T2 m 9 #[rv qa1, iv 0, iv 3, rv b2, .unset, .unset] [.int 3, .int 0, .ref b2, .int 0, .ref qa1] _
    refine st24 _ ?_
    refine zs X24 Bd d5_12 (l' := #[rv qa1, iv 0, iv 3, rv b2, iv 1, .unset]) rfl ?_
    refine zi X24 Bd d5_14 rfl ?_
    refine zj X24 Bd d5_16 rfl ?_
    refine zn X24 Bd d5_17 (XT.ii_eq_f ((by decide) : ¬ ((1 : Int32) = (3 : Int32)))) ?_
    refine zb X24 Bd d5_20 rfl rfl ?_
    refine zj X24 Bd d5_21 rfl ?_
    refine zj X24 Bd d5_22 rfl ?_
    refine st29 _ ?_
    refine XS.astore X29.here hx rfl (hb hby d5_26) rfl rfl (l' := #[rv qa1, iv 0, iv 3, rv b2, iv 1, rv b32]) rfl ?_
    refine za X29 Bd d5_28 rfl rfl ?_
    refine zi X29 Bd d5_30 rfl ?_
    refine st37 _ ?_
    refine XS.sipush X37.here hx rfl (hb hby d5_35) ?_
    refine zy (pc' := 54) X37 Bd d5_38 (XT.ii_gt_t ((own_get16l hr39 hc23) : (255 : Int32) < ((((((((((qi4 >>> ((0 : Int32) &&& 31)))).toInt8.toInt32) &&& (255 : Int32)) <<< ((0 : Int32) &&& 31))) ||| (((((((qi4 >>> ((8 : Int32) &&& 31)))).toInt8.toInt32) &&& (255 : Int32)) <<< ((8 : Int32) &&& 31))))).toUInt32.toUInt16.toUInt32.toInt32))) rfl ?_
    refine za X37 Bd d5_54 rfl rfl ?_
    exact retOut X37 hx Bd.returns rfl (Or.inr (Or.inr (Or.inr (Or.inr ⟨rfl, rfl, rfl⟩)))) (hb hby d5_56) hr))
  ·
   skip
   have A41_ := A_qa1.ext E2
   have g_b2 : n0 ≤ b2 := Nat.le_trans (Nat.le_trans (Nat.le_of_eq X00.1.symm) X00.2.1) (Nat.le_of_eq g2.symm)
   by_cases hc42 : (255 : Int32) < qi5
   ·
    skip
    have A44_ := A_qa1.ext E2
    have g_b2 : n0 ≤ b2 := Nat.le_trans (Nat.le_trans (Nat.le_of_eq X00.1.symm) X00.2.1) (Nat.le_of_eq g2.symm)
    have O45 := X00.ext E2
    obtain ⟨_, T43, L43, X43, hQ43, st43⟩ := own_cS 1 3 [] 9 #[rv qa1, iv 0, iv 3, rv b2, .unset, .unset] X2 hx hZ hown (w25_ hw) (w26_ hw) (w22_ hw) (w27_ hw) (rm58 l Z a0 hw  qa1 b2 qk2 qi3 qi4 qi5 c2 h2 n0 O45 A44_ hc8 A4_ g_b2 (Nat.ne_of_lt (Nat.lt_of_lt_of_le A_qa1.lt (Nat.le_of_eq g2.symm))) hc23 hc42) pd6 hml.symm (hb hby d5_9) e2 rfl rfl rfl rfl (by decide)
    obtain ⟨rfl, N43q, K43q, w46⟩ := hQ43
    have N43 := Fr.app N0 N43q
    have sz_b2 : h0.size ≤ b2 := (Nat.le_of_eq g2.symm)
    have K47 := K3.trans K43q (allS (Or.inr sz_b2) all0)
    have A49_ := A44_.keep K43q (ninS (Nat.ne_of_lt (Nat.lt_of_lt_of_le A_qa1.lt (Nat.le_of_eq g2.symm))) nin0)
    have O50 := O45.keep K43q (allS g_b2 all0)
    obtain ⟨_, T48, L48, X48, hQ48, st48⟩ := own_cS 2 9 [] 23 #[rv qa1, iv 0, iv 3, rv b2, iv 2, .unset] X43 hx hZ hown (w42_ hw) (w43_ hw) (w22_ hw) (w44_ hw) (rm55 l Z a0 hw  qa1 qk2 qi3 qi4 qi5 T43.heap n0 O50 uS12 uS15 uS18 A49_) pd10 hml.symm (hb hby d5_23) rfl rfl rfl rfl rfl (by decide)
    obtain ⟨b51, c52_, rfl, N48q, K48q, w53, w54⟩ := hQ48
    have N48 := Fr.app N43 N48q
    have K55 := K47.trans K48q (fun x q => nomatch q)
    have O57 := O50.keep K48q all0
    obtain ⟨_, T56, L56, X56, hQ56, st56⟩ := own_cS 2 9 [] 32 #[rv qa1, iv 0, iv 3, rv b2, iv 2, rv b51] X48 hx hZ hown (w58_ hw) (w59_ hw) (w22_ hw) (w60_ hw) (rm56 l Z a0 hw  b51 (2 : Int32) c52_ ((((qi3 >>> ((0 : Int32) &&& 31)))).toInt8.toInt32) ((((qi3 >>> ((8 : Int32) &&& 31)))).toInt8.toInt32) ((((qi4 >>> ((0 : Int32) &&& 31)))).toInt8.toInt32) ((((qi4 >>> ((8 : Int32) &&& 31)))).toInt8.toInt32) ((((qi5 >>> ((0 : Int32) &&& 31)))).toInt8.toInt32) ((((qi5 >>> ((8 : Int32) &&& 31)))).toInt8.toInt32) T48.heap n0 O57 uS12 uS15 uS18 w54 (by decide) (by decide)) pd11 hml.symm (hb hby d5_32) rfl rfl rfl rfl rfl (by decide)
    obtain ⟨rfl, N56q, e56q⟩ := hQ56
    have N56 := Fr.app N48 N56q
    have sz_b51 : h0.size ≤ b51 := Nat.le_trans K47.1 w53
    refine own_lvF X56 Bd (.ref b51) e56q ⟨b51, c52_, rfl, N56, K55, sz_b51, w54⟩ rfl (fun fs hr => pr7 _ (by
     show Sx p e below T2 m 9 #[rv qa1, iv 0, iv 3, rv b2, .unset, .unset] [.int 3, .int 0, .ref b2, .int 0, .ref qa1] _
     refine st43 _ ?_
     refine zs X43 Bd d5_12 (l' := #[rv qa1, iv 0, iv 3, rv b2, iv 2, .unset]) rfl ?_
     refine zi X43 Bd d5_14 rfl ?_
     refine zj X43 Bd d5_16 rfl ?_
     refine zn X43 Bd d5_17 (XT.ii_eq_f ((by decide) : ¬ ((2 : Int32) = (3 : Int32)))) ?_
     refine zb X43 Bd d5_20 rfl rfl ?_
     refine zj X43 Bd d5_21 rfl ?_
     refine zj X43 Bd d5_22 rfl ?_
     refine st48 _ ?_
     refine XS.astore X48.here hx rfl (hb hby d5_26) rfl rfl (l' := #[rv qa1, iv 0, iv 3, rv b2, iv 2, rv b51]) rfl ?_
     refine za X48 Bd d5_28 rfl rfl ?_
     refine zi X48 Bd d5_30 rfl ?_
     refine st56 _ ?_
     refine XS.sipush X56.here hx rfl (hb hby d5_35) ?_
     refine zy (pc' := 54) X56 Bd d5_38 (XT.ii_gt_t ((own_get16l hr58 hc42) : (255 : Int32) < ((((((((((qi5 >>> ((0 : Int32) &&& 31)))).toInt8.toInt32) &&& (255 : Int32)) <<< ((0 : Int32) &&& 31))) ||| (((((((qi5 >>> ((8 : Int32) &&& 31)))).toInt8.toInt32) &&& (255 : Int32)) <<< ((8 : Int32) &&& 31))))).toUInt32.toUInt16.toUInt32.toInt32))) rfl ?_
     refine za X56 Bd d5_54 rfl rfl ?_
     exact retOut X56 hx Bd.returns rfl (Or.inr (Or.inr (Or.inr (Or.inr ⟨rfl, rfl, rfl⟩)))) (hb hby d5_56) hr))
   ·
    skip
    exact absurd hc1 (own_maxno _ (List.forall_mem_cons.mpr ⟨hc8, (List.forall_mem_cons.mpr ⟨hc23, (List.forall_mem_cons.mpr ⟨hc42, (fun _ q => nomatch q)⟩)⟩)⟩))
-- java/lang/StringUTF16.coderFromArrayLen([BI)B
def Q60 (Z : State)  (h0 : Heap) (n0 : Nat) (v : Option Value) (h : Heap) (L : List Loc) : Prop := v = some (.int 1) ∧ Fr n0 L ∧ h = h0
theorem rm60 (l : Launch) (Z : State) (a0 : Array Value) (hw : HW a0 Z) (qa1 : Addr) (qk2 : ClassId) (qi3 : Int32) (qi4 : Int32) (qi5 : Int32) (qi6 : Int32) (qi7 : Int32) (qi8 : Int32) (h0 : Heap) (n0 : Nat) (X00 : Old Z n0 h0) (A_qa1 : Arv Z h0 qa1 qk2 .byte (6 : Int32) [.int qi3, .int qi4, .int qi5, .int qi6, .int qi7, .int qi8] (.int 0)) :
    MF l Z Y13_ jdk_52_method_15_code 2 (some .byte) (Rm 0 0 0 0) #[.ref qa1, .int 3] h0 (Q60 Z  h0 n0) := by
 refine own_sF pn3 rfl (fun m => ef10 m qa1 (3 : Int32)) ?_
 intro p e s m below meth c s₁ Bd hZ hh hx hby hml hown hnm X0 e0 pre0
 have N0 := Fr.nil n0
 have av1 := A_qa1
 obtain ⟨cl1, Ar1, q1, S1, N1, H1, Gf1⟩ := av1
 refine own_lvF X0 Bd (.int 1) e0 ⟨rfl, N0, rfl⟩ rfl (fun fs hr => pre0 _ (by
  show Sx p e below s₁ m 0 #[rv qa1, iv 3] [] _
  refine zj X0 Bd d12_0 rfl ?_
  refine zb X0 Bd d12_1 rfl rfl ?_
  refine X0.arraylength hx (by rw [e0]; exact Ar1.1) (State.isArrayOf_alike hZ.alike Ar1.2.1) (g := (mkF m 2 #[rv qa1, iv 3] [.ref qa1, .int 3])) rfl rfl (hb hby d12_2) _ ?_
  rw [len_of S1 N1]
  refine XS.isub X0.here hx rfl (hb hby d12_3) rfl ?_
  refine zd X0 Bd d12_4 ?_
  refine XS.iushr X0.here hx rfl (hb hby d12_6) rfl ?_
  refine XS.i2b X0.here hx rfl (hb hby d12_7) rfl ?_
  exact retN X0 hx (t := .byte) Bd.returns (by simp) (hb hby d12_8) hr))
-- java/lang/String.<init>([CIILjava/lang/Void;)V
def Q61 (Z : State) (qa1 : Addr) (qi4 : Int32) (qi5 : Int32) (qi6 : Int32) (h0 : Heap) (n0 : Nat) (v : Option Value) (h : Heap) (L : List Loc) : Prop := ∃ b8 : Addr, ∃ c9_ : ClassId, v = none ∧ Fr n0 L ∧ Keep h0 h [qa1] ∧ h0.size ≤ b8 ∧ Exa Z h qa1 "java/lang/String" ∧ Fld Z h qa1 "java/lang/String" "coder" "B" (.int 1) ∧ Fld Z h qa1 "java/lang/String" "value" "[B" (.ref b8) ∧ Arv Z h b8 c9_ .byte (6 : Int32) [(.int ((((qi4 >>> ((0 : Int32) &&& 31)))).toInt8.toInt32)), (.int ((((qi4 >>> ((8 : Int32) &&& 31)))).toInt8.toInt32)), (.int ((((qi5 >>> ((0 : Int32) &&& 31)))).toInt8.toInt32)), (.int ((((qi5 >>> ((8 : Int32) &&& 31)))).toInt8.toInt32)), (.int ((((qi6 >>> ((0 : Int32) &&& 31)))).toInt8.toInt32)), (.int ((((qi6 >>> ((8 : Int32) &&& 31)))).toInt8.toInt32))] (.int 0)
theorem rm61 (l : Launch) (Z : State) (a0 : Array Value) (hw : HW a0 Z) (G1 : Int32) (qa1 : Addr) (qa2 : Addr) (qk3 : ClassId) (qi4 : Int32) (qi5 : Int32) (qi6 : Int32) (h0 : Heap) (n0 : Nat) (X00 : Old Z n0 h0) (O2 : Sta Z Z.heap "java/lang/String" "COMPACT_STRINGS" "Z" (.int G1)) (P5 : ¬ (G1 = (0 : Int32))) (uS12 : Sta Z Z.heap "java/lang/StringUTF16" "$assertionsDisabled" "Z" (.int 1)) (uS15 : Sta Z Z.heap "java/lang/StringUTF16" "HI_BYTE_SHIFT" "I" (.int 0)) (uS18 : Sta Z Z.heap "java/lang/StringUTF16" "LO_BYTE_SHIFT" "I" (.int 8)) (A_qa2 : Arv Z h0 qa2 qk3 .char (3 : Int32) [.int qi4, .int qi5, .int qi6] (.int 0)) (hc4 : (255 : Int32) < (own_max ([qi4, qi5, qi6] : List Int32))) (hr5 : nar .char qi4 = qi4) (hr6 : nar .char qi5 = qi5) (hr7 : nar .char qi6 = qi6) (E_qa1 : Exa Z h0 qa1 "java/lang/String") (F_qa1_coder : Fld Z h0 qa1 "java/lang/String" "coder" "B" (.int 0)) (g_qa1 : n0 ≤ qa1) (F_qa1_value : Fld Z h0 qa1 "java/lang/String" "value" "[B" .null) :
    MF l Z Y1_ jdk_42_method_149_code 6 none (Rm 4 2 9 57) #[.ref qa1, .ref qa2, .int 0, .int 3, .null] h0 (Q61 Z qa1 qi4 qi5 qi6 h0 n0) := by
 refine own_sF pn1 rfl (fun m => ef3 m qa1 qa2 (0 : Int32) (3 : Int32)) ?_
 intro p e s m below meth c s₁ Bd hZ hh hx hby hml hown hnm X0 e0 pre0
 have N0 := Fr.nil n0
 obtain ⟨T1, X1, e1, st1⟩ := initO X0 hx hZ hown (w16_ hw) (w17_ hw) (w18_ hw) e0 (g := (mkF m 1 #[rv qa1, rv qa2, iv 0, iv 3, .val .null, .unset] [.ref qa1])) rfl hml.symm rfl (hb hby d2_1) (by decide) (W := 0) (own_hw rfl) (lE rfl)
 obtain ⟨T2, X2, e2, st2⟩ := getS2 X1 hx hZ hown (host := "") (Or.inl (w19_ hw)) Via.refl e1 (O2.ext X00.2) (g := (mkF m 27 #[rv qa1, rv qa2, iv 0, iv 3, .val .null, .unset] [])) rfl (hb hby d2_27)
 obtain ⟨_, T3, L3, X3, hQ3, st3⟩ := own_cS 2 9 [] 36 #[rv qa1, rv qa2, iv 0, iv 3, .val .null, .unset] X2 hx hZ hown (w20_ hw) (w21_ hw) (w22_ hw) (w23_ hw) (rm59 l Z a0 hw  qa2 qk3 qi4 qi5 qi6 h0 n0 X00 uS12 uS15 uS18 A_qa2 hc4 hr5 hr6 hr7) pd10 hml.symm (hb hby d2_36) e2 rfl rfl rfl rfl (by decide)
 obtain ⟨b8, c9_, rfl, N3q, K3q, w10, w11⟩ := hQ3
 have N3 := Fr.app N0 N3q
 have K12 := (Keep.refl h0 [qa1]).trans K3q (fun x q => nomatch q)
 have O14 := X00.keep K3q all0
 obtain ⟨_, T13, L13, X13, hQ13, st13⟩ := own_cS 2 9 [.ref qa1] 45 #[rv qa1, rv qa2, iv 0, iv 3, .val .null, rv b8] X3 hx hZ hown (w28_ hw) (w29_ hw) (w22_ hw) (w30_ hw) (rm60 l Z a0 hw  b8 c9_ ((((qi4 >>> ((0 : Int32) &&& 31)))).toInt8.toInt32) ((((qi4 >>> ((8 : Int32) &&& 31)))).toInt8.toInt32) ((((qi5 >>> ((0 : Int32) &&& 31)))).toInt8.toInt32) ((((qi5 >>> ((8 : Int32) &&& 31)))).toInt8.toInt32) ((((qi6 >>> ((0 : Int32) &&& 31)))).toInt8.toInt32) ((((qi6 >>> ((8 : Int32) &&& 31)))).toInt8.toInt32) T3.heap n0 O14 w11) pd12 hml.symm (hb hby d2_45) rfl rfl rfl rfl rfl (by decide)
 obtain ⟨rfl, N13q, e13q⟩ := hQ13
 have N13 := Fr.app N3 N13q
 have F15_ := F_qa1_coder.keep K3q nin0
 have E16_ := E_qa1.keep K3q
 obtain ⟨T17, h17, X17, e17, W17, st17⟩ := putF X13 hx hZ hown (host := "") (Or.inl (w31_ hw)) Via.refl e13q F15_ E16_ (Or.inr ⟨(w32_ hw), rfl, hnm⟩) (w2_ hw) (ty := .byte) (by decide) rfl rfl (g := (mkF m 48 #[rv qa1, rv qa2, iv 0, iv 3, .val .null, rv b8] [.int 1, .ref qa1])) rfl rfl (hb hby d2_48)
 have N17 := Fr.snoc X17 N13 g_qa1
 have K18 := K12.wr W17 (Or.inl (mI 0 rfl))
 have F19_ : Fld Z h17 qa1 "java/lang/String" "coder" "B" (.int 1) := F15_.same W17
 have F20_ := F_qa1_value.keep K3q nin0
 have F21_ := F20_.other W17 (Or.inr (slot_ne (Or.inr (w34_ hw)) (Or.inr (w32_ hw)) (by decide) (t := (.array .byte)) (t' := .byte) (by decide) (by decide)))
 have E22_ := E16_.wr W17
 obtain ⟨T23, h23, X23, e23, W23, st23⟩ := putF X17 hx hZ hown (host := "") (Or.inl (w33_ hw)) Via.refl e17 F21_ E22_ (Or.inr ⟨(w34_ hw), rfl, hnm⟩) (w2_ hw) (ty := (.array .byte)) (by decide) rfl rfl (g := (mkF m 54 #[rv qa1, rv qa2, iv 0, iv 3, .val .null, rv b8] [.ref b8, .ref qa1])) rfl rfl (hb hby d2_54)
 have N23 := Fr.snoc X23 N17 g_qa1
 have K24 := K18.wr W23 (Or.inl (mI 0 rfl))
 have F25_ : Fld Z h23 qa1 "java/lang/String" "value" "[B" (.ref b8) := F21_.same W23
 have sz_b8 : h0.size ≤ b8 := w10
 have E26_ := E22_.wr W23
 have F27_ := F19_.other W23 (Or.inr (slot_ne (Or.inr (w32_ hw)) (Or.inr (w34_ hw)) (by decide) (t := .byte) (t' := (.array .byte)) (by decide) (by decide)))
 have A28_ := w11.other W17 (Ne.symm (Nat.ne_of_lt (Nat.lt_of_lt_of_le E_qa1.lt w10)))
 have A29_ := A28_.other W23 (Ne.symm (Nat.ne_of_lt (Nat.lt_of_lt_of_le E_qa1.lt w10)))
 refine own_lvN X23 Bd e23 ⟨b8, c9_, rfl, N23, K24, sz_b8, E26_, F27_, F25_, A29_⟩ rfl (fun fs hr => pre0 _ (by
  show Sx p e below s₁ m 0 #[rv qa1, rv qa2, iv 0, iv 3, .val .null, .unset] [] _
  refine zb X0 Bd d2_0 rfl rfl ?_
  refine st1 _ ?_
  refine zj X1 Bd d2_4 rfl ?_
  refine zp (pc' := 27) X1 Bd d2_5 (XT.i0_ne_t ((by decide) : ¬ ((3 : Int32) = (0 : Int32)))) rfl ?_
  refine st2 _ ?_
  refine zo X2 Bd d2_30 (XT.i0_eq_f (P5 : ¬ (G1 = (0 : Int32)))) ?_
  refine zb X2 Bd d2_33 rfl rfl ?_
  refine zj X2 Bd d2_34 rfl ?_
  refine zj X2 Bd d2_35 rfl ?_
  refine st3 _ ?_
  refine XS.astore X3.here hx rfl (hb hby d2_39) rfl rfl (l' := #[rv qa1, rv qa2, iv 0, iv 3, .val .null, rv b8]) rfl ?_
  refine zb X3 Bd d2_41 rfl rfl ?_
  refine za X3 Bd d2_42 rfl rfl ?_
  refine zj X3 Bd d2_44 rfl ?_
  refine st13 _ ?_
  refine st17 _ ?_
  refine zb X17 Bd d2_51 rfl rfl ?_
  refine za X17 Bd d2_52 rfl rfl ?_
  refine st23 _ ?_
  exact X23.returnOut hx Bd.returns (hb hby d2_57) hr))
-- java/lang/String.<init>([C)V
def Q62 (Z : State) (qa1 : Addr) (qi4 : Int32) (qi5 : Int32) (qi6 : Int32) (h0 : Heap) (n0 : Nat) (v : Option Value) (h : Heap) (L : List Loc) : Prop := ∃ b7 : Addr, ∃ c8_ : ClassId, v = none ∧ Fr n0 L ∧ Keep h0 h [qa1] ∧ h0.size ≤ b7 ∧ Exa Z h qa1 "java/lang/String" ∧ Fld Z h qa1 "java/lang/String" "coder" "B" (.int 1) ∧ Fld Z h qa1 "java/lang/String" "value" "[B" (.ref b7) ∧ Arv Z h b7 c8_ .byte (6 : Int32) [(.int ((((qi4 >>> ((0 : Int32) &&& 31)))).toInt8.toInt32)), (.int ((((qi4 >>> ((8 : Int32) &&& 31)))).toInt8.toInt32)), (.int ((((qi5 >>> ((0 : Int32) &&& 31)))).toInt8.toInt32)), (.int ((((qi5 >>> ((8 : Int32) &&& 31)))).toInt8.toInt32)), (.int ((((qi6 >>> ((0 : Int32) &&& 31)))).toInt8.toInt32)), (.int ((((qi6 >>> ((8 : Int32) &&& 31)))).toInt8.toInt32))] (.int 0)
theorem rm62 (l : Launch) (Z : State) (a0 : Array Value) (hw : HW a0 Z) (G1 : Int32) (qa1 : Addr) (qa2 : Addr) (qk3 : ClassId) (qi4 : Int32) (qi5 : Int32) (qi6 : Int32) (h0 : Heap) (n0 : Nat) (X00 : Old Z n0 h0) (O2 : Sta Z Z.heap "java/lang/String" "COMPACT_STRINGS" "Z" (.int G1)) (P5 : ¬ (G1 = (0 : Int32))) (uS12 : Sta Z Z.heap "java/lang/StringUTF16" "$assertionsDisabled" "Z" (.int 1)) (uS15 : Sta Z Z.heap "java/lang/StringUTF16" "HI_BYTE_SHIFT" "I" (.int 0)) (uS18 : Sta Z Z.heap "java/lang/StringUTF16" "LO_BYTE_SHIFT" "I" (.int 8)) (A_qa2 : Arv Z h0 qa2 qk3 .char (3 : Int32) [.int qi4, .int qi5, .int qi6] (.int 0)) (hc3 : (255 : Int32) < (own_max ([qi4, qi5, qi6] : List Int32))) (hr4 : nar .char qi4 = qi4) (hr5 : nar .char qi5 = qi5) (hr6 : nar .char qi6 = qi6) (E_qa1 : Exa Z h0 qa1 "java/lang/String") (F_qa1_coder : Fld Z h0 qa1 "java/lang/String" "coder" "B" (.int 0)) (g_qa1 : n0 ≤ qa1) (F_qa1_value : Fld Z h0 qa1 "java/lang/String" "value" "[B" .null) :
    MF l Z Y2_ jdk_42_method_3_code 2 none (Rm 5 2 9 74) #[.ref qa1, .ref qa2] h0 (Q62 Z qa1 qi4 qi5 qi6 h0 n0) := by
 refine own_sF pn1 rfl (fun m => ef2 m qa1 qa2) ?_
 intro p e s m below meth c s₁ Bd hZ hh hx hby hml hown hnm X0 e0 pre0
 have N0 := Fr.nil n0
 have av1 := A_qa2
 obtain ⟨cl1, Ar1, q1, S1, N1, H1, Gf1⟩ := av1
 obtain ⟨_, T2, L2, X2, hQ2, st2⟩ := own_cI 2 9 [] 6 #[rv qa1, rv qa2] X0 hx hZ hown (w12_ hw) (w13_ hw) (w3_ hw) (w15_ hw) (rm61 l Z a0 hw G1 qa1 qa2 qk3 qi4 qi5 qi6 h0 n0 X00 O2 P5 uS12 uS15 uS18 A_qa2 hc3 hr4 hr5 hr6 E_qa1 F_qa1_coder g_qa1 F_qa1_value) pd1 hml.symm (hb hby d1_6) e0 rfl rfl rfl rfl rfl (by decide)
 obtain ⟨b7, c8_, rfl, N2q, K2q, w9, w10, w11, w12, w13⟩ := hQ2
 have N2 := Fr.app N0 N2q
 have K14 := (Keep.refl h0 [qa1]).trans K2q (allS (Or.inl (mI 0 rfl)) all0)
 have sz_b7 : h0.size ≤ b7 := w9
 have E15_ := E_qa1.keep K2q
 refine own_lvN X2 Bd rfl ⟨b7, c8_, rfl, N2, K14, sz_b7, E15_, w11, w12, w13⟩ rfl (fun fs hr => pre0 _ (by
  show Sx p e below s₁ m 0 #[rv qa1, rv qa2] [] _
  refine zb X0 Bd d1_0 rfl rfl ?_
  refine zb X0 Bd d1_1 rfl rfl ?_
  refine zc X0 Bd d1_2 ?_
  refine zb X0 Bd d1_3 rfl rfl ?_
  refine X0.arraylength hx (by rw [e0]; exact Ar1.1) (State.isArrayOf_alike hZ.alike Ar1.2.1) (g := (mkF m 4 #[rv qa1, rv qa2] [.ref qa2, .int 0, .ref qa2, .ref qa1])) rfl rfl (hb hby d1_4) _ ?_
  rw [len_of S1 N1]
  refine XS.aconstNull X0.here hx rfl (hb hby d1_5) ?_
  refine st2 _ ?_
  exact X2.returnOut hx Bd.returns (hb hby d1_9) hr))
-- java/lang/StringUTF16.length([B)I
def Q63 (Z : State)  (h0 : Heap) (n0 : Nat) (v : Option Value) (h : Heap) (L : List Loc) : Prop := v = some (.int 3) ∧ Fr n0 L ∧ h = h0
theorem rm63 (l : Launch) (Z : State) (a0 : Array Value) (hw : HW a0 Z) (qa1 : Addr) (qk2 : ClassId) (qi3 : Int32) (qi4 : Int32) (qi5 : Int32) (qi6 : Int32) (qi7 : Int32) (qi8 : Int32) (h0 : Heap) (n0 : Nat) (X00 : Old Z n0 h0) (A_qa1 : Arv Z h0 qa1 qk2 .byte (6 : Int32) [.int qi3, .int qi4, .int qi5, .int qi6, .int qi7, .int qi8] (.int 0)) :
    MF l Z Y15_ jdk_52_method_6_code 1 (some .int) (Rm 0 0 0 0) #[.ref qa1] h0 (Q63 Z  h0 n0) := by
 refine own_sF pn3 rfl (fun m => ef11 m qa1) ?_
 intro p e s m below meth c s₁ Bd hZ hh hx hby hml hown hnm X0 e0 pre0
 have N0 := Fr.nil n0
 have av1 := A_qa1
 obtain ⟨cl1, Ar1, q1, S1, N1, H1, Gf1⟩ := av1
 refine own_lvF X0 Bd (.int 3) e0 ⟨rfl, N0, rfl⟩ rfl (fun fs hr => pre0 _ (by
  show Sx p e below s₁ m 0 #[rv qa1] [] _
  refine zb X0 Bd d17_0 rfl rfl ?_
  refine X0.arraylength hx (by rw [e0]; exact Ar1.1) (State.isArrayOf_alike hZ.alike Ar1.2.1) (g := (mkF m 1 #[rv qa1] [.ref qa1])) rfl rfl (hb hby d17_1) _ ?_
  rw [len_of S1 N1]
  refine zc X0 Bd d17_2 ?_
  refine XS.ishr X0.here hx rfl (hb hby d17_3) rfl ?_
  exact retI X0 hx Bd.returns (hb hby d17_4) hr))
-- jdk/internal/util/Preconditions.checkIndex(IILjava/util/function/BiFunction;)I
def Q64 (Z : State) (qi1 : Int32) (h0 : Heap) (n0 : Nat) (v : Option Value) (h : Heap) (L : List Loc) : Prop := v = some (.int qi1) ∧ Fr n0 L ∧ h = h0
theorem rm64 (l : Launch) (Z : State) (a0 : Array Value) (hw : HW a0 Z) (G3 : Value) (qi1 : Int32) (h0 : Heap) (n0 : Nat) (X00 : Old Z n0 h0) (O4 : Sta Z Z.heap "jdk/internal/util/Preconditions" "SIOOBE_FORMATTER" "Ljava/util/function/BiFunction;" G3) (rG3 : G3.isRef = true) (hc1 : ¬ (qi1 < (0 : Int32))) (hc2 : qi1 < (3 : Int32)) :
    MF l Z Y16_ jdk_41_method_11_code 3 (some .int) (Rm 0 0 0 0) #[.int qi1, .int 3, G3] h0 (Q64 Z qi1 h0 n0) := by
 refine own_sF pn4 rfl (fun m => ef14 m qi1 (3 : Int32) G3 rG3) ?_
 intro p e s m below meth c s₁ Bd hZ hh hx hby hml hown hnm X0 e0 pre0
 have N0 := Fr.nil n0
 refine own_lvF X0 Bd (.int qi1) e0 ⟨rfl, N0, rfl⟩ rfl (fun fs hr => pre0 _ (by
  show Sx p e below s₁ m 0 #[iv qi1, iv 3, .val G3] [] _
  refine zj X0 Bd d19_0 rfl ?_
  refine zo X0 Bd d19_1 (XT.i0_lt_f (hc1 : ¬ (qi1 < (0 : Int32)))) ?_
  refine zj X0 Bd d19_4 rfl ?_
  refine zj X0 Bd d19_5 rfl ?_
  refine zy (pc' := 16) X0 Bd d19_6 (XT.ii_lt_t (hc2 : qi1 < (3 : Int32))) rfl ?_
  refine zj X0 Bd d19_16 rfl ?_
  exact retI X0 hx Bd.returns (hb hby d19_17) hr))
-- java/lang/String.checkIndex(II)V
def Q65 (Z : State)  (h0 : Heap) (n0 : Nat) (v : Option Value) (h : Heap) (L : List Loc) : Prop := v = none ∧ Fr n0 L ∧ h = h0
theorem rm65 (l : Launch) (Z : State) (a0 : Array Value) (hw : HW a0 Z) (G3 : Value) (qi1 : Int32) (h0 : Heap) (n0 : Nat) (X00 : Old Z n0 h0) (O4 : Sta Z Z.heap "jdk/internal/util/Preconditions" "SIOOBE_FORMATTER" "Ljava/util/function/BiFunction;" G3) (rG3 : G3.isRef = true) (hc3 : ¬ (qi1 < (0 : Int32))) (hc4 : qi1 < (3 : Int32)) :
    MF l Z Y17_ jdk_42_method_155_code 2 none (Rm 1 0 0 14) #[.int qi1, .int 3] h0 (Q65 Z  h0 n0) := by
 refine own_sF pn1 rfl (fun m => ef13 m qi1 (3 : Int32)) ?_
 intro p e s m below meth c s₁ Bd hZ hh hx hby hml hown hnm X0 e0 pre0
 have N0 := Fr.nil n0
 obtain ⟨T1, X1, e1, st1⟩ := getS2 X0 hx hZ hown (host := "") (Or.inl (w87_ hw)) Via.refl e0 (O4.ext X00.2) (g := (mkF m 2 #[iv qi1, iv 3] [.int 3, .int qi1])) rfl (hb hby d18_2)
 obtain ⟨_, T2, L2, X2, hQ2, st2⟩ := own_cS 0 0 [] 5 #[iv qi1, iv 3] X1 hx hZ hown (w89_ hw) (w90_ hw) (w88_ hw) (w91_ hw) (rm64 l Z a0 hw G3 qi1 h0 n0 X00 O4 rG3 hc3 hc4) pd15 hml.symm (hb hby d18_5) e1 rfl rfl rfl rfl (by decide)
 obtain ⟨rfl, N2q, e2q⟩ := hQ2
 have N2 := Fr.app N0 N2q
 refine own_lvN X2 Bd e2q ⟨rfl, N2, rfl⟩ rfl (fun fs hr => pre0 _ (by
  show Sx p e below s₁ m 0 #[iv qi1, iv 3] [] _
  refine zj X0 Bd d18_0 rfl ?_
  refine zj X0 Bd d18_1 rfl ?_
  refine st1 _ ?_
  refine st2 _ ?_
  refine XS.pop X2.here hx rfl (hb hby d18_8) rfl rfl ?_
  exact X2.returnOut hx Bd.returns (hb hby d18_9) hr))
-- java/lang/StringUTF16.checkIndex(I[B)V
def Q66 (Z : State)  (h0 : Heap) (n0 : Nat) (v : Option Value) (h : Heap) (L : List Loc) : Prop := v = none ∧ Fr n0 L ∧ h = h0
theorem rm66 (l : Launch) (Z : State) (a0 : Array Value) (hw : HW a0 Z) (G3 : Value) (qi1 : Int32) (qa2 : Addr) (qk3 : ClassId) (qi4 : Int32) (qi5 : Int32) (qi6 : Int32) (qi7 : Int32) (qi8 : Int32) (qi9 : Int32) (h0 : Heap) (n0 : Nat) (X00 : Old Z n0 h0) (O4 : Sta Z Z.heap "jdk/internal/util/Preconditions" "SIOOBE_FORMATTER" "Ljava/util/function/BiFunction;" G3) (rG3 : G3.isRef = true) (A_qa2 : Arv Z h0 qa2 qk3 .byte (6 : Int32) [.int qi4, .int qi5, .int qi6, .int qi7, .int qi8, .int qi9] (.int 0)) (hc3 : ¬ (qi1 < (0 : Int32))) (hc4 : qi1 < (3 : Int32)) :
    MF l Z Y18_ jdk_52_method_91_code 2 none (Rm 2 0 0 27) #[.int qi1, .ref qa2] h0 (Q66 Z  h0 n0) := by
 refine own_sF pn3 rfl (fun m => ef12 m qi1 qa2) ?_
 intro p e s m below meth c s₁ Bd hZ hh hx hby hml hown hnm X0 e0 pre0
 have N0 := Fr.nil n0
 obtain ⟨_, T1, L1, X1, hQ1, st1⟩ := own_cS 0 0 [.int qi1] 2 #[iv qi1, rv qa2] X0 hx hZ hown (w81_ hw) (w82_ hw) (w22_ hw) (w83_ hw) (rm63 l Z a0 hw  qa2 qk3 qi4 qi5 qi6 qi7 qi8 qi9 h0 n0 X00 A_qa2) pd14 hml.symm (hb hby d16_2) e0 rfl rfl rfl rfl (by decide)
 obtain ⟨rfl, N1q, e1q⟩ := hQ1
 have N1 := Fr.app N0 N1q
 obtain ⟨_, T2, L2, X2, hQ2, st2⟩ := own_cS 0 0 [] 5 #[iv qi1, rv qa2] X1 hx hZ hown (w84_ hw) (w85_ hw) (w3_ hw) (w86_ hw) (rm65 l Z a0 hw G3 qi1 h0 n0 X00 O4 rG3 hc3 hc4) pd16 hml.symm (hb hby d16_5) e1q rfl rfl rfl rfl (by decide)
 obtain ⟨rfl, N2q, e2q⟩ := hQ2
 have N2 := Fr.app N1 N2q
 refine own_lvN X2 Bd e2q ⟨rfl, N2, rfl⟩ rfl (fun fs hr => pre0 _ (by
  show Sx p e below s₁ m 0 #[iv qi1, rv qa2] [] _
  refine zj X0 Bd d16_0 rfl ?_
  refine zb X0 Bd d16_1 rfl rfl ?_
  refine st1 _ ?_
  refine st2 _ ?_
  exact X2.returnOut hx Bd.returns (hb hby d16_8) hr))
-- java/lang/StringUTF16.charAt([BI)C
def Q67 (Z : State) (qi2 : Int32) (qi4 : Int32) (qi5 : Int32) (qi6 : Int32) (qi7 : Int32) (qi8 : Int32) (qi9 : Int32) (h0 : Heap) (n0 : Nat) (v : Option Value) (h : Heap) (L : List Loc) : Prop := v = some (.int (((((((own_at ([qi4, qi5, qi6, qi7, qi8, qi9] : List Int32) ((qi2 <<< ((1 : Int32) &&& 31)))) &&& (255 : Int32)) <<< ((0 : Int32) &&& 31))) ||| ((((own_at ([qi4, qi5, qi6, qi7, qi8, qi9] : List Int32) (((qi2 <<< ((1 : Int32) &&& 31))) + (1 : Int32))) &&& (255 : Int32)) <<< ((8 : Int32) &&& 31))))).toUInt32.toUInt16.toUInt32.toInt32)) ∧ Fr n0 L ∧ h = h0
theorem rm67 (l : Launch) (Z : State) (a0 : Array Value) (hw : HW a0 Z) (G3 : Value) (qa1 : Addr) (qi2 : Int32) (qk3 : ClassId) (qi4 : Int32) (qi5 : Int32) (qi6 : Int32) (qi7 : Int32) (qi8 : Int32) (qi9 : Int32) (h0 : Heap) (n0 : Nat) (X00 : Old Z n0 h0) (O4 : Sta Z Z.heap "jdk/internal/util/Preconditions" "SIOOBE_FORMATTER" "Ljava/util/function/BiFunction;" G3) (rG3 : G3.isRef = true) (uS12 : Sta Z Z.heap "java/lang/StringUTF16" "$assertionsDisabled" "Z" (.int 1)) (uS15 : Sta Z Z.heap "java/lang/StringUTF16" "HI_BYTE_SHIFT" "I" (.int 0)) (uS18 : Sta Z Z.heap "java/lang/StringUTF16" "LO_BYTE_SHIFT" "I" (.int 8)) (A_qa1 : Arv Z h0 qa1 qk3 .byte (6 : Int32) [.int qi4, .int qi5, .int qi6, .int qi7, .int qi8, .int qi9] (.int 0)) (hc2 : ¬ (qi2 < (0 : Int32))) (hc3 : qi2 < (3 : Int32)) :
    MF l Z Y19_ jdk_52_method_83_code 2 (some .char) (Rm 3 0 0 40) #[.ref qa1, .int qi2] h0 (Q67 Z qi2 qi4 qi5 qi6 qi7 qi8 qi9 h0 n0) := by
 refine own_sF pn3 rfl (fun m => ef10 m qa1 qi2) ?_
 intro p e s m below meth c s₁ Bd hZ hh hx hby hml hown hnm X0 e0 pre0
 have N0 := Fr.nil n0
 obtain ⟨_, T1, L1, X1, hQ1, st1⟩ := own_cS 0 0 [] 2 #[rv qa1, iv qi2] X0 hx hZ hown (w78_ hw) (w79_ hw) (w22_ hw) (w80_ hw) (rm66 l Z a0 hw G3 qi2 qa1 qk3 qi4 qi5 qi6 qi7 qi8 qi9 h0 n0 X00 O4 rG3 A_qa1 hc2 hc3) pd17 hml.symm (hb hby d15_2) e0 rfl rfl rfl rfl (by decide)
 obtain ⟨rfl, N1q, e1q⟩ := hQ1
 have N1 := Fr.app N0 N1q
 obtain ⟨_, T4, L4, X4, hQ4, st4⟩ := own_cS 0 0 [] 7 #[rv qa1, iv qi2] X1 hx hZ hown (w58_ hw) (w59_ hw) (w22_ hw) (w60_ hw) (rm56 l Z a0 hw  qa1 qi2 qk3 qi4 qi5 qi6 qi7 qi8 qi9 h0 n0 X00 uS12 uS15 uS18 A_qa1 hc2 hc3) pd11 hml.symm (hb hby d15_7) e1q rfl rfl rfl rfl (by decide)
 obtain ⟨rfl, N4q, e4q⟩ := hQ4
 have N4 := Fr.app N1 N4q
 refine own_lvF X4 Bd (.int (nar .char (((((((own_at ([qi4, qi5, qi6, qi7, qi8, qi9] : List Int32) ((qi2 <<< ((1 : Int32) &&& 31)))) &&& (255 : Int32)) <<< ((0 : Int32) &&& 31))) ||| ((((own_at ([qi4, qi5, qi6, qi7, qi8, qi9] : List Int32) (((qi2 <<< ((1 : Int32) &&& 31))) + (1 : Int32))) &&& (255 : Int32)) <<< ((8 : Int32) &&& 31))))).toUInt32.toUInt16.toUInt32.toInt32))) e4q ⟨(congrArg (fun z => some (Value.int z)) (own_nar_i2c _)), N4, rfl⟩ rfl (fun fs hr => pre0 _ (by
  show Sx p e below s₁ m 0 #[rv qa1, iv qi2] [] _
  refine zj X0 Bd d15_0 rfl ?_
  refine zb X0 Bd d15_1 rfl rfl ?_
  refine st1 _ ?_
  refine zb X1 Bd d15_5 rfl rfl ?_
  refine zj X1 Bd d15_6 rfl ?_
  refine st4 _ ?_
  exact retN X4 hx (t := .char) Bd.returns (by simp) (hb hby d15_10) hr))
-- java/lang/String.charAt(I)C
def Q68 (Z : State) (qi2 : Int32) (qi5 : Int32) (qi6 : Int32) (qi7 : Int32) (qi8 : Int32) (qi9 : Int32) (qi10 : Int32) (h0 : Heap) (n0 : Nat) (v : Option Value) (h : Heap) (L : List Loc) : Prop := v = some (.int (own_at (own_L3 qi5 qi6 qi7 qi8 qi9 qi10) qi2)) ∧ Fr n0 L ∧ h = h0
theorem rm68 (l : Launch) (Z : State) (a0 : Array Value) (hw : HW a0 Z) (G1 : Int32) (G3 : Value) (qa1 : Addr) (qi2 : Int32) (qa3 : Addr) (qk4 : ClassId) (qi5 : Int32) (qi6 : Int32) (qi7 : Int32) (qi8 : Int32) (qi9 : Int32) (qi10 : Int32) (h0 : Heap) (n0 : Nat) (X00 : Old Z n0 h0) (O2 : Sta Z Z.heap "java/lang/String" "COMPACT_STRINGS" "Z" (.int G1)) (P5 : ¬ (G1 = (0 : Int32))) (O4 : Sta Z Z.heap "jdk/internal/util/Preconditions" "SIOOBE_FORMATTER" "Ljava/util/function/BiFunction;" G3) (rG3 : G3.isRef = true) (uS12 : Sta Z Z.heap "java/lang/StringUTF16" "$assertionsDisabled" "Z" (.int 1)) (uS15 : Sta Z Z.heap "java/lang/StringUTF16" "HI_BYTE_SHIFT" "I" (.int 0)) (uS18 : Sta Z Z.heap "java/lang/StringUTF16" "LO_BYTE_SHIFT" "I" (.int 8)) (F_qa1_value : Fld Z h0 qa1 "java/lang/String" "value" "[B" (.ref qa3)) (F_qa1_coder : Fld Z h0 qa1 "java/lang/String" "coder" "B" (.int 1)) (A_qa3 : Arv Z h0 qa3 qk4 .byte (6 : Int32) [.int qi5, .int qi6, .int qi7, .int qi8, .int qi9, .int qi10] (.int 0)) (hj0 : ¬ qi2 < 0) (hjk : qi2 < (3 : Int32)) (E_qa1 : Exa Z h0 qa1 "java/lang/String") :
    MF l Z Y5_ jdk_42_method_56_code 2 (some .char) (Rm 4 0 0 53) #[.ref qa1, .int qi2] h0 (Q68 Z qi2 qi5 qi6 qi7 qi8 qi9 qi10 h0 n0) := by
 refine own_sF pn1 rfl (fun m => ef10 m qa1 qi2) ?_
 intro p e s m below meth c s₁ Bd hZ hh hx hby hml hown hnm X0 e0 pre0
 have N0 := Fr.nil n0
 obtain ⟨_, T1, L1, X1, hQ1, st1⟩ := own_cV 0 0 [] 1 #[rv qa1, iv qi2] X0 hx hZ hown E_qa1 (w70_ hw) (w71_ hw) (notFace_of_selects (args := #[]) (mvT hZ (w73_ hw))) (w73_ hw) (w72_ hw) (w3_ hw) (w74_ hw) (rm21 l Z a0 hw G1 qa1 h0 n0 X00 O2 P5 F_qa1_coder) pd13 hml.symm (hb hby d13_1) e0 rfl rfl rfl rfl (by decide)
 obtain ⟨rfl, N1q, e1q⟩ := hQ1
 have N1 := Fr.app N0 N1q
 obtain ⟨T2, X2, e2, st2⟩ := getF X1 hx hZ hown (host := "") (Or.inl (w33_ hw)) Via.refl e1q F_qa1_value (g := (mkF m 17 #[rv qa1, iv qi2] [.ref qa1])) rfl rfl (hb hby d13_17)
 obtain ⟨_, T3, L3, X3, hQ3, st3⟩ := own_cS 0 0 [] 21 #[rv qa1, iv qi2] X2 hx hZ hown (w75_ hw) (w76_ hw) (w22_ hw) (w77_ hw) (rm67 l Z a0 hw G3 qa3 qi2 qk4 qi5 qi6 qi7 qi8 qi9 qi10 h0 n0 X00 O4 rG3 uS12 uS15 uS18 A_qa3 hj0 hjk) pd11 hml.symm (hb hby d13_21) e2 rfl rfl rfl rfl (by decide)
 obtain ⟨rfl, N3q, e3q⟩ := hQ3
 have N3 := Fr.app N1 N3q
 refine own_lvF X3 Bd (.int (nar .char (((((((own_at ([qi5, qi6, qi7, qi8, qi9, qi10] : List Int32) ((qi2 <<< ((1 : Int32) &&& 31)))) &&& (255 : Int32)) <<< ((0 : Int32) &&& 31))) ||| ((((own_at ([qi5, qi6, qi7, qi8, qi9, qi10] : List Int32) (((qi2 <<< ((1 : Int32) &&& 31))) + (1 : Int32))) &&& (255 : Int32)) <<< ((8 : Int32) &&& 31))))).toUInt32.toUInt16.toUInt32.toInt32))) e3q ⟨(congrArg (fun z => some (Value.int z)) ((own_nar_i2c _).trans (own_cat3 qi5 qi6 qi7 qi8 qi9 qi10 qi2 hj0 hjk))), N3, rfl⟩ rfl (fun fs hr => pre0 _ (by
  show Sx p e below s₁ m 0 #[rv qa1, iv qi2] [] _
  refine zb X0 Bd d13_0 rfl rfl ?_
  refine st1 _ ?_
  refine zp (pc' := 16) X1 Bd d13_4 (XT.i0_eq_t ((by decide) : (0 : Int32) = (0 : Int32))) rfl ?_
  refine zb X1 Bd d13_16 rfl rfl ?_
  refine st2 _ ?_
  refine zj X2 Bd d13_20 rfl ?_
  refine st3 _ ?_
  exact retN X3 hx (t := .char) Bd.returns (by simp) (hb hby d13_24) hr))
-- com/example/backstop/backstop/WholeNumbers.isDigits(Ljava/lang/String;II)Z
def Q69 (Z : State) (qi2 : Int32) (qi3 : Int32) (qi6 : Int32) (qi7 : Int32) (qi8 : Int32) (qi9 : Int32) (qi10 : Int32) (qi11 : Int32) (h0 : Heap) (n0 : Nat) (v : Option Value) (h : Heap) (L : List Loc) : Prop := v = some (.int (own_isd (own_L3 qi6 qi7 qi8 qi9 qi10 qi11) qi2 qi3)) ∧ Fr n0 L ∧ h = h0
theorem rm69 (l : Launch) (Z : State) (a0 : Array Value) (hw : HW a0 Z) (G1 : Int32) (G3 : Value) (qa1 : Addr) (qi2 : Int32) (qi3 : Int32) (qa4 : Addr) (qk5 : ClassId) (qi6 : Int32) (qi7 : Int32) (qi8 : Int32) (qi9 : Int32) (qi10 : Int32) (qi11 : Int32) (h0 : Heap) (n0 : Nat) (X00 : Old Z n0 h0) (O2 : Sta Z Z.heap "java/lang/String" "COMPACT_STRINGS" "Z" (.int G1)) (P5 : ¬ (G1 = (0 : Int32))) (O4 : Sta Z Z.heap "jdk/internal/util/Preconditions" "SIOOBE_FORMATTER" "Ljava/util/function/BiFunction;" G3) (rG3 : G3.isRef = true) (uS12 : Sta Z Z.heap "java/lang/StringUTF16" "$assertionsDisabled" "Z" (.int 1)) (uS15 : Sta Z Z.heap "java/lang/StringUTF16" "HI_BYTE_SHIFT" "I" (.int 0)) (uS18 : Sta Z Z.heap "java/lang/StringUTF16" "LO_BYTE_SHIFT" "I" (.int 8)) (F_qa1_value : Fld Z h0 qa1 "java/lang/String" "value" "[B" (.ref qa4)) (F_qa1_coder : Fld Z h0 qa1 "java/lang/String" "coder" "B" (.int 1)) (A_qa4 : Arv Z h0 qa4 qk5 .byte (6 : Int32) [.int qi6, .int qi7, .int qi8, .int qi9, .int qi10, .int qi11] (.int 0)) (hs0 : ¬ qi2 < 0) (he0 : ¬ (3 : Int32) < qi3) (E_qa1 : Exa Z h0 qa1 "java/lang/String") :
    MF l Z Y4_ prog_50_method_3_code 5 (some .boolean) (Rm 5 0 0 66) #[.ref qa1, .int qi2, .int qi3] h0 (Q69 Z qi2 qi3 qi6 qi7 qi8 qi9 qi10 qi11 h0 n0) := by
 refine own_sF pn2 rfl (fun m => ef5 m qa1 qi2 qi3) ?_
 intro p e s m below meth c s₁ Bd hZ hh hx hby hml hown hnm X0 e0 pre0
 have N0 := Fr.nil n0
 have pr1 : Pr p e below s₁ m 2 #[rv qa1, iv qi2, iv qi3, .unset, .unset] [.int qi3, .int qi2] s₁ (entryFrame m #[.ref qa1, .int qi2, .int qi3] 5) := fun t k => pre0 t (by
  show Sx p e below s₁ m 0 #[rv qa1, iv qi2, iv qi3, .unset, .unset] [] _
  refine zj X0 Bd d4_0 rfl ?_
  refine zj X0 Bd d4_1 rfl ?_
  exact k)
 by_cases hc2 : qi2 < qi3
 ·
  skip
  have pr3 : Pr p e below s₁ m 9 #[rv qa1, iv qi2, iv qi3, iv qi2, .unset] [] s₁ (entryFrame m #[.ref qa1, .int qi2, .int qi3] 5) := fun t k => pr1 t (by
   show Sx p e below s₁ m 2 #[rv qa1, iv qi2, iv qi3, .unset, .unset] [.int qi3, .int qi2] _
   refine zy (pc' := 7) X0 Bd d4_2 (XT.ii_lt_t (hc2 : qi2 < qi3)) rfl ?_
   refine zj X0 Bd d4_7 rfl ?_
   refine zt X0 Bd d4_8 (l' := #[rv qa1, iv qi2, iv qi3, iv qi2, .unset]) rfl ?_
   exact k)
  refine own_loop1 (fun i_ => (qi3.toInt - i_.toInt).toNat) (fun T4 L4 i_ => ∃ sl4_4 : Slot, Stand p l e (Rm 5 0 0 66) s m #[.ref qa1, .int qi2, .int qi3] below meth c T4 L4 0 0 ∧ T4.heap = h0 ∧ Fr n0 L4 ∧ (¬ i_ < 0) ∧ ((own_digI (own_L3 qi6 qi7 qi8 qi9 qi10 qi11) qi2 qi3) = own_digI (own_L3 qi6 qi7 qi8 qi9 qi10 qi11) i_ qi3) ∧ (sl4_4 = .unset ∨ ∃ w, sl4_4 = .val w ∧ w.category = 1) ∧ Pr p e below T4 m 9 #[rv qa1, iv qi2, iv qi3, iv i_, sl4_4] [] s₁ (entryFrame m #[.ref qa1, .int qi2, .int qi3] 5)) ?_ s₁ _ qi2 ⟨.unset, X0, e0, N0, hs0, rfl, (Or.inl rfl), (fun t k => pr3 t k)⟩
  intro T4 L4 i_ hI4 ih4
  obtain ⟨sl4_4, X4, e4, N4, hq4_0, hq4_1, one4_4, pr4⟩ := hI4
  have pr5 : Pr p e below T4 m 11 #[rv qa1, iv qi2, iv qi3, iv i_, sl4_4] [.int qi3, .int i_] s₁ (entryFrame m #[.ref qa1, .int qi2, .int qi3] 5) := fun t k => pr4 t (by
   show Sx p e below T4 m 9 #[rv qa1, iv qi2, iv qi3, iv i_, sl4_4] [] _
   refine zj X4 Bd d4_9 rfl ?_
   refine zj X4 Bd d4_10 rfl ?_
   exact k)
  by_cases hc6 : i_ < qi3
  ·
   skip
   obtain ⟨_, T7, L7, X7, hQ7, st7⟩ := own_cV 0 0 [] 16 #[rv qa1, iv qi2, iv qi3, iv i_, sl4_4] X4 hx hZ hown E_qa1 (w65_ hw) (w66_ hw) (notFace_of_selects (args := #[]) (mvT hZ (w68_ hw))) (w68_ hw) (w67_ hw) (w3_ hw) (w69_ hw) (rm68 l Z a0 hw G1 G3 qa1 i_ qa4 qk5 qi6 qi7 qi8 qi9 qi10 qi11 h0 n0 X00 O2 P5 O4 rG3 uS12 uS15 uS18 F_qa1_value F_qa1_coder A_qa4 hq4_0 (own_iltk hc6 he0) E_qa1) pd4 hml.symm (hb hby d4_16) e4 rfl rfl rfl rfl (by decide)
   obtain ⟨rfl, N7q, e7q⟩ := hQ7
   have N7 := Fr.app N4 N7q
   have pr8 : Pr p e below T7 m 25 #[rv qa1, iv qi2, iv qi3, iv i_, iv (own_at (own_L3 qi6 qi7 qi8 qi9 qi10 qi11) i_)] [.int 48, (.int (own_at (own_L3 qi6 qi7 qi8 qi9 qi10 qi11) i_))] s₁ (entryFrame m #[.ref qa1, .int qi2, .int qi3] 5) := fun t k => pr5 t (by
    show Sx p e below T4 m 11 #[rv qa1, iv qi2, iv qi3, iv i_, sl4_4] [.int qi3, .int i_] _
    refine zn X4 Bd d4_11 (XT.ii_ge_f (hc6 : i_ < qi3)) ?_
    refine zb X4 Bd d4_14 rfl rfl ?_
    refine zj X4 Bd d4_15 rfl ?_
    refine st7 _ ?_
    refine XS.istoreS X7.here hx rfl (hb hby d4_19) rfl rfl one4_4 ?_
    refine zi X7 Bd d4_21 rfl ?_
    refine zd X7 Bd d4_23 ?_
    exact k)
   by_cases hc9 : (own_at (own_L3 qi6 qi7 qi8 qi9 qi10 qi11) i_) < (48 : Int32)
   ·
    skip
    refine own_lvF X7 Bd (.int 0) e7q ⟨(by rw [own_isd, if_pos hc2, hq4_1, own_dig0 hc6 hq4_0 (Or.inl hc9)]), N7, rfl⟩ rfl (fun fs hr => pr8 _ (by
     show Sx p e below T7 m 25 #[rv qa1, iv qi2, iv qi3, iv i_, iv (own_at (own_L3 qi6 qi7 qi8 qi9 qi10 qi11) i_)] [.int 48, (.int (own_at (own_L3 qi6 qi7 qi8 qi9 qi10 qi11) i_))] _
     refine zy (pc' := 35) X7 Bd d4_25 (XT.ii_lt_t (hc9 : (own_at (own_L3 qi6 qi7 qi8 qi9 qi10 qi11) i_) < (48 : Int32))) rfl ?_
     refine zc X7 Bd d4_35 ?_
     exact retN X7 hx (t := .boolean) Bd.returns (by simp) (hb hby d4_36) hr))
   ·
    skip
    have pr10 : Pr p e below T7 m 32 #[rv qa1, iv qi2, iv qi3, iv i_, iv (own_at (own_L3 qi6 qi7 qi8 qi9 qi10 qi11) i_)] [.int 57, (.int (own_at (own_L3 qi6 qi7 qi8 qi9 qi10 qi11) i_))] s₁ (entryFrame m #[.ref qa1, .int qi2, .int qi3] 5) := fun t k => pr8 t (by
     show Sx p e below T7 m 25 #[rv qa1, iv qi2, iv qi3, iv i_, iv (own_at (own_L3 qi6 qi7 qi8 qi9 qi10 qi11) i_)] [.int 48, (.int (own_at (own_L3 qi6 qi7 qi8 qi9 qi10 qi11) i_))] _
     refine zn X7 Bd d4_25 (XT.ii_lt_f (hc9 : ¬ ((own_at (own_L3 qi6 qi7 qi8 qi9 qi10 qi11) i_) < (48 : Int32)))) ?_
     refine zi X7 Bd d4_28 rfl ?_
     refine zd X7 Bd d4_30 ?_
     exact k)
    by_cases hc11 : (57 : Int32) < (own_at (own_L3 qi6 qi7 qi8 qi9 qi10 qi11) i_)
    ·
     skip
     refine own_lvF X7 Bd (.int 0) e7q ⟨(by rw [own_isd, if_pos hc2, hq4_1, own_dig0 hc6 hq4_0 (Or.inr hc11)]), N7, rfl⟩ rfl (fun fs hr => pr10 _ (by
      show Sx p e below T7 m 32 #[rv qa1, iv qi2, iv qi3, iv i_, iv (own_at (own_L3 qi6 qi7 qi8 qi9 qi10 qi11) i_)] [.int 57, (.int (own_at (own_L3 qi6 qi7 qi8 qi9 qi10 qi11) i_))] _
      refine zn X7 Bd d4_32 (XT.ii_le_f (hc11 : (57 : Int32) < (own_at (own_L3 qi6 qi7 qi8 qi9 qi10 qi11) i_))) ?_
      refine zc X7 Bd d4_35 ?_
      exact retN X7 hx (t := .boolean) Bd.returns (by simp) (hb hby d4_36) hr))
    ·
     skip
     have pr12 : Pr p e below T7 m 9 #[rv qa1, iv qi2, iv qi3, iv (i_ + (1 : Int32)), iv (own_at (own_L3 qi6 qi7 qi8 qi9 qi10 qi11) i_)] [] s₁ (entryFrame m #[.ref qa1, .int qi2, .int qi3] 5) := fun t k => pr10 t (by
      show Sx p e below T7 m 32 #[rv qa1, iv qi2, iv qi3, iv i_, iv (own_at (own_L3 qi6 qi7 qi8 qi9 qi10 qi11) i_)] [.int 57, (.int (own_at (own_L3 qi6 qi7 qi8 qi9 qi10 qi11) i_))] _
      refine zy (pc' := 37) X7 Bd d4_32 (XT.ii_le_t (hc11 : ¬ ((57 : Int32) < (own_at (own_L3 qi6 qi7 qi8 qi9 qi10 qi11) i_)))) rfl ?_
      refine XS.iinc X7.here hx rfl (hb hby d4_37) rfl (l' := #[rv qa1, iv qi2, iv qi3, iv (i_ + (1 : Int32)), iv (own_at (own_L3 qi6 qi7 qi8 qi9 qi10 qi11) i_)]) rfl ?_
      refine zg (pc' := 9) X7 Bd d4_40 rfl ?_
      exact k)
     exact ih4 T7 _ (i_ + (1 : Int32)) (own_decr hq4_0 hc6) ⟨iv (own_at (own_L3 qi6 qi7 qi8 qi9 qi10 qi11) i_), X7, e7q, N7, (own_inc0 hq4_0 hc6), (hq4_1.trans (own_digS hc6 hq4_0 hc9 hc11)), (Or.inr ⟨_, rfl, rfl⟩), (fun t k => pr12 t k)⟩
  ·
   skip
   refine own_lvF X4 Bd (.int 1) e4 ⟨(by rw [own_isd, if_pos hc2, hq4_1, own_dig1 hc6]), N4, rfl⟩ rfl (fun fs hr => pr5 _ (by
    show Sx p e below T4 m 11 #[rv qa1, iv qi2, iv qi3, iv i_, sl4_4] [.int qi3, .int i_] _
    refine zy (pc' := 43) X4 Bd d4_11 (XT.ii_ge_t (hc6 : ¬ (i_ < qi3))) rfl ?_
    refine zc X4 Bd d4_43 ?_
    exact retN X4 hx (t := .boolean) Bd.returns (by simp) (hb hby d4_44) hr))
 ·
  skip
  refine own_lvF X0 Bd (.int 0) e0 ⟨(by rw [own_isd, if_neg hc2]), N0, rfl⟩ rfl (fun fs hr => pr1 _ (by
   show Sx p e below s₁ m 2 #[rv qa1, iv qi2, iv qi3, .unset, .unset] [.int qi3, .int qi2] _
   refine zn X0 Bd d4_2 (XT.ii_lt_f (hc2 : ¬ (qi2 < qi3))) ?_
   refine zc X0 Bd d4_5 ?_
   exact retN X0 hx (t := .boolean) Bd.returns (by simp) (hb hby d4_6) hr))
-- com/example/backstop/backstop/WholeNumbers.isDigits(Ljava/lang/String;II)Z
def Q70 (Z : State) (qi2 : Int32) (qi3 : Int32) (qi6 : Int32) (qi7 : Int32) (qi8 : Int32) (h0 : Heap) (n0 : Nat) (v : Option Value) (h : Heap) (L : List Loc) : Prop := v = some (.int (own_isd ([qi6, qi7, qi8] : List Int32) qi2 qi3)) ∧ Fr n0 L ∧ h = h0
theorem rm70 (l : Launch) (Z : State) (a0 : Array Value) (hw : HW a0 Z) (G3 : Value) (G1 : Int32) (qa1 : Addr) (qi2 : Int32) (qi3 : Int32) (qa4 : Addr) (qk5 : ClassId) (qi6 : Int32) (qi7 : Int32) (qi8 : Int32) (h0 : Heap) (n0 : Nat) (X00 : Old Z n0 h0) (O4 : Sta Z Z.heap "jdk/internal/util/Preconditions" "SIOOBE_FORMATTER" "Ljava/util/function/BiFunction;" G3) (rG3 : G3.isRef = true) (O2 : Sta Z Z.heap "java/lang/String" "COMPACT_STRINGS" "Z" (.int G1)) (P5 : ¬ (G1 = (0 : Int32))) (F_qa1_value : Fld Z h0 qa1 "java/lang/String" "value" "[B" (.ref qa4)) (F_qa1_coder : Fld Z h0 qa1 "java/lang/String" "coder" "B" (.int 0)) (A_qa4 : Arv Z h0 qa4 qk5 .byte (3 : Int32) ((([qi6, qi7, qi8] : List Int32).map (fun c => c.toInt8.toInt32)).map Value.int) (.int 0)) (hp_qa1 : ∀ c ∈ ([qi6, qi7, qi8] : List Int32), ¬ c < 0 ∧ ¬ (255 : Int32) < c) (E_qa1 : Exa Z h0 qa1 "java/lang/String") (hs0 : ¬ qi2 < 0) (he0 : ¬ (3 : Int32) < qi3) :
    MF l Z Y4_ prog_50_method_3_code 5 (some .boolean) (Rm 4 0 0 53) #[.ref qa1, .int qi2, .int qi3] h0 (Q70 Z qi2 qi3 qi6 qi7 qi8 h0 n0) := by
 refine own_sF pn2 rfl (fun m => ef5 m qa1 qi2 qi3) ?_
 intro p e s m below meth c s₁ Bd hZ hh hx hby hml hown hnm X0 e0 pre0
 have N0 := Fr.nil n0
 have pr1 : Pr p e below s₁ m 2 #[rv qa1, iv qi2, iv qi3, .unset, .unset] [.int qi3, .int qi2] s₁ (entryFrame m #[.ref qa1, .int qi2, .int qi3] 5) := fun t k => pre0 t (by
  show Sx p e below s₁ m 0 #[rv qa1, iv qi2, iv qi3, .unset, .unset] [] _
  refine zj X0 Bd d4_0 rfl ?_
  refine zj X0 Bd d4_1 rfl ?_
  exact k)
 by_cases hc2 : qi2 < qi3
 ·
  skip
  have pr3 : Pr p e below s₁ m 9 #[rv qa1, iv qi2, iv qi3, iv qi2, .unset] [] s₁ (entryFrame m #[.ref qa1, .int qi2, .int qi3] 5) := fun t k => pr1 t (by
   show Sx p e below s₁ m 2 #[rv qa1, iv qi2, iv qi3, .unset, .unset] [.int qi3, .int qi2] _
   refine zy (pc' := 7) X0 Bd d4_2 (XT.ii_lt_t (hc2 : qi2 < qi3)) rfl ?_
   refine zj X0 Bd d4_7 rfl ?_
   refine zt X0 Bd d4_8 (l' := #[rv qa1, iv qi2, iv qi3, iv qi2, .unset]) rfl ?_
   exact k)
  refine own_loop1 (fun i_ => (qi3.toInt - i_.toInt).toNat) (fun T4 L4 i_ => ∃ sl4_4 : Slot, Stand p l e (Rm 4 0 0 53) s m #[.ref qa1, .int qi2, .int qi3] below meth c T4 L4 0 0 ∧ T4.heap = h0 ∧ Fr n0 L4 ∧ (¬ i_ < 0) ∧ ((own_digI ([qi6, qi7, qi8] : List Int32) qi2 qi3) = own_digI ([qi6, qi7, qi8] : List Int32) i_ qi3) ∧ (sl4_4 = .unset ∨ ∃ w, sl4_4 = .val w ∧ w.category = 1) ∧ Pr p e below T4 m 9 #[rv qa1, iv qi2, iv qi3, iv i_, sl4_4] [] s₁ (entryFrame m #[.ref qa1, .int qi2, .int qi3] 5)) ?_ s₁ _ qi2 ⟨.unset, X0, e0, N0, hs0, rfl, (Or.inl rfl), (fun t k => pr3 t k)⟩
  intro T4 L4 i_ hI4 ih4
  obtain ⟨sl4_4, X4, e4, N4, hq4_0, hq4_1, one4_4, pr4⟩ := hI4
  have pr5 : Pr p e below T4 m 11 #[rv qa1, iv qi2, iv qi3, iv i_, sl4_4] [.int qi3, .int i_] s₁ (entryFrame m #[.ref qa1, .int qi2, .int qi3] 5) := fun t k => pr4 t (by
   show Sx p e below T4 m 9 #[rv qa1, iv qi2, iv qi3, iv i_, sl4_4] [] _
   refine zj X4 Bd d4_9 rfl ?_
   refine zj X4 Bd d4_10 rfl ?_
   exact k)
  by_cases hc6 : i_ < qi3
  ·
   skip
   have hcd8 : StrChars.Road.CodA ([qi6, qi7, qi8] : List Int32) 0 (3 : Int32) ((([qi6, qi7, qi8] : List Int32).map (fun c => c.toInt8.toInt32)).map Value.int) := StrChars.Road.codOf (n := 3) rfl (fun x hx => (hp_qa1 x hx).2)
   have hbd8 : ∀ x ∈ ([qi6, qi7, qi8] : List Int32), ¬ x < 0 ∧ ¬ (65535 : Int32) < x := own_up _ hp_qa1
   obtain ⟨cq7, kq7, q7a, q7b, q7c⟩ := isOf hZ e4 E_qa1
   obtain ⟨_, T7, L7, X7, hQ7, st7⟩ := own_cb0 0 0 0 0 0 0 (X4.virtualBack hx (y := Y5_) (z := Y5_) hown (mvT hZ (w65_ hw)) (mvT hZ (w66_ hw)) (notFace_of_selects (args := #[]) (mvT hZ (w68_ hw))) (mvT hZ (w68_ hw)) (mvT hZ (w67_ hw)) (by decide) (StrChars.Road.chN (W := 0) hZ (own_wc hw) (kI := 4) (w2_ hw) E_qa1 F_qa1_value F_qa1_coder A_qa4 hcd8 hbd8 (O2.ext X00.2) P5 (O4.ext X00.2) rG3 (lE rfl) (i := (i_).toNatClampNeg) (own_ilt (k := 3) (by decide) hq4_0 hc6 he0) (j := i_) (own_ofn hq4_0) (lE rfl) (lE rfl)) q7a q7c (g := (mkF m 16 #[rv qa1, iv qi2, iv qi3, iv i_, sl4_4] [.int i_, .ref qa1])) rfl hml.symm (Steps.refl _) (argsL := [.int i_]) (rest := []) (lenOf pd4 rfl) rfl (own_hw rfl) (hb hby d4_16) (fun _ _ => ⟨rfl, e4, (lE rfl : 0 + 0 ≤ _), (lE rfl : 0 + 0 ≤ _)⟩)) rfl rfl
   dsimp only [Pt.U, Pt.locs, Pt.cells, Pt.slots] at hQ7
   obtain ⟨rfl, rfl, e7q⟩ := hQ7
   have N7 := Fr.app N4 (Fr.nil n0)
   have pr9 : Pr p e below T7 m 25 #[rv qa1, iv qi2, iv qi3, iv i_, iv (own_at ([qi6, qi7, qi8] : List Int32) i_)] [.int 48, (.int (own_at ([qi6, qi7, qi8] : List Int32) i_))] s₁ (entryFrame m #[.ref qa1, .int qi2, .int qi3] 5) := fun t k => pr5 t (by
    show Sx p e below T4 m 11 #[rv qa1, iv qi2, iv qi3, iv i_, sl4_4] [.int qi3, .int i_] _
    refine zn X4 Bd d4_11 (XT.ii_ge_f (hc6 : i_ < qi3)) ?_
    refine zb X4 Bd d4_14 rfl rfl ?_
    refine zj X4 Bd d4_15 rfl ?_
    refine st7.trans ?_
    refine XS.istoreS X7.here hx rfl (hb hby d4_19) rfl rfl one4_4 ?_
    refine zi X7 Bd d4_21 rfl ?_
    refine zd X7 Bd d4_23 ?_
    exact k)
   by_cases hc10 : (own_at ([qi6, qi7, qi8] : List Int32) i_) < (48 : Int32)
   ·
    skip
    refine own_lvF X7 Bd (.int 0) e7q ⟨(by rw [own_isd, if_pos hc2, hq4_1, own_dig0 hc6 hq4_0 (Or.inl hc10)]), N7, rfl⟩ rfl (fun fs hr => pr9 _ (by
     show Sx p e below T7 m 25 #[rv qa1, iv qi2, iv qi3, iv i_, iv (own_at ([qi6, qi7, qi8] : List Int32) i_)] [.int 48, (.int (own_at ([qi6, qi7, qi8] : List Int32) i_))] _
     refine zy (pc' := 35) X7 Bd d4_25 (XT.ii_lt_t (hc10 : (own_at ([qi6, qi7, qi8] : List Int32) i_) < (48 : Int32))) rfl ?_
     refine zc X7 Bd d4_35 ?_
     exact retN X7 hx (t := .boolean) Bd.returns (by simp) (hb hby d4_36) hr))
   ·
    skip
    have pr11 : Pr p e below T7 m 32 #[rv qa1, iv qi2, iv qi3, iv i_, iv (own_at ([qi6, qi7, qi8] : List Int32) i_)] [.int 57, (.int (own_at ([qi6, qi7, qi8] : List Int32) i_))] s₁ (entryFrame m #[.ref qa1, .int qi2, .int qi3] 5) := fun t k => pr9 t (by
     show Sx p e below T7 m 25 #[rv qa1, iv qi2, iv qi3, iv i_, iv (own_at ([qi6, qi7, qi8] : List Int32) i_)] [.int 48, (.int (own_at ([qi6, qi7, qi8] : List Int32) i_))] _
     refine zn X7 Bd d4_25 (XT.ii_lt_f (hc10 : ¬ ((own_at ([qi6, qi7, qi8] : List Int32) i_) < (48 : Int32)))) ?_
     refine zi X7 Bd d4_28 rfl ?_
     refine zd X7 Bd d4_30 ?_
     exact k)
    by_cases hc12 : (57 : Int32) < (own_at ([qi6, qi7, qi8] : List Int32) i_)
    ·
     skip
     refine own_lvF X7 Bd (.int 0) e7q ⟨(by rw [own_isd, if_pos hc2, hq4_1, own_dig0 hc6 hq4_0 (Or.inr hc12)]), N7, rfl⟩ rfl (fun fs hr => pr11 _ (by
      show Sx p e below T7 m 32 #[rv qa1, iv qi2, iv qi3, iv i_, iv (own_at ([qi6, qi7, qi8] : List Int32) i_)] [.int 57, (.int (own_at ([qi6, qi7, qi8] : List Int32) i_))] _
      refine zn X7 Bd d4_32 (XT.ii_le_f (hc12 : (57 : Int32) < (own_at ([qi6, qi7, qi8] : List Int32) i_))) ?_
      refine zc X7 Bd d4_35 ?_
      exact retN X7 hx (t := .boolean) Bd.returns (by simp) (hb hby d4_36) hr))
    ·
     skip
     have pr13 : Pr p e below T7 m 9 #[rv qa1, iv qi2, iv qi3, iv (i_ + (1 : Int32)), iv (own_at ([qi6, qi7, qi8] : List Int32) i_)] [] s₁ (entryFrame m #[.ref qa1, .int qi2, .int qi3] 5) := fun t k => pr11 t (by
      show Sx p e below T7 m 32 #[rv qa1, iv qi2, iv qi3, iv i_, iv (own_at ([qi6, qi7, qi8] : List Int32) i_)] [.int 57, (.int (own_at ([qi6, qi7, qi8] : List Int32) i_))] _
      refine zy (pc' := 37) X7 Bd d4_32 (XT.ii_le_t (hc12 : ¬ ((57 : Int32) < (own_at ([qi6, qi7, qi8] : List Int32) i_)))) rfl ?_
      refine XS.iinc X7.here hx rfl (hb hby d4_37) rfl (l' := #[rv qa1, iv qi2, iv qi3, iv (i_ + (1 : Int32)), iv (own_at ([qi6, qi7, qi8] : List Int32) i_)]) rfl ?_
      refine zg (pc' := 9) X7 Bd d4_40 rfl ?_
      exact k)
     exact ih4 T7 _ (i_ + (1 : Int32)) (own_decr hq4_0 hc6) ⟨iv (own_at ([qi6, qi7, qi8] : List Int32) i_), X7, e7q, N7, (own_inc0 hq4_0 hc6), (hq4_1.trans (own_digS hc6 hq4_0 hc10 hc12)), (Or.inr ⟨_, rfl, rfl⟩), (fun t k => pr13 t k)⟩
  ·
   skip
   refine own_lvF X4 Bd (.int 1) e4 ⟨(by rw [own_isd, if_pos hc2, hq4_1, own_dig1 hc6]), N4, rfl⟩ rfl (fun fs hr => pr5 _ (by
    show Sx p e below T4 m 11 #[rv qa1, iv qi2, iv qi3, iv i_, sl4_4] [.int qi3, .int i_] _
    refine zy (pc' := 43) X4 Bd d4_11 (XT.ii_ge_t (hc6 : ¬ (i_ < qi3))) rfl ?_
    refine zc X4 Bd d4_43 ?_
    exact retN X4 hx (t := .boolean) Bd.returns (by simp) (hb hby d4_44) hr))
 ·
  skip
  refine own_lvF X0 Bd (.int 0) e0 ⟨(by rw [own_isd, if_neg hc2]), N0, rfl⟩ rfl (fun fs hr => pr1 _ (by
   show Sx p e below s₁ m 2 #[rv qa1, iv qi2, iv qi3, .unset, .unset] [.int qi3, .int qi2] _
   refine zn X0 Bd d4_2 (XT.ii_lt_f (hc2 : ¬ (qi2 < qi3))) ?_
   refine zc X0 Bd d4_5 ?_
   exact retN X0 hx (t := .boolean) Bd.returns (by simp) (hb hby d4_6) hr))
theorem d0_59 : decode method_4_code 59 = .ok (.iconst 4, 1) := by decide +kernel
theorem d0_60 : decode method_4_code 60 = .ok (.newarray .char, 2) := by decide +kernel
theorem d0_62 : decode method_4_code 62 = .ok (.dup, 1) := by decide +kernel
theorem d0_63 : decode method_4_code 63 = .ok (.iconst 0, 1) := by decide +kernel
theorem d0_64 : decode method_4_code 64 = .ok (.iload_n 1, 1) := by decide +kernel
theorem d0_65 : decode method_4_code 65 = .ok (.castore, 1) := by decide +kernel
theorem d0_66 : decode method_4_code 66 = .ok (.dup, 1) := by decide +kernel
theorem d0_67 : decode method_4_code 67 = .ok (.iconst 1, 1) := by decide +kernel
theorem d0_68 : decode method_4_code 68 = .ok (.iload_n 2, 1) := by decide +kernel
theorem d0_69 : decode method_4_code 69 = .ok (.castore, 1) := by decide +kernel
theorem d0_70 : decode method_4_code 70 = .ok (.dup, 1) := by decide +kernel
theorem d0_71 : decode method_4_code 71 = .ok (.iconst 2, 1) := by decide +kernel
theorem d0_72 : decode method_4_code 72 = .ok (.iload_n 3, 1) := by decide +kernel
theorem d0_73 : decode method_4_code 73 = .ok (.castore, 1) := by decide +kernel
theorem d0_74 : decode method_4_code 74 = .ok (.dup, 1) := by decide +kernel
theorem d0_75 : decode method_4_code 75 = .ok (.iconst 3, 1) := by decide +kernel
theorem d0_76 : decode method_4_code 76 = .ok (.iload 4, 2) := by decide +kernel
theorem d0_78 : decode method_4_code 78 = .ok (.castore, 1) := by decide +kernel
theorem d0_79 : decode method_4_code 79 = .ok (.areturn, 1) := by decide +kernel
-- com/example/backstop/backstop/WholeNumbersIsDigitsPinLaw.chars(ICCCC)[C
def Q71 (Z : State) (qi2 : Int32) (qi3 : Int32) (qi4 : Int32) (qi5 : Int32) (h0 : Heap) (n0 : Nat) (v : Option Value) (h : Heap) (L : List Loc) : Prop := ∃ b5 : Addr, ∃ c5 : ClassId, v = some (.ref b5) ∧ Fr n0 L ∧ Keep h0 h [] ∧ h0.size ≤ b5 ∧ Arv Z h b5 c5 .char (4 : Int32) [.int qi2, .int qi3, .int qi4, .int qi5] (.int 0)
theorem rm71 (l : Launch) (Z : State) (a0 : Array Value) (hw : HW a0 Z) (qi1 : Int32) (qi2 : Int32) (qi3 : Int32) (qi4 : Int32) (qi5 : Int32) (h0 : Heap) (n0 : Nat) (X00 : Old Z n0 h0) (hc1 : ¬ (qi1 = (0 : Int32))) (hc2 : ¬ (qi1 = (1 : Int32))) (hc3 : ¬ (qi1 = (2 : Int32))) (hc4 : ¬ (qi1 = (3 : Int32))) (hr11 : nar .char qi2 = qi2) (hr16 : nar .char qi3 = qi3) (hr21 : nar .char qi4 = qi4) (hr26 : nar .char qi5 = qi5) :
    MF l Z Y0_ method_4_code 5 (some (.array .char)) (Rm 0 1 4 0) #[.int qi1, .int qi2, .int qi3, .int qi4, .int qi5] h0 (Q71 Z qi2 qi3 qi4 qi5 h0 n0) := by
 refine own_sF pn0 rfl (fun m => ef1 m qi1 qi2 qi3 qi4 qi5) ?_
 intro p e s m below meth c s₁ Bd hZ hh hx hby hml hown hnm X0 e0 pre0
 have N0 := Fr.nil n0
 obtain ⟨T5, h5, c5, X5, e5, E5, A5, st5⟩ := newP (aty := .char) X0 hx hZ (w8_ hw) e0 (g := (mkF m 60 #[iv qi1, iv qi2, iv qi3, iv qi4, iv qi5] [.int 4])) rfl (hb hby d0_60) rfl (by decide) (cap := 4) (by decide) (lE rfl) (lE rfl) (lE rfl)
 obtain ⟨b5, g5⟩ : ∃ z, z = h0.size := ⟨_, rfl⟩
 rw [← g5] at A5 st5
 replace X5 : Stand p l e (Rm 0 1 4 0) s m #[.int qi1, .int qi2, .int qi3, .int qi4, .int qi5] below meth c T5 _ 1 4 := X5
 have K6 := (Keep.refl h0 []).ext E5
 have A7_ : Arv Z h5 b5 c5 .char (4 : Int32) [.int 0, .int 0, .int 0, .int 0] (.int 0) := (Arv.new A5 (by decide)).pad (pad_rep [] (.int 0) 4)
 have av8 := A7_
 obtain ⟨cl8, Ar8, q8, S8, N8, H8, Gf8⟩ := av8
 have hin9 : ¬ ((0 : Int32) < 0 ∨ cl8.slots.size ≤ ((0 : Int32) : Int32).toNatClampNeg) := inb_of S8 (by decide)
 obtain ⟨T9, h9, X9, e9, W9, st9⟩ := stC X5 hx hZ e5 Ar8 (j := (0 : Int32)) hin9 (g := (mkF m 65 #[iv qi1, iv qi2, iv qi3, iv qi4, iv qi5] [.int qi2, .int 0, .ref b5, .ref b5])) rfl rfl (hb hby d0_65)
 have g_b5 : n0 ≤ b5 := Nat.le_trans (Nat.le_trans (Nat.le_of_eq X00.1.symm) X00.2.1) (Nat.le_of_eq g5.symm)
 have N9_ := Fr.snoc X9 N0 g_b5
 have sz_b5 : h0.size ≤ b5 := (Nat.le_of_eq g5.symm)
 have K10 := K6.wr W9 (Or.inr sz_b5)
 have A12_ : Arv Z h9 b5 c5 .char (4 : Int32) [.int qi2, .int 0, .int 0, .int 0] (.int 0) := by have q := Arv.set (v := .int (nar .char qi2)) Ar8 q8 S8 N8 H8 Gf8 (fits_nar_char _) W9 0 (by decide) (lE rfl); rw [(hr11 : nar .char qi2 = qi2)] at q; exact q
 have av13 := A12_
 obtain ⟨cl13, Ar13, q13, S13, N13, H13, Gf13⟩ := av13
 have hin14 : ¬ ((1 : Int32) < 0 ∨ cl13.slots.size ≤ ((1 : Int32) : Int32).toNatClampNeg) := inb_of S13 (by decide)
 obtain ⟨T14, h14, X14, e14, W14, st14⟩ := stC X9 hx hZ e9 Ar13 (j := (1 : Int32)) hin14 (g := (mkF m 69 #[iv qi1, iv qi2, iv qi3, iv qi4, iv qi5] [.int qi3, .int 1, .ref b5, .ref b5])) rfl rfl (hb hby d0_69)
 have N14_ := Fr.snoc X14 N9_ g_b5
 have K15 := K10.wr W14 (Or.inr sz_b5)
 have A17_ : Arv Z h14 b5 c5 .char (4 : Int32) [.int qi2, .int qi3, .int 0, .int 0] (.int 0) := by have q := Arv.set (v := .int (nar .char qi3)) Ar13 q13 S13 N13 H13 Gf13 (fits_nar_char _) W14 1 (by decide) (lE rfl); rw [(hr16 : nar .char qi3 = qi3)] at q; exact q
 have av18 := A17_
 obtain ⟨cl18, Ar18, q18, S18, N18, H18, Gf18⟩ := av18
 have hin19 : ¬ ((2 : Int32) < 0 ∨ cl18.slots.size ≤ ((2 : Int32) : Int32).toNatClampNeg) := inb_of S18 (by decide)
 obtain ⟨T19, h19, X19, e19, W19, st19⟩ := stC X14 hx hZ e14 Ar18 (j := (2 : Int32)) hin19 (g := (mkF m 73 #[iv qi1, iv qi2, iv qi3, iv qi4, iv qi5] [.int qi4, .int 2, .ref b5, .ref b5])) rfl rfl (hb hby d0_73)
 have N19_ := Fr.snoc X19 N14_ g_b5
 have K20 := K15.wr W19 (Or.inr sz_b5)
 have A22_ : Arv Z h19 b5 c5 .char (4 : Int32) [.int qi2, .int qi3, .int qi4, .int 0] (.int 0) := by have q := Arv.set (v := .int (nar .char qi4)) Ar18 q18 S18 N18 H18 Gf18 (fits_nar_char _) W19 2 (by decide) (lE rfl); rw [(hr21 : nar .char qi4 = qi4)] at q; exact q
 have av23 := A22_
 obtain ⟨cl23, Ar23, q23, S23, N23, H23, Gf23⟩ := av23
 have hin24 : ¬ ((3 : Int32) < 0 ∨ cl23.slots.size ≤ ((3 : Int32) : Int32).toNatClampNeg) := inb_of S23 (by decide)
 obtain ⟨T24, h24, X24, e24, W24, st24⟩ := stC X19 hx hZ e19 Ar23 (j := (3 : Int32)) hin24 (g := (mkF m 78 #[iv qi1, iv qi2, iv qi3, iv qi4, iv qi5] [.int qi5, .int 3, .ref b5, .ref b5])) rfl rfl (hb hby d0_78)
 have N24_ := Fr.snoc X24 N19_ g_b5
 have K25 := K20.wr W24 (Or.inr sz_b5)
 have A27_ : Arv Z h24 b5 c5 .char (4 : Int32) [.int qi2, .int qi3, .int qi4, .int qi5] (.int 0) := by have q := Arv.set (v := .int (nar .char qi5)) Ar23 q23 S23 N23 H23 Gf23 (fits_nar_char _) W24 3 (by decide) (lE rfl); rw [(hr26 : nar .char qi5 = qi5)] at q; exact q
 refine own_lvF X24 Bd (.ref b5) e24 ⟨b5, c5, rfl, N24_, K25, sz_b5, A27_⟩ rfl (fun fs hr => pre0 _ (by
  show Sx p e below s₁ m 0 #[iv qi1, iv qi2, iv qi3, iv qi4, iv qi5] [] _
  refine zj X0 Bd d0_0 rfl ?_
  refine zp (pc' := 8) X0 Bd d0_1 (XT.i0_ne_t (hc1 : ¬ (qi1 = (0 : Int32)))) rfl ?_
  refine zj X0 Bd d0_8 rfl ?_
  refine zc X0 Bd d0_9 ?_
  refine zy (pc' := 21) X0 Bd d0_10 (XT.ii_ne_t (hc2 : ¬ (qi1 = (1 : Int32)))) rfl ?_
  refine zj X0 Bd d0_21 rfl ?_
  refine zc X0 Bd d0_22 ?_
  refine zy (pc' := 38) X0 Bd d0_23 (XT.ii_ne_t (hc3 : ¬ (qi1 = (2 : Int32)))) rfl ?_
  refine zj X0 Bd d0_38 rfl ?_
  refine zc X0 Bd d0_39 ?_
  refine zy (pc' := 59) X0 Bd d0_40 (XT.ii_ne_t (hc4 : ¬ (qi1 = (3 : Int32)))) rfl ?_
  refine zc X0 Bd d0_59 ?_
  refine st5 _ ?_
  refine XS.dup X5.here hx rfl (hb hby d0_62) rfl rfl ?_
  refine zc X5 Bd d0_63 ?_
  refine zj X5 Bd d0_64 rfl ?_
  refine st9 _ ?_
  refine XS.dup X9.here hx rfl (hb hby d0_66) rfl rfl ?_
  refine zc X9 Bd d0_67 ?_
  refine zj X9 Bd d0_68 rfl ?_
  refine st14 _ ?_
  refine XS.dup X14.here hx rfl (hb hby d0_70) rfl rfl ?_
  refine zc X14 Bd d0_71 ?_
  refine zj X14 Bd d0_72 rfl ?_
  refine st19 _ ?_
  show Sx p e below T19 m 74 #[iv qi1, iv qi2, iv qi3, iv qi4, iv qi5] [.ref b5] _
  refine XS.dup X19.here hx rfl (hb hby d0_74) rfl rfl ?_
  refine zc X19 Bd d0_75 ?_
  refine zi X19 Bd d0_76 rfl ?_
  refine st24 _ ?_
  exact retOut X24 hx Bd.returns rfl (Or.inr (Or.inr (Or.inr (Or.inr ⟨rfl, rfl, rfl⟩)))) (hb hby d0_79) hr))
-- java/lang/StringUTF16.compress([CI[BII)I
def Q72 (Z : State)  (h0 : Heap) (n0 : Nat) (v : Option Value) (h : Heap) (L : List Loc) : Prop := v = some (.int 0) ∧ Fr n0 L ∧ h = h0
theorem rm72 (l : Launch) (Z : State) (a0 : Array Value) (hw : HW a0 Z) (qa1 : Addr) (qa2 : Addr) (qk3 : ClassId) (qi4 : Int32) (qi5 : Int32) (qi6 : Int32) (qi7 : Int32) (h0 : Heap) (n0 : Nat) (X00 : Old Z n0 h0) (A_qa1 : Arv Z h0 qa1 qk3 .char (4 : Int32) [.int qi4, .int qi5, .int qi6, .int qi7] (.int 0)) (hc3 : (255 : Int32) < qi4) :
    MF l Z Y6_ jdk_52_method_21_code 7 (some .int) (Rm 0 0 0 0) #[.ref qa1, .int 0, .ref qa2, .int 0, .int 4] h0 (Q72 Z  h0 n0) := by
 refine own_sF pn3 rfl (fun m => ef7 m qa1 (0 : Int32) qa2 (0 : Int32) (4 : Int32)) ?_
 intro p e s m below meth c s₁ Bd hZ hh hx hby hml hown hnm X0 e0 pre0
 have N0 := Fr.nil n0
 have av1 := A_qa1
 obtain ⟨cl1, Ar1, q1, S1, N1, H1, Gf1⟩ := av1
 have hin2 : ¬ ((0 : Int32) < 0 ∨ cl1.slots.size ≤ ((0 : Int32) : Int32).toNatClampNeg) := inb_of S1 (by decide)
 have hat2 : cl1.slots[((0 : Int32) : Int32).toNatClampNeg]? = some (.int qi4) := Has.at H1 hin2 rfl
 refine own_lvF X0 Bd (.int 0) e0 ⟨rfl, N0, rfl⟩ rfl (fun fs hr => pre0 _ (by
  show Sx p e below s₁ m 0 #[rv qa1, iv 0, rv qa2, iv 0, iv 4, .unset, .unset] [] _
  refine zc X0 Bd d6_0 ?_
  refine zs X0 Bd d6_1 (l' := #[rv qa1, iv 0, rv qa2, iv 0, iv 4, iv 0, .unset]) rfl ?_
  refine zi X0 Bd d6_3 rfl ?_
  refine zi X0 Bd d6_5 rfl ?_
  refine zn X0 Bd d6_7 (XT.ii_ge_f ((by decide) : (0 : Int32) < (4 : Int32))) ?_
  refine zb X0 Bd d6_10 rfl rfl ?_
  refine zj X0 Bd d6_11 rfl ?_
  refine X0.caload hx (j := (0 : Int32)) (v := (.int qi4)) (by rw [e0]; exact Ar1.1) (State.isArrayOf_alike hZ.alike Ar1.2.1) Ar1.2.2 hin2 hat2 (g := (mkF m 12 #[rv qa1, iv 0, rv qa2, iv 0, iv 4, iv 0, .unset] [.int 0, .ref qa1])) rfl rfl (hb hby d6_12) _ ?_
  refine zs X0 Bd d6_13 (l' := #[rv qa1, iv 0, rv qa2, iv 0, iv 4, iv 0, iv qi4]) rfl ?_
  refine zi X0 Bd d6_15 rfl ?_
  refine XS.sipush X0.here hx rfl (hb hby d6_17) ?_
  refine zn X0 Bd d6_20 (XT.ii_le_f (hc3 : (255 : Int32) < qi4)) ?_
  refine zi X0 Bd d6_23 rfl ?_
  exact retI X0 hx Bd.returns (hb hby d6_25) hr))
-- java/lang/StringUTF16.newBytesLength(I)I
def Q73 (Z : State)  (h0 : Heap) (n0 : Nat) (v : Option Value) (h : Heap) (L : List Loc) : Prop := v = some (.int 8) ∧ Fr n0 L ∧ h = h0
theorem rm73 (l : Launch) (Z : State) (a0 : Array Value) (hw : HW a0 Z)  (h0 : Heap) (n0 : Nat) (X00 : Old Z n0 h0)  :
    MF l Z Y7_ jdk_52_method_3_code 1 (some .int) (Rm 0 0 0 0) #[.int 4] h0 (Q73 Z  h0 n0) := by
 refine own_sF pn3 rfl (fun m => ef8 m (4 : Int32)) ?_
 intro p e s m below meth c s₁ Bd hZ hh hx hby hml hown hnm X0 e0 pre0
 have N0 := Fr.nil n0
 refine own_lvF X0 Bd (.int 8) e0 ⟨rfl, N0, rfl⟩ rfl (fun fs hr => pre0 _ (by
  show Sx p e below s₁ m 0 #[iv 4] [] _
  refine zj X0 Bd d9_0 rfl ?_
  refine zp (pc' := 12) X0 Bd d9_1 (XT.i0_ge_t ((by decide) : ¬ ((4 : Int32) < (0 : Int32)))) rfl ?_
  refine zj X0 Bd d9_12 rfl ?_
  refine X0.ldcInt hx hown (mvT hZ (w51_ hw)) (g := (mkF m 13 #[iv 4] [.int 4])) rfl (hb hby d9_13) _ ?_
  refine zy (pc' := 55) X0 Bd d9_15 (XT.ii_lt_t ((by decide) : (4 : Int32) < (1073741823 : Int32))) rfl ?_
  refine zj X0 Bd d9_55 rfl ?_
  refine zc X0 Bd d9_56 ?_
  refine XS.ishl X0.here hx rfl (hb hby d9_57) rfl ?_
  exact retI X0 hx Bd.returns (hb hby d9_58) hr))
-- java/lang/StringUTF16.newBytesFor(I)[B
def Q74 (Z : State)  (h0 : Heap) (n0 : Nat) (v : Option Value) (h : Heap) (L : List Loc) : Prop := ∃ b2 : Addr, ∃ c2 : ClassId, v = some (.ref b2) ∧ Fr n0 L ∧ Keep h0 h [] ∧ h0.size ≤ b2 ∧ Arv Z h b2 c2 .byte (8 : Int32) [.int 0, .int 0, .int 0, .int 0, .int 0, .int 0, .int 0, .int 0] (.int 0)
theorem rm74 (l : Launch) (Z : State) (a0 : Array Value) (hw : HW a0 Z)  (h0 : Heap) (n0 : Nat) (X00 : Old Z n0 h0)  :
    MF l Z Y8_ jdk_52_method_2_code 1 (some (.array .byte)) (Rm 1 1 8 12) #[.int 4] h0 (Q74 Z  h0 n0) := by
 refine own_sF pn3 rfl (fun m => ef8 m (4 : Int32)) ?_
 intro p e s m below meth c s₁ Bd hZ hh hx hby hml hown hnm X0 e0 pre0
 have N0 := Fr.nil n0
 obtain ⟨_, T1, L1, X1, hQ1, st1⟩ := own_cS 0 0 [] 1 #[iv 4] X0 hx hZ hown (w48_ hw) (w49_ hw) (w22_ hw) (w50_ hw) (rm73 l Z a0 hw   h0 n0 X00 ) pd7 hml.symm (hb hby d8_1) e0 rfl rfl rfl rfl (by decide)
 obtain ⟨rfl, N1q, e1q⟩ := hQ1
 have N1 := Fr.app N0 N1q
 obtain ⟨T2, h2, c2, X2, e2, E2, A2, st2⟩ := newP (aty := .byte) X1 hx hZ (w24_ hw) e1q (g := (mkF m 4 #[iv 4] [.int 8])) rfl (hb hby d8_4) rfl (by decide) (cap := 8) (by decide) (lE rfl) (lE rfl) (lE rfl)
 obtain ⟨b2, g2⟩ : ∃ z, z = h0.size := ⟨_, rfl⟩
 rw [← g2] at A2 st2
 replace X2 : Stand p l e (Rm 1 1 8 12) s m #[.int 4] below meth c T2 _ 1 8 := X2
 have K3 := (Keep.refl h0 []).ext E2
 have A4_ : Arv Z h2 b2 c2 .byte (8 : Int32) [.int 0, .int 0, .int 0, .int 0, .int 0, .int 0, .int 0, .int 0] (.int 0) := (Arv.new A2 (by decide)).pad (pad_rep [] (.int 0) 8)
 have sz_b2 : h0.size ≤ b2 := (Nat.le_of_eq g2.symm)
 refine own_lvF X2 Bd (.ref b2) e2 ⟨b2, c2, rfl, N1, K3, sz_b2, A4_⟩ rfl (fun fs hr => pre0 _ (by
  show Sx p e below s₁ m 0 #[iv 4] [] _
  refine zj X0 Bd d8_0 rfl ?_
  refine st1 _ ?_
  refine st2 _ ?_
  exact retOut X2 hx Bd.returns rfl (Or.inr (Or.inr (Or.inr (Or.inr ⟨rfl, rfl, rfl⟩)))) (hb hby d8_6) hr))
-- java/lang/StringUTF16.putChar([BII)V
def Q75 (Z : State) (qa1 : Addr) (qi2 : Int32) (qi3 : Int32) (qk4 : ClassId) (qi5 : Int32) (qi6 : Int32) (qi7 : Int32) (qi8 : Int32) (qi9 : Int32) (qi10 : Int32) (qi11 : Int32) (qi12 : Int32) (h0 : Heap) (n0 : Nat) (v : Option Value) (h : Heap) (L : List Loc) : Prop := v = none ∧ Fr n0 L ∧ Keep h0 h [qa1] ∧ Arv Z h qa1 qk4 .byte (8 : Int32) (((([qi5, qi6, qi7, qi8, qi9, qi10, qi11, qi12] : List Int32).set (((qi2 <<< ((1 : Int32) &&& 31)))).toNatClampNeg ((((qi3 >>> ((0 : Int32) &&& 31)))).toInt8.toInt32)).set ((((qi2 <<< ((1 : Int32) &&& 31))) + (1 : Int32))).toNatClampNeg ((((qi3 >>> ((8 : Int32) &&& 31)))).toInt8.toInt32)).map Value.int) (.int 0)
theorem rm75 (l : Launch) (Z : State) (a0 : Array Value) (hw : HW a0 Z) (qa1 : Addr) (qi2 : Int32) (qi3 : Int32) (qk4 : ClassId) (qi5 : Int32) (qi6 : Int32) (qi7 : Int32) (qi8 : Int32) (qi9 : Int32) (qi10 : Int32) (qi11 : Int32) (qi12 : Int32) (h0 : Heap) (n0 : Nat) (X00 : Old Z n0 h0) (uS12 : Sta Z Z.heap "java/lang/StringUTF16" "$assertionsDisabled" "Z" (.int 1)) (uS15 : Sta Z Z.heap "java/lang/StringUTF16" "HI_BYTE_SHIFT" "I" (.int 0)) (uS18 : Sta Z Z.heap "java/lang/StringUTF16" "LO_BYTE_SHIFT" "I" (.int 8)) (A_qa1 : Arv Z h0 qa1 qk4 .byte (8 : Int32) [.int qi5, .int qi6, .int qi7, .int qi8, .int qi9, .int qi10, .int qi11, .int qi12] (.int 0)) (hc4 : ¬ (qi2 < (0 : Int32))) (hc5 : qi2 < (4 : Int32)) (g_qa1 : n0 ≤ qa1) :
    MF l Z Y9_ jdk_52_method_4_code 3 none (Rm 0 0 0 0) #[.ref qa1, .int qi2, .int qi3] h0 (Q75 Z qa1 qi2 qi3 qk4 qi5 qi6 qi7 qi8 qi9 qi10 qi11 qi12 h0 n0) := by
 refine own_sF pn3 rfl (fun m => ef9 m qa1 qi2 qi3) ?_
 intro p e s m below meth c s₁ Bd hZ hh hx hby hml hown hnm X0 e0 pre0
 have N0 := Fr.nil n0
 obtain ⟨T1, X1, e1, st1⟩ := getS2 X0 hx hZ hown (host := "") (Or.inl (w55_ hw)) Via.refl e0 (uS12.ext X00.2) (g := (mkF m 0 #[rv qa1, iv qi2, iv qi3] [])) rfl (hb hby d10_0)
 obtain ⟨T2, X2, e2, st2⟩ := getS2 X1 hx hZ hown (host := "") (Or.inl (w56_ hw)) Via.refl e1 (uS15.ext X00.2) (g := (mkF m 38 #[rv qa1, iv (((qi2 <<< ((1 : Int32) &&& 31))) + (1 : Int32)), iv qi3] [.int qi3, (.int ((qi2 <<< ((1 : Int32) &&& 31)))), .ref qa1])) rfl (hb hby d10_38)
 have A3_ : Arv Z h0 qa1 qk4 .byte (8 : Int32) (([qi5, qi6, qi7, qi8, qi9, qi10, qi11, qi12] : List Int32).map Value.int) (.int 0) := A_qa1
 have av6 := A3_
 obtain ⟨cl6, Ar6, q6, S6, N6, H6, Gf6⟩ := av6
 have hin7 : ¬ (((qi2 <<< ((1 : Int32) &&& 31))) < 0 ∨ cl6.slots.size ≤ (((qi2 <<< ((1 : Int32) &&& 31))) : Int32).toNatClampNeg) := inb_of S6 (own_shla4 hc4 hc5)
 obtain ⟨T7, h7, X7, e7, W7, st7⟩ := stB X2 hx hZ e2 Ar6 (j := ((qi2 <<< ((1 : Int32) &&& 31)))) hin7 (g := (mkF m 43 #[rv qa1, iv (((qi2 <<< ((1 : Int32) &&& 31))) + (1 : Int32)), iv qi3] [(.int ((((qi3 >>> ((0 : Int32) &&& 31)))).toInt8.toInt32)), (.int ((qi2 <<< ((1 : Int32) &&& 31)))), .ref qa1])) rfl rfl (hb hby d10_43)
 have N7_ := Fr.snoc X7 N0 g_qa1
 have K8 := (Keep.refl h0 [qa1]).wr W7 (Or.inl (mI 0 rfl))
 have A9_ : Arv Z h7 qa1 qk4 .byte (8 : Int32) ((([qi5, qi6, qi7, qi8, qi9, qi10, qi11, qi12] : List Int32).set (((qi2 <<< ((1 : Int32) &&& 31)))).toNatClampNeg ((((qi3 >>> ((0 : Int32) &&& 31)))).toInt8.toInt32)).map Value.int) (.int 0) := by rw [List.map_set]; have q := Arv.set (v := .int (nar .byte ((((qi3 >>> ((0 : Int32) &&& 31)))).toInt8.toInt32))) Ar6 q6 S6 N6 H6 Gf6 (fits_nar_byte _) W7 _ rfl (by rw [List.length_map]; exact own_ltn (k := 8) (by decide) (own_shla4 hc4 hc5)); rw [((own_nar_i2b _) : nar .byte ((((qi3 >>> ((0 : Int32) &&& 31)))).toInt8.toInt32) = ((((qi3 >>> ((0 : Int32) &&& 31)))).toInt8.toInt32))] at q; exact q
 have O11 := X00.wr W7 g_qa1
 obtain ⟨T10, X10, e10, st10⟩ := getS2 X7 hx hZ hown (host := "") (Or.inl (w57_ hw)) Via.refl e7 (uS18.ext O11.2) (g := (mkF m 47 #[rv qa1, iv (((qi2 <<< ((1 : Int32) &&& 31))) + (1 : Int32)), iv qi3] [.int qi3, (.int (((qi2 <<< ((1 : Int32) &&& 31))) + (1 : Int32))), .ref qa1])) rfl (hb hby d10_47)
 have av12 := A9_
 obtain ⟨cl12, Ar12, q12, S12, N12, H12, Gf12⟩ := av12
 have hin13 : ¬ ((((qi2 <<< ((1 : Int32) &&& 31))) + (1 : Int32)) < 0 ∨ cl12.slots.size ≤ ((((qi2 <<< ((1 : Int32) &&& 31))) + (1 : Int32)) : Int32).toNatClampNeg) := inb_of S12 (own_shlb4 hc4 hc5)
 obtain ⟨T13, h13, X13, e13, W13, st13⟩ := stB X10 hx hZ e10 Ar12 (j := (((qi2 <<< ((1 : Int32) &&& 31))) + (1 : Int32))) hin13 (g := (mkF m 52 #[rv qa1, iv (((qi2 <<< ((1 : Int32) &&& 31))) + (1 : Int32)), iv qi3] [(.int ((((qi3 >>> ((8 : Int32) &&& 31)))).toInt8.toInt32)), (.int (((qi2 <<< ((1 : Int32) &&& 31))) + (1 : Int32))), .ref qa1])) rfl rfl (hb hby d10_52)
 have N13_ := Fr.snoc X13 N7_ g_qa1
 have K14 := K8.wr W13 (Or.inl (mI 0 rfl))
 have A15_ : Arv Z h13 qa1 qk4 .byte (8 : Int32) (((([qi5, qi6, qi7, qi8, qi9, qi10, qi11, qi12] : List Int32).set (((qi2 <<< ((1 : Int32) &&& 31)))).toNatClampNeg ((((qi3 >>> ((0 : Int32) &&& 31)))).toInt8.toInt32)).set ((((qi2 <<< ((1 : Int32) &&& 31))) + (1 : Int32))).toNatClampNeg ((((qi3 >>> ((8 : Int32) &&& 31)))).toInt8.toInt32)).map Value.int) (.int 0) := by rw [List.map_set]; have q := Arv.set (v := .int (nar .byte ((((qi3 >>> ((8 : Int32) &&& 31)))).toInt8.toInt32))) Ar12 q12 S12 N12 H12 Gf12 (fits_nar_byte _) W13 _ rfl (by rw [List.length_map, List.length_set]; exact own_ltn (k := 8) (by decide) (own_shlb4 hc4 hc5)); rw [((own_nar_i2b _) : nar .byte ((((qi3 >>> ((8 : Int32) &&& 31)))).toInt8.toInt32) = ((((qi3 >>> ((8 : Int32) &&& 31)))).toInt8.toInt32))] at q; exact q
 refine own_lvN X13 Bd e13 ⟨rfl, N13_, K14, A15_⟩ rfl (fun fs hr => pre0 _ (by
  show Sx p e below s₁ m 0 #[rv qa1, iv qi2, iv qi3] [] _
  refine st1 _ ?_
  refine zp (pc' := 28) X1 Bd d10_3 (XT.i0_ne_t ((by decide) : ¬ ((1 : Int32) = (0 : Int32)))) rfl ?_
  refine zj X1 Bd d10_28 rfl ?_
  refine zc X1 Bd d10_29 ?_
  refine XS.ishl X1.here hx rfl (hb hby d10_30) rfl ?_
  refine zt X1 Bd d10_31 (l' := #[rv qa1, iv ((qi2 <<< ((1 : Int32) &&& 31))), iv qi3]) rfl ?_
  refine zb X1 Bd d10_32 rfl rfl ?_
  refine zj X1 Bd d10_33 rfl ?_
  refine XS.iinc X1.here hx rfl (hb hby d10_34) rfl (l' := #[rv qa1, iv (((qi2 <<< ((1 : Int32) &&& 31))) + (1 : Int32)), iv qi3]) rfl ?_
  refine zj X1 Bd d10_37 rfl ?_
  refine st2 _ ?_
  refine XS.ishr X2.here hx rfl (hb hby d10_41) rfl ?_
  refine XS.i2b X2.here hx rfl (hb hby d10_42) rfl ?_
  refine st7 _ ?_
  refine zb X7 Bd d10_44 rfl rfl ?_
  refine zj X7 Bd d10_45 rfl ?_
  refine zj X7 Bd d10_46 rfl ?_
  refine st10 _ ?_
  refine XS.ishr X10.here hx rfl (hb hby d10_50) rfl ?_
  refine XS.i2b X10.here hx rfl (hb hby d10_51) rfl ?_
  refine st13 _ ?_
  exact X13.returnOut hx Bd.returns (hb hby d10_53) hr))
-- java/lang/StringUTF16.toBytes([CII)[B
def Q76 (Z : State) (qi3 : Int32) (qi4 : Int32) (qi5 : Int32) (qi6 : Int32) (h0 : Heap) (n0 : Nat) (v : Option Value) (h : Heap) (L : List Loc) : Prop := ∃ b2 : Addr, ∃ c3_ : ClassId, v = some (.ref b2) ∧ Fr n0 L ∧ Keep h0 h [] ∧ h0.size ≤ b2 ∧ Arv Z h b2 c3_ .byte (8 : Int32) [(.int ((((qi3 >>> ((0 : Int32) &&& 31)))).toInt8.toInt32)), (.int ((((qi3 >>> ((8 : Int32) &&& 31)))).toInt8.toInt32)), (.int ((((qi4 >>> ((0 : Int32) &&& 31)))).toInt8.toInt32)), (.int ((((qi4 >>> ((8 : Int32) &&& 31)))).toInt8.toInt32)), (.int ((((qi5 >>> ((0 : Int32) &&& 31)))).toInt8.toInt32)), (.int ((((qi5 >>> ((8 : Int32) &&& 31)))).toInt8.toInt32)), (.int ((((qi6 >>> ((0 : Int32) &&& 31)))).toInt8.toInt32)), (.int ((((qi6 >>> ((8 : Int32) &&& 31)))).toInt8.toInt32))] (.int 0)
theorem rm76 (l : Launch) (Z : State) (a0 : Array Value) (hw : HW a0 Z) (qa1 : Addr) (qk2 : ClassId) (qi3 : Int32) (qi4 : Int32) (qi5 : Int32) (qi6 : Int32) (h0 : Heap) (n0 : Nat) (X00 : Old Z n0 h0) (uS12 : Sta Z Z.heap "java/lang/StringUTF16" "$assertionsDisabled" "Z" (.int 1)) (uS15 : Sta Z Z.heap "java/lang/StringUTF16" "HI_BYTE_SHIFT" "I" (.int 0)) (uS18 : Sta Z Z.heap "java/lang/StringUTF16" "LO_BYTE_SHIFT" "I" (.int 8)) (A_qa1 : Arv Z h0 qa1 qk2 .char (4 : Int32) [.int qi3, .int qi4, .int qi5, .int qi6] (.int 0)) :
    MF l Z Y10_ jdk_52_method_14_code 5 (some (.array .byte)) (Rm 2 1 8 24) #[.ref qa1, .int 0, .int 4] h0 (Q76 Z qi3 qi4 qi5 qi6 h0 n0) := by
 refine own_sF pn3 rfl (fun m => ef5 m qa1 (0 : Int32) (4 : Int32)) ?_
 intro p e s m below meth c s₁ Bd hZ hh hx hby hml hown hnm X0 e0 pre0
 have N0 := Fr.nil n0
 obtain ⟨_, T1, L1, X1, hQ1, st1⟩ := own_cS 1 8 [] 1 #[rv qa1, iv 0, iv 4, .unset, .unset] X0 hx hZ hown (w45_ hw) (w46_ hw) (w22_ hw) (w47_ hw) (rm74 l Z a0 hw   h0 n0 X00 ) pd8 hml.symm (hb hby d7_1) e0 rfl rfl rfl rfl (by decide)
 obtain ⟨b2, c3_, rfl, N1q, K1q, w4, w5⟩ := hQ1
 have N1 := Fr.app N0 N1q
 have K6 := (Keep.refl h0 []).trans K1q (fun x q => nomatch q)
 have A8_ := A_qa1.keep K1q nin0
 have av7 := A8_
 obtain ⟨cl7, Ar7, q7, S7, N7, H7, Gf7⟩ := av7
 have hin9 : ¬ ((0 : Int32) < 0 ∨ cl7.slots.size ≤ ((0 : Int32) : Int32).toNatClampNeg) := inb_of S7 (by decide)
 have hat9 : cl7.slots[((0 : Int32) : Int32).toNatClampNeg]? = some (.int qi3) := Has.at H7 hin9 rfl
 have g_b2 : n0 ≤ b2 := Nat.le_trans (Nat.le_trans (Nat.le_of_eq X00.1.symm) X00.2.1) w4
 have O11 := X00.keep K1q all0
 obtain ⟨_, T10, L10, X10, hQ10, st10⟩ := own_cS 1 8 [] 20 #[rv qa1, iv 0, iv 4, rv b2, iv 0] X1 hx hZ hown (w52_ hw) (w53_ hw) (w22_ hw) (w54_ hw) (rm75 l Z a0 hw  b2 (0 : Int32) qi3 c3_ (0 : Int32) (0 : Int32) (0 : Int32) (0 : Int32) (0 : Int32) (0 : Int32) (0 : Int32) (0 : Int32) T1.heap n0 O11 uS12 uS15 uS18 w5 (by decide) (by decide) g_b2) pd9 hml.symm (hb hby d7_20) rfl rfl rfl rfl rfl (by decide)
 obtain ⟨rfl, N10q, K10q, w12⟩ := hQ10
 have N10 := Fr.app N1 N10q
 have sz_b2 : h0.size ≤ b2 := w4
 have K13 := K6.trans K10q (allS (Or.inr sz_b2) all0)
 have A14_ : Arv Z T10.heap b2 c3_ .byte (8 : Int32) [(.int ((((qi3 >>> ((0 : Int32) &&& 31)))).toInt8.toInt32)), (.int ((((qi3 >>> ((8 : Int32) &&& 31)))).toInt8.toInt32)), .int 0, .int 0, .int 0, .int 0, .int 0, .int 0] (.int 0) := w12
 have A16_ := A8_.keep K10q (ninS (Nat.ne_of_lt (Nat.lt_of_lt_of_le A_qa1.lt w4)) nin0)
 have av15 := A16_
 obtain ⟨cl15, Ar15, q15, S15, N15, H15, Gf15⟩ := av15
 have hin17 : ¬ ((1 : Int32) < 0 ∨ cl15.slots.size ≤ ((1 : Int32) : Int32).toNatClampNeg) := inb_of S15 (by decide)
 have hat17 : cl15.slots[((1 : Int32) : Int32).toNatClampNeg]? = some (.int qi4) := Has.at H15 hin17 rfl
 have O19 := O11.keep K10q (allS g_b2 all0)
 obtain ⟨_, T18, L18, X18, hQ18, st18⟩ := own_cS 1 8 [] 20 #[rv qa1, iv 1, iv 4, rv b2, iv 1] X10 hx hZ hown (w52_ hw) (w53_ hw) (w22_ hw) (w54_ hw) (rm75 l Z a0 hw  b2 (1 : Int32) qi4 c3_ ((((qi3 >>> ((0 : Int32) &&& 31)))).toInt8.toInt32) ((((qi3 >>> ((8 : Int32) &&& 31)))).toInt8.toInt32) (0 : Int32) (0 : Int32) (0 : Int32) (0 : Int32) (0 : Int32) (0 : Int32) T10.heap n0 O19 uS12 uS15 uS18 A14_ (by decide) (by decide) g_b2) pd9 hml.symm (hb hby d7_20) rfl rfl rfl rfl rfl (by decide)
 obtain ⟨rfl, N18q, K18q, w20⟩ := hQ18
 have N18 := Fr.app N10 N18q
 have K21 := K13.trans K18q (allS (Or.inr sz_b2) all0)
 have A22_ : Arv Z T18.heap b2 c3_ .byte (8 : Int32) [(.int ((((qi3 >>> ((0 : Int32) &&& 31)))).toInt8.toInt32)), (.int ((((qi3 >>> ((8 : Int32) &&& 31)))).toInt8.toInt32)), (.int ((((qi4 >>> ((0 : Int32) &&& 31)))).toInt8.toInt32)), (.int ((((qi4 >>> ((8 : Int32) &&& 31)))).toInt8.toInt32)), .int 0, .int 0, .int 0, .int 0] (.int 0) := w20
 have A24_ := A16_.keep K18q (ninS (Nat.ne_of_lt (Nat.lt_of_lt_of_le A_qa1.lt w4)) nin0)
 have av23 := A24_
 obtain ⟨cl23, Ar23, q23, S23, N23, H23, Gf23⟩ := av23
 have hin25 : ¬ ((2 : Int32) < 0 ∨ cl23.slots.size ≤ ((2 : Int32) : Int32).toNatClampNeg) := inb_of S23 (by decide)
 have hat25 : cl23.slots[((2 : Int32) : Int32).toNatClampNeg]? = some (.int qi5) := Has.at H23 hin25 rfl
 have O27 := O19.keep K18q (allS g_b2 all0)
 obtain ⟨_, T26, L26, X26, hQ26, st26⟩ := own_cS 1 8 [] 20 #[rv qa1, iv 2, iv 4, rv b2, iv 2] X18 hx hZ hown (w52_ hw) (w53_ hw) (w22_ hw) (w54_ hw) (rm75 l Z a0 hw  b2 (2 : Int32) qi5 c3_ ((((qi3 >>> ((0 : Int32) &&& 31)))).toInt8.toInt32) ((((qi3 >>> ((8 : Int32) &&& 31)))).toInt8.toInt32) ((((qi4 >>> ((0 : Int32) &&& 31)))).toInt8.toInt32) ((((qi4 >>> ((8 : Int32) &&& 31)))).toInt8.toInt32) (0 : Int32) (0 : Int32) (0 : Int32) (0 : Int32) T18.heap n0 O27 uS12 uS15 uS18 A22_ (by decide) (by decide) g_b2) pd9 hml.symm (hb hby d7_20) rfl rfl rfl rfl rfl (by decide)
 obtain ⟨rfl, N26q, K26q, w28⟩ := hQ26
 have N26 := Fr.app N18 N26q
 have K29 := K21.trans K26q (allS (Or.inr sz_b2) all0)
 have A30_ : Arv Z T26.heap b2 c3_ .byte (8 : Int32) [(.int ((((qi3 >>> ((0 : Int32) &&& 31)))).toInt8.toInt32)), (.int ((((qi3 >>> ((8 : Int32) &&& 31)))).toInt8.toInt32)), (.int ((((qi4 >>> ((0 : Int32) &&& 31)))).toInt8.toInt32)), (.int ((((qi4 >>> ((8 : Int32) &&& 31)))).toInt8.toInt32)), (.int ((((qi5 >>> ((0 : Int32) &&& 31)))).toInt8.toInt32)), (.int ((((qi5 >>> ((8 : Int32) &&& 31)))).toInt8.toInt32)), .int 0, .int 0] (.int 0) := w28
 have A32_ := A24_.keep K26q (ninS (Nat.ne_of_lt (Nat.lt_of_lt_of_le A_qa1.lt w4)) nin0)
 have av31 := A32_
 obtain ⟨cl31, Ar31, q31, S31, N31, H31, Gf31⟩ := av31
 have hin33 : ¬ ((3 : Int32) < 0 ∨ cl31.slots.size ≤ ((3 : Int32) : Int32).toNatClampNeg) := inb_of S31 (by decide)
 have hat33 : cl31.slots[((3 : Int32) : Int32).toNatClampNeg]? = some (.int qi6) := Has.at H31 hin33 rfl
 have O35 := O27.keep K26q (allS g_b2 all0)
 obtain ⟨_, T34, L34, X34, hQ34, st34⟩ := own_cS 1 8 [] 20 #[rv qa1, iv 3, iv 4, rv b2, iv 3] X26 hx hZ hown (w52_ hw) (w53_ hw) (w22_ hw) (w54_ hw) (rm75 l Z a0 hw  b2 (3 : Int32) qi6 c3_ ((((qi3 >>> ((0 : Int32) &&& 31)))).toInt8.toInt32) ((((qi3 >>> ((8 : Int32) &&& 31)))).toInt8.toInt32) ((((qi4 >>> ((0 : Int32) &&& 31)))).toInt8.toInt32) ((((qi4 >>> ((8 : Int32) &&& 31)))).toInt8.toInt32) ((((qi5 >>> ((0 : Int32) &&& 31)))).toInt8.toInt32) ((((qi5 >>> ((8 : Int32) &&& 31)))).toInt8.toInt32) (0 : Int32) (0 : Int32) T26.heap n0 O35 uS12 uS15 uS18 A30_ (by decide) (by decide) g_b2) pd9 hml.symm (hb hby d7_20) rfl rfl rfl rfl rfl (by decide)
 obtain ⟨rfl, N34q, K34q, w36⟩ := hQ34
 have N34 := Fr.app N26 N34q
 have K37 := K29.trans K34q (allS (Or.inr sz_b2) all0)
 have A38_ : Arv Z T34.heap b2 c3_ .byte (8 : Int32) [(.int ((((qi3 >>> ((0 : Int32) &&& 31)))).toInt8.toInt32)), (.int ((((qi3 >>> ((8 : Int32) &&& 31)))).toInt8.toInt32)), (.int ((((qi4 >>> ((0 : Int32) &&& 31)))).toInt8.toInt32)), (.int ((((qi4 >>> ((8 : Int32) &&& 31)))).toInt8.toInt32)), (.int ((((qi5 >>> ((0 : Int32) &&& 31)))).toInt8.toInt32)), (.int ((((qi5 >>> ((8 : Int32) &&& 31)))).toInt8.toInt32)), (.int ((((qi6 >>> ((0 : Int32) &&& 31)))).toInt8.toInt32)), (.int ((((qi6 >>> ((8 : Int32) &&& 31)))).toInt8.toInt32))] (.int 0) := w36
 refine own_lvF X34 Bd (.ref b2) rfl ⟨b2, c3_, rfl, N34, K37, sz_b2, A38_⟩ rfl (fun fs hr => pre0 _ (by
  show Sx p e below s₁ m 0 #[rv qa1, iv 0, iv 4, .unset, .unset] [] _
  refine zj X0 Bd d7_0 rfl ?_
  refine st1 _ ?_
  refine XS.astoreN X1.here hx rfl (hb hby d7_4) rfl rfl (l' := #[rv qa1, iv 0, iv 4, rv b2, .unset]) rfl ?_
  refine zc X1 Bd d7_5 ?_
  refine zs X1 Bd d7_6 (l' := #[rv qa1, iv 0, iv 4, rv b2, iv 0]) rfl ?_
  refine zi X1 Bd d7_8 rfl ?_
  refine zj X1 Bd d7_10 rfl ?_
  refine zn X1 Bd d7_11 (XT.ii_ge_f ((by decide) : (0 : Int32) < (4 : Int32))) ?_
  refine zb X1 Bd d7_14 rfl rfl ?_
  refine zi X1 Bd d7_15 rfl ?_
  refine zb X1 Bd d7_17 rfl rfl ?_
  refine zj X1 Bd d7_18 rfl ?_
  refine X1.caload hx (j := (0 : Int32)) (v := (.int qi3)) Ar7.1 (State.isArrayOf_alike hZ.alike Ar7.2.1) Ar7.2.2 hin9 hat9 (g := (mkF m 19 #[rv qa1, iv 0, iv 4, rv b2, iv 0] [.int 0, .ref qa1, .int 0, .ref b2])) rfl rfl (hb hby d7_19) _ ?_
  refine st10 _ ?_
  refine XS.iinc X10.here hx rfl (hb hby d7_23) rfl (l' := #[rv qa1, iv 1, iv 4, rv b2, iv 0]) rfl ?_
  refine XS.iinc X10.here hx rfl (hb hby d7_26) rfl (l' := #[rv qa1, iv 1, iv 4, rv b2, iv 1]) rfl ?_
  refine zg (pc' := 8) X10 Bd d7_29 rfl ?_
  refine zi X10 Bd d7_8 rfl ?_
  refine zj X10 Bd d7_10 rfl ?_
  refine zn X10 Bd d7_11 (XT.ii_ge_f ((by decide) : (1 : Int32) < (4 : Int32))) ?_
  refine zb X10 Bd d7_14 rfl rfl ?_
  refine zi X10 Bd d7_15 rfl ?_
  refine zb X10 Bd d7_17 rfl rfl ?_
  refine zj X10 Bd d7_18 rfl ?_
  refine X10.caload hx (j := (1 : Int32)) (v := (.int qi4)) Ar15.1 (State.isArrayOf_alike hZ.alike Ar15.2.1) Ar15.2.2 hin17 hat17 (g := (mkF m 19 #[rv qa1, iv 1, iv 4, rv b2, iv 1] [.int 1, .ref qa1, .int 1, .ref b2])) rfl rfl (hb hby d7_19) _ ?_
  show Sx p e below T10 m 20 #[rv qa1, iv 1, iv 4, rv b2, iv 1] [.int qi4, .int 1, .ref b2] _
  refine st18 _ ?_
  refine XS.iinc X18.here hx rfl (hb hby d7_23) rfl (l' := #[rv qa1, iv 2, iv 4, rv b2, iv 1]) rfl ?_
  refine XS.iinc X18.here hx rfl (hb hby d7_26) rfl (l' := #[rv qa1, iv 2, iv 4, rv b2, iv 2]) rfl ?_
  refine zg (pc' := 8) X18 Bd d7_29 rfl ?_
  refine zi X18 Bd d7_8 rfl ?_
  refine zj X18 Bd d7_10 rfl ?_
  refine zn X18 Bd d7_11 (XT.ii_ge_f ((by decide) : (2 : Int32) < (4 : Int32))) ?_
  refine zb X18 Bd d7_14 rfl rfl ?_
  refine zi X18 Bd d7_15 rfl ?_
  refine zb X18 Bd d7_17 rfl rfl ?_
  refine zj X18 Bd d7_18 rfl ?_
  refine X18.caload hx (j := (2 : Int32)) (v := (.int qi5)) Ar23.1 (State.isArrayOf_alike hZ.alike Ar23.2.1) Ar23.2.2 hin25 hat25 (g := (mkF m 19 #[rv qa1, iv 2, iv 4, rv b2, iv 2] [.int 2, .ref qa1, .int 2, .ref b2])) rfl rfl (hb hby d7_19) _ ?_
  refine st26 _ ?_
  refine XS.iinc X26.here hx rfl (hb hby d7_23) rfl (l' := #[rv qa1, iv 3, iv 4, rv b2, iv 2]) rfl ?_
  refine XS.iinc X26.here hx rfl (hb hby d7_26) rfl (l' := #[rv qa1, iv 3, iv 4, rv b2, iv 3]) rfl ?_
  refine zg (pc' := 8) X26 Bd d7_29 rfl ?_
  refine zi X26 Bd d7_8 rfl ?_
  refine zj X26 Bd d7_10 rfl ?_
  refine zn X26 Bd d7_11 (XT.ii_ge_f ((by decide) : (3 : Int32) < (4 : Int32))) ?_
  refine zb X26 Bd d7_14 rfl rfl ?_
  refine zi X26 Bd d7_15 rfl ?_
  refine zb X26 Bd d7_17 rfl rfl ?_
  refine zj X26 Bd d7_18 rfl ?_
  refine X26.caload hx (j := (3 : Int32)) (v := (.int qi6)) Ar31.1 (State.isArrayOf_alike hZ.alike Ar31.2.1) Ar31.2.2 hin33 hat33 (g := (mkF m 19 #[rv qa1, iv 3, iv 4, rv b2, iv 3] [.int 3, .ref qa1, .int 3, .ref b2])) rfl rfl (hb hby d7_19) _ ?_
  refine st34 _ ?_
  show Sx p e below T34 m 23 #[rv qa1, iv 3, iv 4, rv b2, iv 3] [] _
  refine XS.iinc X34.here hx rfl (hb hby d7_23) rfl (l' := #[rv qa1, iv 4, iv 4, rv b2, iv 3]) rfl ?_
  refine XS.iinc X34.here hx rfl (hb hby d7_26) rfl (l' := #[rv qa1, iv 4, iv 4, rv b2, iv 4]) rfl ?_
  refine zg (pc' := 8) X34 Bd d7_29 rfl ?_
  refine zi X34 Bd d7_8 rfl ?_
  refine zj X34 Bd d7_10 rfl ?_
  refine zy (pc' := 32) X34 Bd d7_11 (XT.ii_ge_t ((by decide) : ¬ ((4 : Int32) < (4 : Int32)))) rfl ?_
  refine zb X34 Bd d7_32 rfl rfl ?_
  exact retOut X34 hx Bd.returns rfl (Or.inr (Or.inr (Or.inr (Or.inr ⟨rfl, rfl, rfl⟩)))) (hb hby d7_33) hr))
-- java/lang/StringUTF16.getChar([BI)C
def Q77 (Z : State) (qi2 : Int32) (qi4 : Int32) (qi5 : Int32) (qi6 : Int32) (qi7 : Int32) (qi8 : Int32) (qi9 : Int32) (qi10 : Int32) (qi11 : Int32) (h0 : Heap) (n0 : Nat) (v : Option Value) (h : Heap) (L : List Loc) : Prop := v = some (.int (((((((own_at ([qi4, qi5, qi6, qi7, qi8, qi9, qi10, qi11] : List Int32) ((qi2 <<< ((1 : Int32) &&& 31)))) &&& (255 : Int32)) <<< ((0 : Int32) &&& 31))) ||| ((((own_at ([qi4, qi5, qi6, qi7, qi8, qi9, qi10, qi11] : List Int32) (((qi2 <<< ((1 : Int32) &&& 31))) + (1 : Int32))) &&& (255 : Int32)) <<< ((8 : Int32) &&& 31))))).toUInt32.toUInt16.toUInt32.toInt32)) ∧ Fr n0 L ∧ h = h0
theorem rm77 (l : Launch) (Z : State) (a0 : Array Value) (hw : HW a0 Z) (qa1 : Addr) (qi2 : Int32) (qk3 : ClassId) (qi4 : Int32) (qi5 : Int32) (qi6 : Int32) (qi7 : Int32) (qi8 : Int32) (qi9 : Int32) (qi10 : Int32) (qi11 : Int32) (h0 : Heap) (n0 : Nat) (X00 : Old Z n0 h0) (uS12 : Sta Z Z.heap "java/lang/StringUTF16" "$assertionsDisabled" "Z" (.int 1)) (uS15 : Sta Z Z.heap "java/lang/StringUTF16" "HI_BYTE_SHIFT" "I" (.int 0)) (uS18 : Sta Z Z.heap "java/lang/StringUTF16" "LO_BYTE_SHIFT" "I" (.int 8)) (A_qa1 : Arv Z h0 qa1 qk3 .byte (8 : Int32) [.int qi4, .int qi5, .int qi6, .int qi7, .int qi8, .int qi9, .int qi10, .int qi11] (.int 0)) (hc3 : ¬ (qi2 < (0 : Int32))) (hc4 : qi2 < (4 : Int32)) :
    MF l Z Y11_ jdk_52_method_5_code 2 (some .char) (Rm 0 0 0 0) #[.ref qa1, .int qi2] h0 (Q77 Z qi2 qi4 qi5 qi6 qi7 qi8 qi9 qi10 qi11 h0 n0) := by
 refine own_sF pn3 rfl (fun m => ef10 m qa1 qi2) ?_
 intro p e s m below meth c s₁ Bd hZ hh hx hby hml hown hnm X0 e0 pre0
 have N0 := Fr.nil n0
 obtain ⟨T1, X1, e1, st1⟩ := getS2 X0 hx hZ hown (host := "") (Or.inl (w55_ hw)) Via.refl e0 (uS12.ext X00.2) (g := (mkF m 0 #[rv qa1, iv qi2] [])) rfl (hb hby d11_0)
 have A2_ : Arv Z h0 qa1 qk3 .byte (8 : Int32) (([qi4, qi5, qi6, qi7, qi8, qi9, qi10, qi11] : List Int32).map Value.int) (.int 0) := A_qa1
 have av5 := A2_
 obtain ⟨cl5, Ar5, q5, S5, N5, H5, Gf5⟩ := av5
 have hin6 : ¬ (((qi2 <<< ((1 : Int32) &&& 31))) < 0 ∨ cl5.slots.size ≤ (((qi2 <<< ((1 : Int32) &&& 31))) : Int32).toNatClampNeg) := inb_of S5 (own_shla4 hc3 hc4)
 have hat6 : cl5.slots[(((qi2 <<< ((1 : Int32) &&& 31))) : Int32).toNatClampNeg]? = some (.int (own_at ([qi4, qi5, qi6, qi7, qi8, qi9, qi10, qi11] : List Int32) ((qi2 <<< ((1 : Int32) &&& 31))))) := Has.at H5 hin6 (own_atV _ _)
 obtain ⟨T7, X7, e7, st7⟩ := getS2 X1 hx hZ hown (host := "") (Or.inl (w56_ hw)) Via.refl e1 (uS15.ext X00.2) (g := (mkF m 42 #[rv qa1, iv (((qi2 <<< ((1 : Int32) &&& 31))) + (1 : Int32))] [(.int ((own_at ([qi4, qi5, qi6, qi7, qi8, qi9, qi10, qi11] : List Int32) ((qi2 <<< ((1 : Int32) &&& 31)))) &&& (255 : Int32)))])) rfl (hb hby d11_42)
 have av8 := A2_
 obtain ⟨cl8, Ar8, q8, S8, N8, H8, Gf8⟩ := av8
 have hin9 : ¬ ((((qi2 <<< ((1 : Int32) &&& 31))) + (1 : Int32)) < 0 ∨ cl8.slots.size ≤ ((((qi2 <<< ((1 : Int32) &&& 31))) + (1 : Int32)) : Int32).toNatClampNeg) := inb_of S8 (own_shlb4 hc3 hc4)
 have hat9 : cl8.slots[((((qi2 <<< ((1 : Int32) &&& 31))) + (1 : Int32)) : Int32).toNatClampNeg]? = some (.int (own_at ([qi4, qi5, qi6, qi7, qi8, qi9, qi10, qi11] : List Int32) (((qi2 <<< ((1 : Int32) &&& 31))) + (1 : Int32)))) := Has.at H8 hin9 (own_atV _ _)
 obtain ⟨T10, X10, e10, st10⟩ := getS2 X7 hx hZ hown (host := "") (Or.inl (w57_ hw)) Via.refl e7 (uS18.ext X00.2) (g := (mkF m 53 #[rv qa1, iv (((qi2 <<< ((1 : Int32) &&& 31))) + (1 : Int32))] [(.int ((own_at ([qi4, qi5, qi6, qi7, qi8, qi9, qi10, qi11] : List Int32) (((qi2 <<< ((1 : Int32) &&& 31))) + (1 : Int32))) &&& (255 : Int32))), (.int ((((own_at ([qi4, qi5, qi6, qi7, qi8, qi9, qi10, qi11] : List Int32) ((qi2 <<< ((1 : Int32) &&& 31)))) &&& (255 : Int32)) <<< ((0 : Int32) &&& 31))))])) rfl (hb hby d11_53)
 refine own_lvF X10 Bd (.int (nar .char (((((((own_at ([qi4, qi5, qi6, qi7, qi8, qi9, qi10, qi11] : List Int32) ((qi2 <<< ((1 : Int32) &&& 31)))) &&& (255 : Int32)) <<< ((0 : Int32) &&& 31))) ||| ((((own_at ([qi4, qi5, qi6, qi7, qi8, qi9, qi10, qi11] : List Int32) (((qi2 <<< ((1 : Int32) &&& 31))) + (1 : Int32))) &&& (255 : Int32)) <<< ((8 : Int32) &&& 31))))).toUInt32.toUInt16.toUInt32.toInt32))) e10 ⟨(congrArg (fun z => some (Value.int z)) (own_nar_i2c _)), N0, rfl⟩ rfl (fun fs hr => pre0 _ (by
  show Sx p e below s₁ m 0 #[rv qa1, iv qi2] [] _
  refine st1 _ ?_
  refine zp (pc' := 28) X1 Bd d11_3 (XT.i0_ne_t ((by decide) : ¬ ((1 : Int32) = (0 : Int32)))) rfl ?_
  refine zj X1 Bd d11_28 rfl ?_
  refine zc X1 Bd d11_29 ?_
  refine XS.ishl X1.here hx rfl (hb hby d11_30) rfl ?_
  refine zt X1 Bd d11_31 (l' := #[rv qa1, iv ((qi2 <<< ((1 : Int32) &&& 31)))]) rfl ?_
  refine zb X1 Bd d11_32 rfl rfl ?_
  refine zj X1 Bd d11_33 rfl ?_
  refine XS.iinc X1.here hx rfl (hb hby d11_34) rfl (l' := #[rv qa1, iv (((qi2 <<< ((1 : Int32) &&& 31))) + (1 : Int32))]) rfl ?_
  refine X1.baloadBytes hx (j := ((qi2 <<< ((1 : Int32) &&& 31)))) (v := (.int (own_at ([qi4, qi5, qi6, qi7, qi8, qi9, qi10, qi11] : List Int32) ((qi2 <<< ((1 : Int32) &&& 31)))))) (by rw [e1]; exact Ar5.1) (State.isArrayOf_alike hZ.alike Ar5.2.1) Ar5.2.2 hin6 hat6 (g := (mkF m 37 #[rv qa1, iv (((qi2 <<< ((1 : Int32) &&& 31))) + (1 : Int32))] [(.int ((qi2 <<< ((1 : Int32) &&& 31)))), .ref qa1])) rfl rfl (hb hby d11_37) _ ?_
  refine XS.sipush X1.here hx rfl (hb hby d11_38) ?_
  refine XS.iand X1.here hx rfl (hb hby d11_41) rfl ?_
  refine st7 _ ?_
  refine XS.ishl X7.here hx rfl (hb hby d11_45) rfl ?_
  refine zb X7 Bd d11_46 rfl rfl ?_
  refine zj X7 Bd d11_47 rfl ?_
  refine X7.baloadBytes hx (j := (((qi2 <<< ((1 : Int32) &&& 31))) + (1 : Int32))) (v := (.int (own_at ([qi4, qi5, qi6, qi7, qi8, qi9, qi10, qi11] : List Int32) (((qi2 <<< ((1 : Int32) &&& 31))) + (1 : Int32))))) (by rw [e7]; exact Ar8.1) (State.isArrayOf_alike hZ.alike Ar8.2.1) Ar8.2.2 hin9 hat9 (g := (mkF m 48 #[rv qa1, iv (((qi2 <<< ((1 : Int32) &&& 31))) + (1 : Int32))] [(.int (((qi2 <<< ((1 : Int32) &&& 31))) + (1 : Int32))), .ref qa1, (.int ((((own_at ([qi4, qi5, qi6, qi7, qi8, qi9, qi10, qi11] : List Int32) ((qi2 <<< ((1 : Int32) &&& 31)))) &&& (255 : Int32)) <<< ((0 : Int32) &&& 31))))])) rfl rfl (hb hby d11_48) _ ?_
  refine XS.sipush X7.here hx rfl (hb hby d11_49) ?_
  refine XS.iand X7.here hx rfl (hb hby d11_52) rfl ?_
  refine st10 _ ?_
  refine XS.ishl X10.here hx rfl (hb hby d11_56) rfl ?_
  refine XS.ior X10.here hx rfl (hb hby d11_57) rfl ?_
  refine XS.i2c X10.here hx rfl (hb hby d11_58) rfl ?_
  exact retN X10 hx (t := .char) Bd.returns (by simp) (hb hby d11_59) hr))
-- java/lang/StringUTF16.compress([CI[BII)I
def Q78 (Z : State) (qa2 : Addr) (qi4 : Int32) (qk8 : ClassId) (h0 : Heap) (n0 : Nat) (v : Option Value) (h : Heap) (L : List Loc) : Prop := v = some (.int 1) ∧ Fr n0 L ∧ Keep h0 h [qa2] ∧ Arv Z h qa2 qk8 .byte (4 : Int32) [(.int ((qi4).toInt8.toInt32)), .int 0, .int 0, .int 0] (.int 0)
theorem rm78 (l : Launch) (Z : State) (a0 : Array Value) (hw : HW a0 Z) (qa1 : Addr) (qa2 : Addr) (qk3 : ClassId) (qi4 : Int32) (qi5 : Int32) (qi6 : Int32) (qi7 : Int32) (qk8 : ClassId) (h0 : Heap) (n0 : Nat) (X00 : Old Z n0 h0) (A_qa1 : Arv Z h0 qa1 qk3 .char (4 : Int32) [.int qi4, .int qi5, .int qi6, .int qi7] (.int 0)) (hc3 : ¬ ((255 : Int32) < qi4)) (A_qa2 : Arv Z h0 qa2 qk8 .byte (4 : Int32) [.int 0, .int 0, .int 0, .int 0] (.int 0)) (g_qa2 : n0 ≤ qa2) (ne_qa1_qa2 : qa1 ≠ qa2) (hc11 : (255 : Int32) < qi5) :
    MF l Z Y6_ jdk_52_method_21_code 7 (some .int) (Rm 0 0 0 0) #[.ref qa1, .int 0, .ref qa2, .int 0, .int 4] h0 (Q78 Z qa2 qi4 qk8 h0 n0) := by
 refine own_sF pn3 rfl (fun m => ef7 m qa1 (0 : Int32) qa2 (0 : Int32) (4 : Int32)) ?_
 intro p e s m below meth c s₁ Bd hZ hh hx hby hml hown hnm X0 e0 pre0
 have N0 := Fr.nil n0
 have av1 := A_qa1
 obtain ⟨cl1, Ar1, q1, S1, N1, H1, Gf1⟩ := av1
 have hin2 : ¬ ((0 : Int32) < 0 ∨ cl1.slots.size ≤ ((0 : Int32) : Int32).toNatClampNeg) := inb_of S1 (by decide)
 have hat2 : cl1.slots[((0 : Int32) : Int32).toNatClampNeg]? = some (.int qi4) := Has.at H1 hin2 rfl
 have av4 := A_qa2
 obtain ⟨cl4, Ar4, q4, S4, N4, H4, Gf4⟩ := av4
 have hin5 : ¬ ((0 : Int32) < 0 ∨ cl4.slots.size ≤ ((0 : Int32) : Int32).toNatClampNeg) := inb_of S4 (by decide)
 obtain ⟨T5, h5, X5, e5, W5, st5⟩ := stB X0 hx hZ e0 Ar4 (j := (0 : Int32)) hin5 (g := (mkF m 31 #[rv qa1, iv 0, rv qa2, iv 0, iv 4, iv 0, iv qi4] [(.int ((qi4).toInt8.toInt32)), .int 0, .ref qa2])) rfl rfl (hb hby d6_31)
 have N5_ := Fr.snoc X5 N0 g_qa2
 have K6 := (Keep.refl h0 [qa2]).wr W5 (Or.inl (mI 0 rfl))
 have A7_ : Arv Z h5 qa2 qk8 .byte (4 : Int32) [(.int ((qi4).toInt8.toInt32)), .int 0, .int 0, .int 0] (.int 0) := by have q := Arv.set (v := .int (nar .byte ((qi4).toInt8.toInt32))) Ar4 q4 S4 N4 H4 Gf4 (fits_nar_byte _) W5 0 (by decide) (lE rfl); rw [((own_nar_i2b _) : nar .byte ((qi4).toInt8.toInt32) = ((qi4).toInt8.toInt32))] at q; exact q
 have A9_ := A_qa1.other W5 ne_qa1_qa2
 have av8 := A9_
 obtain ⟨cl8, Ar8, q8, S8, N8, H8, Gf8⟩ := av8
 have hin10 : ¬ ((1 : Int32) < 0 ∨ cl8.slots.size ≤ ((1 : Int32) : Int32).toNatClampNeg) := inb_of S8 (by decide)
 have hat10 : cl8.slots[((1 : Int32) : Int32).toNatClampNeg]? = some (.int qi5) := Has.at H8 hin10 rfl
 refine own_lvF X5 Bd (.int 1) e5 ⟨rfl, N5_, K6, A7_⟩ rfl (fun fs hr => pre0 _ (by
  show Sx p e below s₁ m 0 #[rv qa1, iv 0, rv qa2, iv 0, iv 4, .unset, .unset] [] _
  refine zc X0 Bd d6_0 ?_
  refine zs X0 Bd d6_1 (l' := #[rv qa1, iv 0, rv qa2, iv 0, iv 4, iv 0, .unset]) rfl ?_
  refine zi X0 Bd d6_3 rfl ?_
  refine zi X0 Bd d6_5 rfl ?_
  refine zn X0 Bd d6_7 (XT.ii_ge_f ((by decide) : (0 : Int32) < (4 : Int32))) ?_
  refine zb X0 Bd d6_10 rfl rfl ?_
  refine zj X0 Bd d6_11 rfl ?_
  refine X0.caload hx (j := (0 : Int32)) (v := (.int qi4)) (by rw [e0]; exact Ar1.1) (State.isArrayOf_alike hZ.alike Ar1.2.1) Ar1.2.2 hin2 hat2 (g := (mkF m 12 #[rv qa1, iv 0, rv qa2, iv 0, iv 4, iv 0, .unset] [.int 0, .ref qa1])) rfl rfl (hb hby d6_12) _ ?_
  refine zs X0 Bd d6_13 (l' := #[rv qa1, iv 0, rv qa2, iv 0, iv 4, iv 0, iv qi4]) rfl ?_
  refine zi X0 Bd d6_15 rfl ?_
  refine XS.sipush X0.here hx rfl (hb hby d6_17) ?_
  refine zy (pc' := 26) X0 Bd d6_20 (XT.ii_le_t (hc3 : ¬ ((255 : Int32) < qi4))) rfl ?_
  refine zb X0 Bd d6_26 rfl rfl ?_
  refine zj X0 Bd d6_27 rfl ?_
  refine zi X0 Bd d6_28 rfl ?_
  refine XS.i2b X0.here hx rfl (hb hby d6_30) rfl ?_
  refine st5 _ ?_
  refine XS.iinc X5.here hx rfl (hb hby d6_32) rfl (l' := #[rv qa1, iv 1, rv qa2, iv 0, iv 4, iv 0, iv qi4]) rfl ?_
  refine XS.iinc X5.here hx rfl (hb hby d6_35) rfl (l' := #[rv qa1, iv 1, rv qa2, iv 1, iv 4, iv 0, iv qi4]) rfl ?_
  refine XS.iinc X5.here hx rfl (hb hby d6_38) rfl (l' := #[rv qa1, iv 1, rv qa2, iv 1, iv 4, iv 1, iv qi4]) rfl ?_
  refine zg (pc' := 3) X5 Bd d6_41 rfl ?_
  refine zi X5 Bd d6_3 rfl ?_
  refine zi X5 Bd d6_5 rfl ?_
  refine zn X5 Bd d6_7 (XT.ii_ge_f ((by decide) : (1 : Int32) < (4 : Int32))) ?_
  refine zb X5 Bd d6_10 rfl rfl ?_
  show Sx p e below T5 m 11 #[rv qa1, iv 1, rv qa2, iv 1, iv 4, iv 1, iv qi4] [.ref qa1] _
  refine zj X5 Bd d6_11 rfl ?_
  refine X5.caload hx (j := (1 : Int32)) (v := (.int qi5)) (by rw [e5]; exact Ar8.1) (State.isArrayOf_alike hZ.alike Ar8.2.1) Ar8.2.2 hin10 hat10 (g := (mkF m 12 #[rv qa1, iv 1, rv qa2, iv 1, iv 4, iv 1, iv qi4] [.int 1, .ref qa1])) rfl rfl (hb hby d6_12) _ ?_
  refine zs X5 Bd d6_13 (l' := #[rv qa1, iv 1, rv qa2, iv 1, iv 4, iv 1, iv qi5]) rfl ?_
  refine zi X5 Bd d6_15 rfl ?_
  refine XS.sipush X5.here hx rfl (hb hby d6_17) ?_
  refine zn X5 Bd d6_20 (XT.ii_le_f (hc11 : (255 : Int32) < qi5)) ?_
  refine zi X5 Bd d6_23 rfl ?_
  exact retI X5 hx Bd.returns (hb hby d6_25) hr))
-- java/lang/StringUTF16.compress([CI[BII)I
def Q79 (Z : State) (qa2 : Addr) (qi4 : Int32) (qi5 : Int32) (qk8 : ClassId) (h0 : Heap) (n0 : Nat) (v : Option Value) (h : Heap) (L : List Loc) : Prop := v = some (.int 2) ∧ Fr n0 L ∧ Keep h0 h [qa2] ∧ Arv Z h qa2 qk8 .byte (4 : Int32) [(.int ((qi4).toInt8.toInt32)), (.int ((qi5).toInt8.toInt32)), .int 0, .int 0] (.int 0)
theorem rm79 (l : Launch) (Z : State) (a0 : Array Value) (hw : HW a0 Z) (qa1 : Addr) (qa2 : Addr) (qk3 : ClassId) (qi4 : Int32) (qi5 : Int32) (qi6 : Int32) (qi7 : Int32) (qk8 : ClassId) (h0 : Heap) (n0 : Nat) (X00 : Old Z n0 h0) (A_qa1 : Arv Z h0 qa1 qk3 .char (4 : Int32) [.int qi4, .int qi5, .int qi6, .int qi7] (.int 0)) (hc3 : ¬ ((255 : Int32) < qi4)) (A_qa2 : Arv Z h0 qa2 qk8 .byte (4 : Int32) [.int 0, .int 0, .int 0, .int 0] (.int 0)) (g_qa2 : n0 ≤ qa2) (ne_qa1_qa2 : qa1 ≠ qa2) (hc11 : ¬ ((255 : Int32) < qi5)) (hc19 : (255 : Int32) < qi6) :
    MF l Z Y6_ jdk_52_method_21_code 7 (some .int) (Rm 0 0 0 0) #[.ref qa1, .int 0, .ref qa2, .int 0, .int 4] h0 (Q79 Z qa2 qi4 qi5 qk8 h0 n0) := by
 refine own_sF pn3 rfl (fun m => ef7 m qa1 (0 : Int32) qa2 (0 : Int32) (4 : Int32)) ?_
 intro p e s m below meth c s₁ Bd hZ hh hx hby hml hown hnm X0 e0 pre0
 have N0 := Fr.nil n0
 have av1 := A_qa1
 obtain ⟨cl1, Ar1, q1, S1, N1, H1, Gf1⟩ := av1
 have hin2 : ¬ ((0 : Int32) < 0 ∨ cl1.slots.size ≤ ((0 : Int32) : Int32).toNatClampNeg) := inb_of S1 (by decide)
 have hat2 : cl1.slots[((0 : Int32) : Int32).toNatClampNeg]? = some (.int qi4) := Has.at H1 hin2 rfl
 have av4 := A_qa2
 obtain ⟨cl4, Ar4, q4, S4, N4, H4, Gf4⟩ := av4
 have hin5 : ¬ ((0 : Int32) < 0 ∨ cl4.slots.size ≤ ((0 : Int32) : Int32).toNatClampNeg) := inb_of S4 (by decide)
 obtain ⟨T5, h5, X5, e5, W5, st5⟩ := stB X0 hx hZ e0 Ar4 (j := (0 : Int32)) hin5 (g := (mkF m 31 #[rv qa1, iv 0, rv qa2, iv 0, iv 4, iv 0, iv qi4] [(.int ((qi4).toInt8.toInt32)), .int 0, .ref qa2])) rfl rfl (hb hby d6_31)
 have N5_ := Fr.snoc X5 N0 g_qa2
 have K6 := (Keep.refl h0 [qa2]).wr W5 (Or.inl (mI 0 rfl))
 have A7_ : Arv Z h5 qa2 qk8 .byte (4 : Int32) [(.int ((qi4).toInt8.toInt32)), .int 0, .int 0, .int 0] (.int 0) := by have q := Arv.set (v := .int (nar .byte ((qi4).toInt8.toInt32))) Ar4 q4 S4 N4 H4 Gf4 (fits_nar_byte _) W5 0 (by decide) (lE rfl); rw [((own_nar_i2b _) : nar .byte ((qi4).toInt8.toInt32) = ((qi4).toInt8.toInt32))] at q; exact q
 have A9_ := A_qa1.other W5 ne_qa1_qa2
 have av8 := A9_
 obtain ⟨cl8, Ar8, q8, S8, N8, H8, Gf8⟩ := av8
 have hin10 : ¬ ((1 : Int32) < 0 ∨ cl8.slots.size ≤ ((1 : Int32) : Int32).toNatClampNeg) := inb_of S8 (by decide)
 have hat10 : cl8.slots[((1 : Int32) : Int32).toNatClampNeg]? = some (.int qi5) := Has.at H8 hin10 rfl
 have av12 := A7_
 obtain ⟨cl12, Ar12, q12, S12, N12, H12, Gf12⟩ := av12
 have hin13 : ¬ ((1 : Int32) < 0 ∨ cl12.slots.size ≤ ((1 : Int32) : Int32).toNatClampNeg) := inb_of S12 (by decide)
 obtain ⟨T13, h13, X13, e13, W13, st13⟩ := stB X5 hx hZ e5 Ar12 (j := (1 : Int32)) hin13 (g := (mkF m 31 #[rv qa1, iv 1, rv qa2, iv 1, iv 4, iv 1, iv qi5] [(.int ((qi5).toInt8.toInt32)), .int 1, .ref qa2])) rfl rfl (hb hby d6_31)
 have N13_ := Fr.snoc X13 N5_ g_qa2
 have K14 := K6.wr W13 (Or.inl (mI 0 rfl))
 have A15_ : Arv Z h13 qa2 qk8 .byte (4 : Int32) [(.int ((qi4).toInt8.toInt32)), (.int ((qi5).toInt8.toInt32)), .int 0, .int 0] (.int 0) := by have q := Arv.set (v := .int (nar .byte ((qi5).toInt8.toInt32))) Ar12 q12 S12 N12 H12 Gf12 (fits_nar_byte _) W13 1 (by decide) (lE rfl); rw [((own_nar_i2b _) : nar .byte ((qi5).toInt8.toInt32) = ((qi5).toInt8.toInt32))] at q; exact q
 have A17_ := A9_.other W13 ne_qa1_qa2
 have av16 := A17_
 obtain ⟨cl16, Ar16, q16, S16, N16, H16, Gf16⟩ := av16
 have hin18 : ¬ ((2 : Int32) < 0 ∨ cl16.slots.size ≤ ((2 : Int32) : Int32).toNatClampNeg) := inb_of S16 (by decide)
 have hat18 : cl16.slots[((2 : Int32) : Int32).toNatClampNeg]? = some (.int qi6) := Has.at H16 hin18 rfl
 refine own_lvF X13 Bd (.int 2) e13 ⟨rfl, N13_, K14, A15_⟩ rfl (fun fs hr => pre0 _ (by
  show Sx p e below s₁ m 0 #[rv qa1, iv 0, rv qa2, iv 0, iv 4, .unset, .unset] [] _
  refine zc X0 Bd d6_0 ?_
  refine zs X0 Bd d6_1 (l' := #[rv qa1, iv 0, rv qa2, iv 0, iv 4, iv 0, .unset]) rfl ?_
  refine zi X0 Bd d6_3 rfl ?_
  refine zi X0 Bd d6_5 rfl ?_
  refine zn X0 Bd d6_7 (XT.ii_ge_f ((by decide) : (0 : Int32) < (4 : Int32))) ?_
  refine zb X0 Bd d6_10 rfl rfl ?_
  refine zj X0 Bd d6_11 rfl ?_
  refine X0.caload hx (j := (0 : Int32)) (v := (.int qi4)) (by rw [e0]; exact Ar1.1) (State.isArrayOf_alike hZ.alike Ar1.2.1) Ar1.2.2 hin2 hat2 (g := (mkF m 12 #[rv qa1, iv 0, rv qa2, iv 0, iv 4, iv 0, .unset] [.int 0, .ref qa1])) rfl rfl (hb hby d6_12) _ ?_
  refine zs X0 Bd d6_13 (l' := #[rv qa1, iv 0, rv qa2, iv 0, iv 4, iv 0, iv qi4]) rfl ?_
  refine zi X0 Bd d6_15 rfl ?_
  refine XS.sipush X0.here hx rfl (hb hby d6_17) ?_
  refine zy (pc' := 26) X0 Bd d6_20 (XT.ii_le_t (hc3 : ¬ ((255 : Int32) < qi4))) rfl ?_
  refine zb X0 Bd d6_26 rfl rfl ?_
  refine zj X0 Bd d6_27 rfl ?_
  refine zi X0 Bd d6_28 rfl ?_
  refine XS.i2b X0.here hx rfl (hb hby d6_30) rfl ?_
  refine st5 _ ?_
  refine XS.iinc X5.here hx rfl (hb hby d6_32) rfl (l' := #[rv qa1, iv 1, rv qa2, iv 0, iv 4, iv 0, iv qi4]) rfl ?_
  refine XS.iinc X5.here hx rfl (hb hby d6_35) rfl (l' := #[rv qa1, iv 1, rv qa2, iv 1, iv 4, iv 0, iv qi4]) rfl ?_
  refine XS.iinc X5.here hx rfl (hb hby d6_38) rfl (l' := #[rv qa1, iv 1, rv qa2, iv 1, iv 4, iv 1, iv qi4]) rfl ?_
  refine zg (pc' := 3) X5 Bd d6_41 rfl ?_
  refine zi X5 Bd d6_3 rfl ?_
  refine zi X5 Bd d6_5 rfl ?_
  refine zn X5 Bd d6_7 (XT.ii_ge_f ((by decide) : (1 : Int32) < (4 : Int32))) ?_
  refine zb X5 Bd d6_10 rfl rfl ?_
  show Sx p e below T5 m 11 #[rv qa1, iv 1, rv qa2, iv 1, iv 4, iv 1, iv qi4] [.ref qa1] _
  refine zj X5 Bd d6_11 rfl ?_
  refine X5.caload hx (j := (1 : Int32)) (v := (.int qi5)) (by rw [e5]; exact Ar8.1) (State.isArrayOf_alike hZ.alike Ar8.2.1) Ar8.2.2 hin10 hat10 (g := (mkF m 12 #[rv qa1, iv 1, rv qa2, iv 1, iv 4, iv 1, iv qi4] [.int 1, .ref qa1])) rfl rfl (hb hby d6_12) _ ?_
  refine zs X5 Bd d6_13 (l' := #[rv qa1, iv 1, rv qa2, iv 1, iv 4, iv 1, iv qi5]) rfl ?_
  refine zi X5 Bd d6_15 rfl ?_
  refine XS.sipush X5.here hx rfl (hb hby d6_17) ?_
  refine zy (pc' := 26) X5 Bd d6_20 (XT.ii_le_t (hc11 : ¬ ((255 : Int32) < qi5))) rfl ?_
  refine zb X5 Bd d6_26 rfl rfl ?_
  refine zj X5 Bd d6_27 rfl ?_
  refine zi X5 Bd d6_28 rfl ?_
  refine XS.i2b X5.here hx rfl (hb hby d6_30) rfl ?_
  refine st13 _ ?_
  refine XS.iinc X13.here hx rfl (hb hby d6_32) rfl (l' := #[rv qa1, iv 2, rv qa2, iv 1, iv 4, iv 1, iv qi5]) rfl ?_
  refine XS.iinc X13.here hx rfl (hb hby d6_35) rfl (l' := #[rv qa1, iv 2, rv qa2, iv 2, iv 4, iv 1, iv qi5]) rfl ?_
  refine XS.iinc X13.here hx rfl (hb hby d6_38) rfl (l' := #[rv qa1, iv 2, rv qa2, iv 2, iv 4, iv 2, iv qi5]) rfl ?_
  refine zg (pc' := 3) X13 Bd d6_41 rfl ?_
  refine zi X13 Bd d6_3 rfl ?_
  refine zi X13 Bd d6_5 rfl ?_
  refine zn X13 Bd d6_7 (XT.ii_ge_f ((by decide) : (2 : Int32) < (4 : Int32))) ?_
  refine zb X13 Bd d6_10 rfl rfl ?_
  refine zj X13 Bd d6_11 rfl ?_
  refine X13.caload hx (j := (2 : Int32)) (v := (.int qi6)) (by rw [e13]; exact Ar16.1) (State.isArrayOf_alike hZ.alike Ar16.2.1) Ar16.2.2 hin18 hat18 (g := (mkF m 12 #[rv qa1, iv 2, rv qa2, iv 2, iv 4, iv 2, iv qi5] [.int 2, .ref qa1])) rfl rfl (hb hby d6_12) _ ?_
  refine zs X13 Bd d6_13 (l' := #[rv qa1, iv 2, rv qa2, iv 2, iv 4, iv 2, iv qi6]) rfl ?_
  refine zi X13 Bd d6_15 rfl ?_
  refine XS.sipush X13.here hx rfl (hb hby d6_17) ?_
  refine zn X13 Bd d6_20 (XT.ii_le_f (hc19 : (255 : Int32) < qi6)) ?_
  show Sx p e below T13 m 23 #[rv qa1, iv 2, rv qa2, iv 2, iv 4, iv 2, iv qi6] [] _
  refine zi X13 Bd d6_23 rfl ?_
  exact retI X13 hx Bd.returns (hb hby d6_25) hr))
-- java/lang/StringUTF16.compress([CI[BII)I
def Q80 (Z : State) (qa2 : Addr) (qi4 : Int32) (qi5 : Int32) (qi6 : Int32) (qk8 : ClassId) (h0 : Heap) (n0 : Nat) (v : Option Value) (h : Heap) (L : List Loc) : Prop := v = some (.int 3) ∧ Fr n0 L ∧ Keep h0 h [qa2] ∧ Arv Z h qa2 qk8 .byte (4 : Int32) [(.int ((qi4).toInt8.toInt32)), (.int ((qi5).toInt8.toInt32)), (.int ((qi6).toInt8.toInt32)), .int 0] (.int 0)
theorem rm80 (l : Launch) (Z : State) (a0 : Array Value) (hw : HW a0 Z) (qa1 : Addr) (qa2 : Addr) (qk3 : ClassId) (qi4 : Int32) (qi5 : Int32) (qi6 : Int32) (qi7 : Int32) (qk8 : ClassId) (h0 : Heap) (n0 : Nat) (X00 : Old Z n0 h0) (A_qa1 : Arv Z h0 qa1 qk3 .char (4 : Int32) [.int qi4, .int qi5, .int qi6, .int qi7] (.int 0)) (hc3 : ¬ ((255 : Int32) < qi4)) (A_qa2 : Arv Z h0 qa2 qk8 .byte (4 : Int32) [.int 0, .int 0, .int 0, .int 0] (.int 0)) (g_qa2 : n0 ≤ qa2) (ne_qa1_qa2 : qa1 ≠ qa2) (hc11 : ¬ ((255 : Int32) < qi5)) (hc19 : ¬ ((255 : Int32) < qi6)) (hc27 : (255 : Int32) < qi7) :
    MF l Z Y6_ jdk_52_method_21_code 7 (some .int) (Rm 0 0 0 0) #[.ref qa1, .int 0, .ref qa2, .int 0, .int 4] h0 (Q80 Z qa2 qi4 qi5 qi6 qk8 h0 n0) := by
 refine own_sF pn3 rfl (fun m => ef7 m qa1 (0 : Int32) qa2 (0 : Int32) (4 : Int32)) ?_
 intro p e s m below meth c s₁ Bd hZ hh hx hby hml hown hnm X0 e0 pre0
 have N0 := Fr.nil n0
 have av1 := A_qa1
 obtain ⟨cl1, Ar1, q1, S1, N1, H1, Gf1⟩ := av1
 have hin2 : ¬ ((0 : Int32) < 0 ∨ cl1.slots.size ≤ ((0 : Int32) : Int32).toNatClampNeg) := inb_of S1 (by decide)
 have hat2 : cl1.slots[((0 : Int32) : Int32).toNatClampNeg]? = some (.int qi4) := Has.at H1 hin2 rfl
 have av4 := A_qa2
 obtain ⟨cl4, Ar4, q4, S4, N4, H4, Gf4⟩ := av4
 have hin5 : ¬ ((0 : Int32) < 0 ∨ cl4.slots.size ≤ ((0 : Int32) : Int32).toNatClampNeg) := inb_of S4 (by decide)
 obtain ⟨T5, h5, X5, e5, W5, st5⟩ := stB X0 hx hZ e0 Ar4 (j := (0 : Int32)) hin5 (g := (mkF m 31 #[rv qa1, iv 0, rv qa2, iv 0, iv 4, iv 0, iv qi4] [(.int ((qi4).toInt8.toInt32)), .int 0, .ref qa2])) rfl rfl (hb hby d6_31)
 have N5_ := Fr.snoc X5 N0 g_qa2
 have K6 := (Keep.refl h0 [qa2]).wr W5 (Or.inl (mI 0 rfl))
 have A7_ : Arv Z h5 qa2 qk8 .byte (4 : Int32) [(.int ((qi4).toInt8.toInt32)), .int 0, .int 0, .int 0] (.int 0) := by have q := Arv.set (v := .int (nar .byte ((qi4).toInt8.toInt32))) Ar4 q4 S4 N4 H4 Gf4 (fits_nar_byte _) W5 0 (by decide) (lE rfl); rw [((own_nar_i2b _) : nar .byte ((qi4).toInt8.toInt32) = ((qi4).toInt8.toInt32))] at q; exact q
 have A9_ := A_qa1.other W5 ne_qa1_qa2
 have av8 := A9_
 obtain ⟨cl8, Ar8, q8, S8, N8, H8, Gf8⟩ := av8
 have hin10 : ¬ ((1 : Int32) < 0 ∨ cl8.slots.size ≤ ((1 : Int32) : Int32).toNatClampNeg) := inb_of S8 (by decide)
 have hat10 : cl8.slots[((1 : Int32) : Int32).toNatClampNeg]? = some (.int qi5) := Has.at H8 hin10 rfl
 have av12 := A7_
 obtain ⟨cl12, Ar12, q12, S12, N12, H12, Gf12⟩ := av12
 have hin13 : ¬ ((1 : Int32) < 0 ∨ cl12.slots.size ≤ ((1 : Int32) : Int32).toNatClampNeg) := inb_of S12 (by decide)
 obtain ⟨T13, h13, X13, e13, W13, st13⟩ := stB X5 hx hZ e5 Ar12 (j := (1 : Int32)) hin13 (g := (mkF m 31 #[rv qa1, iv 1, rv qa2, iv 1, iv 4, iv 1, iv qi5] [(.int ((qi5).toInt8.toInt32)), .int 1, .ref qa2])) rfl rfl (hb hby d6_31)
 have N13_ := Fr.snoc X13 N5_ g_qa2
 have K14 := K6.wr W13 (Or.inl (mI 0 rfl))
 have A15_ : Arv Z h13 qa2 qk8 .byte (4 : Int32) [(.int ((qi4).toInt8.toInt32)), (.int ((qi5).toInt8.toInt32)), .int 0, .int 0] (.int 0) := by have q := Arv.set (v := .int (nar .byte ((qi5).toInt8.toInt32))) Ar12 q12 S12 N12 H12 Gf12 (fits_nar_byte _) W13 1 (by decide) (lE rfl); rw [((own_nar_i2b _) : nar .byte ((qi5).toInt8.toInt32) = ((qi5).toInt8.toInt32))] at q; exact q
 have A17_ := A9_.other W13 ne_qa1_qa2
 have av16 := A17_
 obtain ⟨cl16, Ar16, q16, S16, N16, H16, Gf16⟩ := av16
 have hin18 : ¬ ((2 : Int32) < 0 ∨ cl16.slots.size ≤ ((2 : Int32) : Int32).toNatClampNeg) := inb_of S16 (by decide)
 have hat18 : cl16.slots[((2 : Int32) : Int32).toNatClampNeg]? = some (.int qi6) := Has.at H16 hin18 rfl
 have av20 := A15_
 obtain ⟨cl20, Ar20, q20, S20, N20, H20, Gf20⟩ := av20
 have hin21 : ¬ ((2 : Int32) < 0 ∨ cl20.slots.size ≤ ((2 : Int32) : Int32).toNatClampNeg) := inb_of S20 (by decide)
 obtain ⟨T21, h21, X21, e21, W21, st21⟩ := stB X13 hx hZ e13 Ar20 (j := (2 : Int32)) hin21 (g := (mkF m 31 #[rv qa1, iv 2, rv qa2, iv 2, iv 4, iv 2, iv qi6] [(.int ((qi6).toInt8.toInt32)), .int 2, .ref qa2])) rfl rfl (hb hby d6_31)
 have N21_ := Fr.snoc X21 N13_ g_qa2
 have K22 := K14.wr W21 (Or.inl (mI 0 rfl))
 have A23_ : Arv Z h21 qa2 qk8 .byte (4 : Int32) [(.int ((qi4).toInt8.toInt32)), (.int ((qi5).toInt8.toInt32)), (.int ((qi6).toInt8.toInt32)), .int 0] (.int 0) := by have q := Arv.set (v := .int (nar .byte ((qi6).toInt8.toInt32))) Ar20 q20 S20 N20 H20 Gf20 (fits_nar_byte _) W21 2 (by decide) (lE rfl); rw [((own_nar_i2b _) : nar .byte ((qi6).toInt8.toInt32) = ((qi6).toInt8.toInt32))] at q; exact q
 have A25_ := A17_.other W21 ne_qa1_qa2
 have av24 := A25_
 obtain ⟨cl24, Ar24, q24, S24, N24, H24, Gf24⟩ := av24
 have hin26 : ¬ ((3 : Int32) < 0 ∨ cl24.slots.size ≤ ((3 : Int32) : Int32).toNatClampNeg) := inb_of S24 (by decide)
 have hat26 : cl24.slots[((3 : Int32) : Int32).toNatClampNeg]? = some (.int qi7) := Has.at H24 hin26 rfl
 refine own_lvF X21 Bd (.int 3) e21 ⟨rfl, N21_, K22, A23_⟩ rfl (fun fs hr => pre0 _ (by
  show Sx p e below s₁ m 0 #[rv qa1, iv 0, rv qa2, iv 0, iv 4, .unset, .unset] [] _
  refine zc X0 Bd d6_0 ?_
  refine zs X0 Bd d6_1 (l' := #[rv qa1, iv 0, rv qa2, iv 0, iv 4, iv 0, .unset]) rfl ?_
  refine zi X0 Bd d6_3 rfl ?_
  refine zi X0 Bd d6_5 rfl ?_
  refine zn X0 Bd d6_7 (XT.ii_ge_f ((by decide) : (0 : Int32) < (4 : Int32))) ?_
  refine zb X0 Bd d6_10 rfl rfl ?_
  refine zj X0 Bd d6_11 rfl ?_
  refine X0.caload hx (j := (0 : Int32)) (v := (.int qi4)) (by rw [e0]; exact Ar1.1) (State.isArrayOf_alike hZ.alike Ar1.2.1) Ar1.2.2 hin2 hat2 (g := (mkF m 12 #[rv qa1, iv 0, rv qa2, iv 0, iv 4, iv 0, .unset] [.int 0, .ref qa1])) rfl rfl (hb hby d6_12) _ ?_
  refine zs X0 Bd d6_13 (l' := #[rv qa1, iv 0, rv qa2, iv 0, iv 4, iv 0, iv qi4]) rfl ?_
  refine zi X0 Bd d6_15 rfl ?_
  refine XS.sipush X0.here hx rfl (hb hby d6_17) ?_
  refine zy (pc' := 26) X0 Bd d6_20 (XT.ii_le_t (hc3 : ¬ ((255 : Int32) < qi4))) rfl ?_
  refine zb X0 Bd d6_26 rfl rfl ?_
  refine zj X0 Bd d6_27 rfl ?_
  refine zi X0 Bd d6_28 rfl ?_
  refine XS.i2b X0.here hx rfl (hb hby d6_30) rfl ?_
  refine st5 _ ?_
  refine XS.iinc X5.here hx rfl (hb hby d6_32) rfl (l' := #[rv qa1, iv 1, rv qa2, iv 0, iv 4, iv 0, iv qi4]) rfl ?_
  refine XS.iinc X5.here hx rfl (hb hby d6_35) rfl (l' := #[rv qa1, iv 1, rv qa2, iv 1, iv 4, iv 0, iv qi4]) rfl ?_
  refine XS.iinc X5.here hx rfl (hb hby d6_38) rfl (l' := #[rv qa1, iv 1, rv qa2, iv 1, iv 4, iv 1, iv qi4]) rfl ?_
  refine zg (pc' := 3) X5 Bd d6_41 rfl ?_
  refine zi X5 Bd d6_3 rfl ?_
  refine zi X5 Bd d6_5 rfl ?_
  refine zn X5 Bd d6_7 (XT.ii_ge_f ((by decide) : (1 : Int32) < (4 : Int32))) ?_
  refine zb X5 Bd d6_10 rfl rfl ?_
  show Sx p e below T5 m 11 #[rv qa1, iv 1, rv qa2, iv 1, iv 4, iv 1, iv qi4] [.ref qa1] _
  refine zj X5 Bd d6_11 rfl ?_
  refine X5.caload hx (j := (1 : Int32)) (v := (.int qi5)) (by rw [e5]; exact Ar8.1) (State.isArrayOf_alike hZ.alike Ar8.2.1) Ar8.2.2 hin10 hat10 (g := (mkF m 12 #[rv qa1, iv 1, rv qa2, iv 1, iv 4, iv 1, iv qi4] [.int 1, .ref qa1])) rfl rfl (hb hby d6_12) _ ?_
  refine zs X5 Bd d6_13 (l' := #[rv qa1, iv 1, rv qa2, iv 1, iv 4, iv 1, iv qi5]) rfl ?_
  refine zi X5 Bd d6_15 rfl ?_
  refine XS.sipush X5.here hx rfl (hb hby d6_17) ?_
  refine zy (pc' := 26) X5 Bd d6_20 (XT.ii_le_t (hc11 : ¬ ((255 : Int32) < qi5))) rfl ?_
  refine zb X5 Bd d6_26 rfl rfl ?_
  refine zj X5 Bd d6_27 rfl ?_
  refine zi X5 Bd d6_28 rfl ?_
  refine XS.i2b X5.here hx rfl (hb hby d6_30) rfl ?_
  refine st13 _ ?_
  refine XS.iinc X13.here hx rfl (hb hby d6_32) rfl (l' := #[rv qa1, iv 2, rv qa2, iv 1, iv 4, iv 1, iv qi5]) rfl ?_
  refine XS.iinc X13.here hx rfl (hb hby d6_35) rfl (l' := #[rv qa1, iv 2, rv qa2, iv 2, iv 4, iv 1, iv qi5]) rfl ?_
  refine XS.iinc X13.here hx rfl (hb hby d6_38) rfl (l' := #[rv qa1, iv 2, rv qa2, iv 2, iv 4, iv 2, iv qi5]) rfl ?_
  refine zg (pc' := 3) X13 Bd d6_41 rfl ?_
  refine zi X13 Bd d6_3 rfl ?_
  refine zi X13 Bd d6_5 rfl ?_
  refine zn X13 Bd d6_7 (XT.ii_ge_f ((by decide) : (2 : Int32) < (4 : Int32))) ?_
  refine zb X13 Bd d6_10 rfl rfl ?_
  refine zj X13 Bd d6_11 rfl ?_
  refine X13.caload hx (j := (2 : Int32)) (v := (.int qi6)) (by rw [e13]; exact Ar16.1) (State.isArrayOf_alike hZ.alike Ar16.2.1) Ar16.2.2 hin18 hat18 (g := (mkF m 12 #[rv qa1, iv 2, rv qa2, iv 2, iv 4, iv 2, iv qi5] [.int 2, .ref qa1])) rfl rfl (hb hby d6_12) _ ?_
  refine zs X13 Bd d6_13 (l' := #[rv qa1, iv 2, rv qa2, iv 2, iv 4, iv 2, iv qi6]) rfl ?_
  refine zi X13 Bd d6_15 rfl ?_
  refine XS.sipush X13.here hx rfl (hb hby d6_17) ?_
  refine zy (pc' := 26) X13 Bd d6_20 (XT.ii_le_t (hc19 : ¬ ((255 : Int32) < qi6))) rfl ?_
  show Sx p e below T13 m 26 #[rv qa1, iv 2, rv qa2, iv 2, iv 4, iv 2, iv qi6] [] _
  refine zb X13 Bd d6_26 rfl rfl ?_
  refine zj X13 Bd d6_27 rfl ?_
  refine zi X13 Bd d6_28 rfl ?_
  refine XS.i2b X13.here hx rfl (hb hby d6_30) rfl ?_
  refine st21 _ ?_
  refine XS.iinc X21.here hx rfl (hb hby d6_32) rfl (l' := #[rv qa1, iv 3, rv qa2, iv 2, iv 4, iv 2, iv qi6]) rfl ?_
  refine XS.iinc X21.here hx rfl (hb hby d6_35) rfl (l' := #[rv qa1, iv 3, rv qa2, iv 3, iv 4, iv 2, iv qi6]) rfl ?_
  refine XS.iinc X21.here hx rfl (hb hby d6_38) rfl (l' := #[rv qa1, iv 3, rv qa2, iv 3, iv 4, iv 3, iv qi6]) rfl ?_
  refine zg (pc' := 3) X21 Bd d6_41 rfl ?_
  refine zi X21 Bd d6_3 rfl ?_
  refine zi X21 Bd d6_5 rfl ?_
  refine zn X21 Bd d6_7 (XT.ii_ge_f ((by decide) : (3 : Int32) < (4 : Int32))) ?_
  refine zb X21 Bd d6_10 rfl rfl ?_
  refine zj X21 Bd d6_11 rfl ?_
  refine X21.caload hx (j := (3 : Int32)) (v := (.int qi7)) (by rw [e21]; exact Ar24.1) (State.isArrayOf_alike hZ.alike Ar24.2.1) Ar24.2.2 hin26 hat26 (g := (mkF m 12 #[rv qa1, iv 3, rv qa2, iv 3, iv 4, iv 3, iv qi6] [.int 3, .ref qa1])) rfl rfl (hb hby d6_12) _ ?_
  refine zs X21 Bd d6_13 (l' := #[rv qa1, iv 3, rv qa2, iv 3, iv 4, iv 3, iv qi7]) rfl ?_
  refine zi X21 Bd d6_15 rfl ?_
  refine XS.sipush X21.here hx rfl (hb hby d6_17) ?_
  refine zn X21 Bd d6_20 (XT.ii_le_f (hc27 : (255 : Int32) < qi7)) ?_
  refine zi X21 Bd d6_23 rfl ?_
  exact retI X21 hx Bd.returns (hb hby d6_25) hr))
-- java/lang/StringUTF16.compress([CII)[B
def Q81 (Z : State) (qi3 : Int32) (qi4 : Int32) (qi5 : Int32) (qi6 : Int32) (h0 : Heap) (n0 : Nat) (v : Option Value) (h : Heap) (L : List Loc) : Prop := ∃ bm : Addr, ∃ cm : ClassId, v = some (.ref bm) ∧ Fr n0 L ∧ Keep h0 h [] ∧ h0.size ≤ bm ∧ Arv Z h bm cm .byte (8 : Int32) [(.int ((((qi3 >>> ((0 : Int32) &&& 31)))).toInt8.toInt32)), (.int ((((qi3 >>> ((8 : Int32) &&& 31)))).toInt8.toInt32)), (.int ((((qi4 >>> ((0 : Int32) &&& 31)))).toInt8.toInt32)), (.int ((((qi4 >>> ((8 : Int32) &&& 31)))).toInt8.toInt32)), (.int ((((qi5 >>> ((0 : Int32) &&& 31)))).toInt8.toInt32)), (.int ((((qi5 >>> ((8 : Int32) &&& 31)))).toInt8.toInt32)), (.int ((((qi6 >>> ((0 : Int32) &&& 31)))).toInt8.toInt32)), (.int ((((qi6 >>> ((8 : Int32) &&& 31)))).toInt8.toInt32))] (.int 0)
theorem rm81 (l : Launch) (Z : State) (a0 : Array Value) (hw : HW a0 Z) (qa1 : Addr) (qk2 : ClassId) (qi3 : Int32) (qi4 : Int32) (qi5 : Int32) (qi6 : Int32) (h0 : Heap) (n0 : Nat) (X00 : Old Z n0 h0) (uS12 : Sta Z Z.heap "java/lang/StringUTF16" "$assertionsDisabled" "Z" (.int 1)) (uS15 : Sta Z Z.heap "java/lang/StringUTF16" "HI_BYTE_SHIFT" "I" (.int 0)) (uS18 : Sta Z Z.heap "java/lang/StringUTF16" "LO_BYTE_SHIFT" "I" (.int 8)) (A_qa1 : Arv Z h0 qa1 qk2 .char (4 : Int32) [.int qi3, .int qi4, .int qi5, .int qi6] (.int 0)) (hc1 : (255 : Int32) < (own_max ([qi3, qi4, qi5, qi6] : List Int32))) (hr20 : nar .char qi3 = qi3) (hr39 : nar .char qi4 = qi4) (hr58 : nar .char qi5 = qi5) (hr77 : nar .char qi6 = qi6) :
    MF l Z Y12_ jdk_52_method_16_code 6 (some (.array .byte)) (Rm 3 2 12 40) #[.ref qa1, .int 0, .int 4] h0 (Q81 Z qi3 qi4 qi5 qi6 h0 n0) := by
 refine own_sF pn3 rfl (fun m => ef6 m qa1 (0 : Int32) (4 : Int32)) ?_
 intro p e s m below meth c s₁ Bd hZ hh hx hby hml hown hnm X0 e0 pre0
 have N0 := Fr.nil n0
 obtain ⟨T2, h2, c2, X2, e2, E2, A2, st2⟩ := newP (aty := .byte) X0 hx hZ (w24_ hw) e0 (g := (mkF m 1 #[rv qa1, iv 0, iv 4, .unset, .unset, .unset] [.int 4])) rfl (hb hby d5_1) rfl (by decide) (cap := 4) (by decide) (lE rfl) (lE rfl) (lE rfl)
 obtain ⟨b2, g2⟩ : ∃ z, z = h0.size := ⟨_, rfl⟩
 rw [← g2] at A2 st2
 replace X2 : Stand p l e (Rm 3 2 12 40) s m #[.ref qa1, .int 0, .int 4] below meth c T2 _ 1 4 := X2
 have K3 := (Keep.refl h0 []).ext E2
 have A4_ : Arv Z h2 b2 c2 .byte (4 : Int32) [.int 0, .int 0, .int 0, .int 0] (.int 0) := (Arv.new A2 (by decide)).pad (pad_rep [] (.int 0) 4)
 have A6_ := A_qa1.ext E2
 have pr7 : Pr p e below T2 m 9 #[rv qa1, iv 0, iv 4, rv b2, .unset, .unset] [.int 4, .int 0, .ref b2, .int 0, .ref qa1] s₁ (entryFrame m #[.ref qa1, .int 0, .int 4] 6) := fun t k => pre0 t (by
  show Sx p e below s₁ m 0 #[rv qa1, iv 0, iv 4, .unset, .unset, .unset] [] _
  refine zj X0 Bd d5_0 rfl ?_
  refine st2 _ ?_
  refine XS.astoreN X2.here hx rfl (hb hby d5_3) rfl rfl (l' := #[rv qa1, iv 0, iv 4, rv b2, .unset, .unset]) rfl ?_
  refine zb X2 Bd d5_4 rfl rfl ?_
  refine zj X2 Bd d5_5 rfl ?_
  refine zb X2 Bd d5_6 rfl rfl ?_
  refine zc X2 Bd d5_7 ?_
  refine zj X2 Bd d5_8 rfl ?_
  exact k)
 by_cases hc8 : (255 : Int32) < qi3
 ·
  skip
  have A10_ := A_qa1.ext E2
  have O11 := X00.ext E2
  obtain ⟨_, T9, L9, X9, hQ9, st9⟩ := own_cS 1 4 [] 9 #[rv qa1, iv 0, iv 4, rv b2, .unset, .unset] X2 hx hZ hown (w25_ hw) (w26_ hw) (w22_ hw) (w27_ hw) (rm72 l Z a0 hw  qa1 b2 qk2 qi3 qi4 qi5 qi6 h2 n0 O11 A10_ hc8) pd6 hml.symm (hb hby d5_9) e2 rfl rfl rfl rfl (by decide)
  obtain ⟨rfl, N9q, e9q⟩ := hQ9
  have N9 := Fr.app N0 N9q
  obtain ⟨_, T12, L12, X12, hQ12, st12⟩ := own_cS 2 12 [] 23 #[rv qa1, iv 0, iv 4, rv b2, iv 0, .unset] X9 hx hZ hown (w42_ hw) (w43_ hw) (w22_ hw) (w44_ hw) (rm76 l Z a0 hw  qa1 qk2 qi3 qi4 qi5 qi6 h2 n0 O11 uS12 uS15 uS18 A10_) pd10 hml.symm (hb hby d5_23) e9q rfl rfl rfl rfl (by decide)
  obtain ⟨b13, c14_, rfl, N12q, K12q, w15, w16⟩ := hQ12
  have N12 := Fr.app N9 N12q
  have K17 := K3.trans K12q (fun x q => nomatch q)
  have O19 := O11.keep K12q all0
  obtain ⟨_, T18, L18, X18, hQ18, st18⟩ := own_cS 2 12 [] 32 #[rv qa1, iv 0, iv 4, rv b2, iv 0, rv b13] X12 hx hZ hown (w58_ hw) (w59_ hw) (w22_ hw) (w60_ hw) (rm77 l Z a0 hw  b13 (0 : Int32) c14_ ((((qi3 >>> ((0 : Int32) &&& 31)))).toInt8.toInt32) ((((qi3 >>> ((8 : Int32) &&& 31)))).toInt8.toInt32) ((((qi4 >>> ((0 : Int32) &&& 31)))).toInt8.toInt32) ((((qi4 >>> ((8 : Int32) &&& 31)))).toInt8.toInt32) ((((qi5 >>> ((0 : Int32) &&& 31)))).toInt8.toInt32) ((((qi5 >>> ((8 : Int32) &&& 31)))).toInt8.toInt32) ((((qi6 >>> ((0 : Int32) &&& 31)))).toInt8.toInt32) ((((qi6 >>> ((8 : Int32) &&& 31)))).toInt8.toInt32) T12.heap n0 O19 uS12 uS15 uS18 w16 (by decide) (by decide)) pd11 hml.symm (hb hby d5_32) rfl rfl rfl rfl rfl (by decide)
  obtain ⟨rfl, N18q, e18q⟩ := hQ18
  have N18 := Fr.app N12 N18q
  have sz_b13 : h0.size ≤ b13 := Nat.le_trans K3.1 w15
  refine own_lvF X18 Bd (.ref b13) e18q ⟨b13, c14_, rfl, N18, K17, sz_b13, w16⟩ rfl (fun fs hr => pr7 _ (by
   show Sx p e below T2 m 9 #[rv qa1, iv 0, iv 4, rv b2, .unset, .unset] [.int 4, .int 0, .ref b2, .int 0, .ref qa1] _
   refine st9 _ ?_
   refine zs X9 Bd d5_12 (l' := #[rv qa1, iv 0, iv 4, rv b2, iv 0, .unset]) rfl ?_
   refine zi X9 Bd d5_14 rfl ?_
   refine zj X9 Bd d5_16 rfl ?_
   refine zn X9 Bd d5_17 (XT.ii_eq_f ((by decide) : ¬ ((0 : Int32) = (4 : Int32)))) ?_
   refine zb X9 Bd d5_20 rfl rfl ?_
   refine zj X9 Bd d5_21 rfl ?_
   refine zj X9 Bd d5_22 rfl ?_
   refine st12 _ ?_
   refine XS.astore X12.here hx rfl (hb hby d5_26) rfl rfl (l' := #[rv qa1, iv 0, iv 4, rv b2, iv 0, rv b13]) rfl ?_
   refine za X12 Bd d5_28 rfl rfl ?_
   refine zi X12 Bd d5_30 rfl ?_
   refine st18 _ ?_
   refine XS.sipush X18.here hx rfl (hb hby d5_35) ?_
   refine zy (pc' := 54) X18 Bd d5_38 (XT.ii_gt_t ((own_get16l hr20 hc8) : (255 : Int32) < ((((((((((qi3 >>> ((0 : Int32) &&& 31)))).toInt8.toInt32) &&& (255 : Int32)) <<< ((0 : Int32) &&& 31))) ||| (((((((qi3 >>> ((8 : Int32) &&& 31)))).toInt8.toInt32) &&& (255 : Int32)) <<< ((8 : Int32) &&& 31))))).toUInt32.toUInt16.toUInt32.toInt32))) rfl ?_
   refine za X18 Bd d5_54 rfl rfl ?_
   exact retOut X18 hx Bd.returns rfl (Or.inr (Or.inr (Or.inr (Or.inr ⟨rfl, rfl, rfl⟩)))) (hb hby d5_56) hr))
 ·
  skip
  have A22_ := A_qa1.ext E2
  have g_b2 : n0 ≤ b2 := Nat.le_trans (Nat.le_trans (Nat.le_of_eq X00.1.symm) X00.2.1) (Nat.le_of_eq g2.symm)
  by_cases hc23 : (255 : Int32) < qi4
  ·
   skip
   have A25_ := A_qa1.ext E2
   have g_b2 : n0 ≤ b2 := Nat.le_trans (Nat.le_trans (Nat.le_of_eq X00.1.symm) X00.2.1) (Nat.le_of_eq g2.symm)
   have O26 := X00.ext E2
   obtain ⟨_, T24, L24, X24, hQ24, st24⟩ := own_cS 1 4 [] 9 #[rv qa1, iv 0, iv 4, rv b2, .unset, .unset] X2 hx hZ hown (w25_ hw) (w26_ hw) (w22_ hw) (w27_ hw) (rm78 l Z a0 hw  qa1 b2 qk2 qi3 qi4 qi5 qi6 c2 h2 n0 O26 A25_ hc8 A4_ g_b2 (Nat.ne_of_lt (Nat.lt_of_lt_of_le A_qa1.lt (Nat.le_of_eq g2.symm))) hc23) pd6 hml.symm (hb hby d5_9) e2 rfl rfl rfl rfl (by decide)
   obtain ⟨rfl, N24q, K24q, w27⟩ := hQ24
   have N24 := Fr.app N0 N24q
   have sz_b2 : h0.size ≤ b2 := (Nat.le_of_eq g2.symm)
   have K28 := K3.trans K24q (allS (Or.inr sz_b2) all0)
   have A30_ := A25_.keep K24q (ninS (Nat.ne_of_lt (Nat.lt_of_lt_of_le A_qa1.lt (Nat.le_of_eq g2.symm))) nin0)
   have O31 := O26.keep K24q (allS g_b2 all0)
   obtain ⟨_, T29, L29, X29, hQ29, st29⟩ := own_cS 2 12 [] 23 #[rv qa1, iv 0, iv 4, rv b2, iv 1, .unset] X24 hx hZ hown (w42_ hw) (w43_ hw) (w22_ hw) (w44_ hw) (rm76 l Z a0 hw  qa1 qk2 qi3 qi4 qi5 qi6 T24.heap n0 O31 uS12 uS15 uS18 A30_) pd10 hml.symm (hb hby d5_23) rfl rfl rfl rfl rfl (by decide)
   obtain ⟨b32, c33_, rfl, N29q, K29q, w34, w35⟩ := hQ29
   have N29 := Fr.app N24 N29q
   have K36 := K28.trans K29q (fun x q => nomatch q)
   have O38 := O31.keep K29q all0
   obtain ⟨_, T37, L37, X37, hQ37, st37⟩ := own_cS 2 12 [] 32 #[rv qa1, iv 0, iv 4, rv b2, iv 1, rv b32] X29 hx hZ hown (w58_ hw) (w59_ hw) (w22_ hw) (w60_ hw) (rm77 l Z a0 hw  b32 (1 : Int32) c33_ ((((qi3 >>> ((0 : Int32) &&& 31)))).toInt8.toInt32) ((((qi3 >>> ((8 : Int32) &&& 31)))).toInt8.toInt32) ((((qi4 >>> ((0 : Int32) &&& 31)))).toInt8.toInt32) ((((qi4 >>> ((8 : Int32) &&& 31)))).toInt8.toInt32) ((((qi5 >>> ((0 : Int32) &&& 31)))).toInt8.toInt32) ((((qi5 >>> ((8 : Int32) &&& 31)))).toInt8.toInt32) ((((qi6 >>> ((0 : Int32) &&& 31)))).toInt8.toInt32) ((((qi6 >>> ((8 : Int32) &&& 31)))).toInt8.toInt32) T29.heap n0 O38 uS12 uS15 uS18 w35 (by decide) (by decide)) pd11 hml.symm (hb hby d5_32) rfl rfl rfl rfl rfl (by decide)
   obtain ⟨rfl, N37q, e37q⟩ := hQ37
   have N37 := Fr.app N29 N37q
   have sz_b32 : h0.size ≤ b32 := Nat.le_trans K28.1 w34
   refine own_lvF X37 Bd (.ref b32) e37q ⟨b32, c33_, rfl, N37, K36, sz_b32, w35⟩ rfl (fun fs hr => pr7 _ (by
    show Sx p e below T2 m 9 #[rv qa1, iv 0, iv 4, rv b2, .unset, .unset] [.int 4, .int 0, .ref b2, .int 0, .ref qa1] _
    refine st24 _ ?_
    refine zs X24 Bd d5_12 (l' := #[rv qa1, iv 0, iv 4, rv b2, iv 1, .unset]) rfl ?_
    refine zi X24 Bd d5_14 rfl ?_
    refine zj X24 Bd d5_16 rfl ?_
    refine zn X24 Bd d5_17 (XT.ii_eq_f ((by decide) : ¬ ((1 : Int32) = (4 : Int32)))) ?_
    refine zb X24 Bd d5_20 rfl rfl ?_
    refine zj X24 Bd d5_21 rfl ?_
    refine zj X24 Bd d5_22 rfl ?_
    refine st29 _ ?_
    refine XS.astore X29.here hx rfl (hb hby d5_26) rfl rfl (l' := #[rv qa1, iv 0, iv 4, rv b2, iv 1, rv b32]) rfl ?_
    refine za X29 Bd d5_28 rfl rfl ?_
    refine zi X29 Bd d5_30 rfl ?_
    refine st37 _ ?_
    refine XS.sipush X37.here hx rfl (hb hby d5_35) ?_
    refine zy (pc' := 54) X37 Bd d5_38 (XT.ii_gt_t ((own_get16l hr39 hc23) : (255 : Int32) < ((((((((((qi4 >>> ((0 : Int32) &&& 31)))).toInt8.toInt32) &&& (255 : Int32)) <<< ((0 : Int32) &&& 31))) ||| (((((((qi4 >>> ((8 : Int32) &&& 31)))).toInt8.toInt32) &&& (255 : Int32)) <<< ((8 : Int32) &&& 31))))).toUInt32.toUInt16.toUInt32.toInt32))) rfl ?_
    refine za X37 Bd d5_54 rfl rfl ?_
    exact retOut X37 hx Bd.returns rfl (Or.inr (Or.inr (Or.inr (Or.inr ⟨rfl, rfl, rfl⟩)))) (hb hby d5_56) hr))
  ·
   skip
   have A41_ := A_qa1.ext E2
   have g_b2 : n0 ≤ b2 := Nat.le_trans (Nat.le_trans (Nat.le_of_eq X00.1.symm) X00.2.1) (Nat.le_of_eq g2.symm)
   by_cases hc42 : (255 : Int32) < qi5
   ·
    skip
    have A44_ := A_qa1.ext E2
    have g_b2 : n0 ≤ b2 := Nat.le_trans (Nat.le_trans (Nat.le_of_eq X00.1.symm) X00.2.1) (Nat.le_of_eq g2.symm)
    have O45 := X00.ext E2
    obtain ⟨_, T43, L43, X43, hQ43, st43⟩ := own_cS 1 4 [] 9 #[rv qa1, iv 0, iv 4, rv b2, .unset, .unset] X2 hx hZ hown (w25_ hw) (w26_ hw) (w22_ hw) (w27_ hw) (rm79 l Z a0 hw  qa1 b2 qk2 qi3 qi4 qi5 qi6 c2 h2 n0 O45 A44_ hc8 A4_ g_b2 (Nat.ne_of_lt (Nat.lt_of_lt_of_le A_qa1.lt (Nat.le_of_eq g2.symm))) hc23 hc42) pd6 hml.symm (hb hby d5_9) e2 rfl rfl rfl rfl (by decide)
    obtain ⟨rfl, N43q, K43q, w46⟩ := hQ43
    have N43 := Fr.app N0 N43q
    have sz_b2 : h0.size ≤ b2 := (Nat.le_of_eq g2.symm)
    have K47 := K3.trans K43q (allS (Or.inr sz_b2) all0)
    have A49_ := A44_.keep K43q (ninS (Nat.ne_of_lt (Nat.lt_of_lt_of_le A_qa1.lt (Nat.le_of_eq g2.symm))) nin0)
    have O50 := O45.keep K43q (allS g_b2 all0)
    obtain ⟨_, T48, L48, X48, hQ48, st48⟩ := own_cS 2 12 [] 23 #[rv qa1, iv 0, iv 4, rv b2, iv 2, .unset] X43 hx hZ hown (w42_ hw) (w43_ hw) (w22_ hw) (w44_ hw) (rm76 l Z a0 hw  qa1 qk2 qi3 qi4 qi5 qi6 T43.heap n0 O50 uS12 uS15 uS18 A49_) pd10 hml.symm (hb hby d5_23) rfl rfl rfl rfl rfl (by decide)
    obtain ⟨b51, c52_, rfl, N48q, K48q, w53, w54⟩ := hQ48
    have N48 := Fr.app N43 N48q
    have K55 := K47.trans K48q (fun x q => nomatch q)
    have O57 := O50.keep K48q all0
    obtain ⟨_, T56, L56, X56, hQ56, st56⟩ := own_cS 2 12 [] 32 #[rv qa1, iv 0, iv 4, rv b2, iv 2, rv b51] X48 hx hZ hown (w58_ hw) (w59_ hw) (w22_ hw) (w60_ hw) (rm77 l Z a0 hw  b51 (2 : Int32) c52_ ((((qi3 >>> ((0 : Int32) &&& 31)))).toInt8.toInt32) ((((qi3 >>> ((8 : Int32) &&& 31)))).toInt8.toInt32) ((((qi4 >>> ((0 : Int32) &&& 31)))).toInt8.toInt32) ((((qi4 >>> ((8 : Int32) &&& 31)))).toInt8.toInt32) ((((qi5 >>> ((0 : Int32) &&& 31)))).toInt8.toInt32) ((((qi5 >>> ((8 : Int32) &&& 31)))).toInt8.toInt32) ((((qi6 >>> ((0 : Int32) &&& 31)))).toInt8.toInt32) ((((qi6 >>> ((8 : Int32) &&& 31)))).toInt8.toInt32) T48.heap n0 O57 uS12 uS15 uS18 w54 (by decide) (by decide)) pd11 hml.symm (hb hby d5_32) rfl rfl rfl rfl rfl (by decide)
    obtain ⟨rfl, N56q, e56q⟩ := hQ56
    have N56 := Fr.app N48 N56q
    have sz_b51 : h0.size ≤ b51 := Nat.le_trans K47.1 w53
    refine own_lvF X56 Bd (.ref b51) e56q ⟨b51, c52_, rfl, N56, K55, sz_b51, w54⟩ rfl (fun fs hr => pr7 _ (by
     show Sx p e below T2 m 9 #[rv qa1, iv 0, iv 4, rv b2, .unset, .unset] [.int 4, .int 0, .ref b2, .int 0, .ref qa1] _
     refine st43 _ ?_
     refine zs X43 Bd d5_12 (l' := #[rv qa1, iv 0, iv 4, rv b2, iv 2, .unset]) rfl ?_
     refine zi X43 Bd d5_14 rfl ?_
     refine zj X43 Bd d5_16 rfl ?_
     refine zn X43 Bd d5_17 (XT.ii_eq_f ((by decide) : ¬ ((2 : Int32) = (4 : Int32)))) ?_
     refine zb X43 Bd d5_20 rfl rfl ?_
     refine zj X43 Bd d5_21 rfl ?_
     refine zj X43 Bd d5_22 rfl ?_
     refine st48 _ ?_
     refine XS.astore X48.here hx rfl (hb hby d5_26) rfl rfl (l' := #[rv qa1, iv 0, iv 4, rv b2, iv 2, rv b51]) rfl ?_
     refine za X48 Bd d5_28 rfl rfl ?_
     refine zi X48 Bd d5_30 rfl ?_
     refine st56 _ ?_
     refine XS.sipush X56.here hx rfl (hb hby d5_35) ?_
     refine zy (pc' := 54) X56 Bd d5_38 (XT.ii_gt_t ((own_get16l hr58 hc42) : (255 : Int32) < ((((((((((qi5 >>> ((0 : Int32) &&& 31)))).toInt8.toInt32) &&& (255 : Int32)) <<< ((0 : Int32) &&& 31))) ||| (((((((qi5 >>> ((8 : Int32) &&& 31)))).toInt8.toInt32) &&& (255 : Int32)) <<< ((8 : Int32) &&& 31))))).toUInt32.toUInt16.toUInt32.toInt32))) rfl ?_
     refine za X56 Bd d5_54 rfl rfl ?_
     exact retOut X56 hx Bd.returns rfl (Or.inr (Or.inr (Or.inr (Or.inr ⟨rfl, rfl, rfl⟩)))) (hb hby d5_56) hr))
   ·
    skip
    have A60_ := A_qa1.ext E2
    have g_b2 : n0 ≤ b2 := Nat.le_trans (Nat.le_trans (Nat.le_of_eq X00.1.symm) X00.2.1) (Nat.le_of_eq g2.symm)
    by_cases hc61 : (255 : Int32) < qi6
    ·
     skip
     have A63_ := A_qa1.ext E2
     have g_b2 : n0 ≤ b2 := Nat.le_trans (Nat.le_trans (Nat.le_of_eq X00.1.symm) X00.2.1) (Nat.le_of_eq g2.symm)
     have O64 := X00.ext E2
     obtain ⟨_, T62, L62, X62, hQ62, st62⟩ := own_cS 1 4 [] 9 #[rv qa1, iv 0, iv 4, rv b2, .unset, .unset] X2 hx hZ hown (w25_ hw) (w26_ hw) (w22_ hw) (w27_ hw) (rm80 l Z a0 hw  qa1 b2 qk2 qi3 qi4 qi5 qi6 c2 h2 n0 O64 A63_ hc8 A4_ g_b2 (Nat.ne_of_lt (Nat.lt_of_lt_of_le A_qa1.lt (Nat.le_of_eq g2.symm))) hc23 hc42 hc61) pd6 hml.symm (hb hby d5_9) e2 rfl rfl rfl rfl (by decide)
     obtain ⟨rfl, N62q, K62q, w65⟩ := hQ62
     have N62 := Fr.app N0 N62q
     have sz_b2 : h0.size ≤ b2 := (Nat.le_of_eq g2.symm)
     have K66 := K3.trans K62q (allS (Or.inr sz_b2) all0)
     have A68_ := A63_.keep K62q (ninS (Nat.ne_of_lt (Nat.lt_of_lt_of_le A_qa1.lt (Nat.le_of_eq g2.symm))) nin0)
     have O69 := O64.keep K62q (allS g_b2 all0)
     obtain ⟨_, T67, L67, X67, hQ67, st67⟩ := own_cS 2 12 [] 23 #[rv qa1, iv 0, iv 4, rv b2, iv 3, .unset] X62 hx hZ hown (w42_ hw) (w43_ hw) (w22_ hw) (w44_ hw) (rm76 l Z a0 hw  qa1 qk2 qi3 qi4 qi5 qi6 T62.heap n0 O69 uS12 uS15 uS18 A68_) pd10 hml.symm (hb hby d5_23) rfl rfl rfl rfl rfl (by decide)
     obtain ⟨b70, c71_, rfl, N67q, K67q, w72, w73⟩ := hQ67
     have N67 := Fr.app N62 N67q
     have K74 := K66.trans K67q (fun x q => nomatch q)
     have O76 := O69.keep K67q all0
     obtain ⟨_, T75, L75, X75, hQ75, st75⟩ := own_cS 2 12 [] 32 #[rv qa1, iv 0, iv 4, rv b2, iv 3, rv b70] X67 hx hZ hown (w58_ hw) (w59_ hw) (w22_ hw) (w60_ hw) (rm77 l Z a0 hw  b70 (3 : Int32) c71_ ((((qi3 >>> ((0 : Int32) &&& 31)))).toInt8.toInt32) ((((qi3 >>> ((8 : Int32) &&& 31)))).toInt8.toInt32) ((((qi4 >>> ((0 : Int32) &&& 31)))).toInt8.toInt32) ((((qi4 >>> ((8 : Int32) &&& 31)))).toInt8.toInt32) ((((qi5 >>> ((0 : Int32) &&& 31)))).toInt8.toInt32) ((((qi5 >>> ((8 : Int32) &&& 31)))).toInt8.toInt32) ((((qi6 >>> ((0 : Int32) &&& 31)))).toInt8.toInt32) ((((qi6 >>> ((8 : Int32) &&& 31)))).toInt8.toInt32) T67.heap n0 O76 uS12 uS15 uS18 w73 (by decide) (by decide)) pd11 hml.symm (hb hby d5_32) rfl rfl rfl rfl rfl (by decide)
     obtain ⟨rfl, N75q, e75q⟩ := hQ75
     have N75 := Fr.app N67 N75q
     have sz_b70 : h0.size ≤ b70 := Nat.le_trans K66.1 w72
     refine own_lvF X75 Bd (.ref b70) e75q ⟨b70, c71_, rfl, N75, K74, sz_b70, w73⟩ rfl (fun fs hr => pr7 _ (by
      show Sx p e below T2 m 9 #[rv qa1, iv 0, iv 4, rv b2, .unset, .unset] [.int 4, .int 0, .ref b2, .int 0, .ref qa1] _
      refine st62 _ ?_
      refine zs X62 Bd d5_12 (l' := #[rv qa1, iv 0, iv 4, rv b2, iv 3, .unset]) rfl ?_
      refine zi X62 Bd d5_14 rfl ?_
      refine zj X62 Bd d5_16 rfl ?_
      refine zn X62 Bd d5_17 (XT.ii_eq_f ((by decide) : ¬ ((3 : Int32) = (4 : Int32)))) ?_
      refine zb X62 Bd d5_20 rfl rfl ?_
      refine zj X62 Bd d5_21 rfl ?_
      refine zj X62 Bd d5_22 rfl ?_
      refine st67 _ ?_
      refine XS.astore X67.here hx rfl (hb hby d5_26) rfl rfl (l' := #[rv qa1, iv 0, iv 4, rv b2, iv 3, rv b70]) rfl ?_
      refine za X67 Bd d5_28 rfl rfl ?_
      refine zi X67 Bd d5_30 rfl ?_
      refine st75 _ ?_
      refine XS.sipush X75.here hx rfl (hb hby d5_35) ?_
      refine zy (pc' := 54) X75 Bd d5_38 (XT.ii_gt_t ((own_get16l hr77 hc61) : (255 : Int32) < ((((((((((qi6 >>> ((0 : Int32) &&& 31)))).toInt8.toInt32) &&& (255 : Int32)) <<< ((0 : Int32) &&& 31))) ||| (((((((qi6 >>> ((8 : Int32) &&& 31)))).toInt8.toInt32) &&& (255 : Int32)) <<< ((8 : Int32) &&& 31))))).toUInt32.toUInt16.toUInt32.toInt32))) rfl ?_
      refine za X75 Bd d5_54 rfl rfl ?_
      exact retOut X75 hx Bd.returns rfl (Or.inr (Or.inr (Or.inr (Or.inr ⟨rfl, rfl, rfl⟩)))) (hb hby d5_56) hr))
    ·
     skip
     exact absurd hc1 (own_maxno _ (List.forall_mem_cons.mpr ⟨hc8, (List.forall_mem_cons.mpr ⟨hc23, (List.forall_mem_cons.mpr ⟨hc42, (List.forall_mem_cons.mpr ⟨hc61, (fun _ q => nomatch q)⟩)⟩)⟩)⟩))
-- java/lang/StringUTF16.coderFromArrayLen([BI)B
def Q82 (Z : State)  (h0 : Heap) (n0 : Nat) (v : Option Value) (h : Heap) (L : List Loc) : Prop := v = some (.int 1) ∧ Fr n0 L ∧ h = h0
theorem rm82 (l : Launch) (Z : State) (a0 : Array Value) (hw : HW a0 Z) (qa1 : Addr) (qk2 : ClassId) (qi3 : Int32) (qi4 : Int32) (qi5 : Int32) (qi6 : Int32) (qi7 : Int32) (qi8 : Int32) (qi9 : Int32) (qi10 : Int32) (h0 : Heap) (n0 : Nat) (X00 : Old Z n0 h0) (A_qa1 : Arv Z h0 qa1 qk2 .byte (8 : Int32) [.int qi3, .int qi4, .int qi5, .int qi6, .int qi7, .int qi8, .int qi9, .int qi10] (.int 0)) :
    MF l Z Y13_ jdk_52_method_15_code 2 (some .byte) (Rm 0 0 0 0) #[.ref qa1, .int 4] h0 (Q82 Z  h0 n0) := by
 refine own_sF pn3 rfl (fun m => ef10 m qa1 (4 : Int32)) ?_
 intro p e s m below meth c s₁ Bd hZ hh hx hby hml hown hnm X0 e0 pre0
 have N0 := Fr.nil n0
 have av1 := A_qa1
 obtain ⟨cl1, Ar1, q1, S1, N1, H1, Gf1⟩ := av1
 refine own_lvF X0 Bd (.int 1) e0 ⟨rfl, N0, rfl⟩ rfl (fun fs hr => pre0 _ (by
  show Sx p e below s₁ m 0 #[rv qa1, iv 4] [] _
  refine zj X0 Bd d12_0 rfl ?_
  refine zb X0 Bd d12_1 rfl rfl ?_
  refine X0.arraylength hx (by rw [e0]; exact Ar1.1) (State.isArrayOf_alike hZ.alike Ar1.2.1) (g := (mkF m 2 #[rv qa1, iv 4] [.ref qa1, .int 4])) rfl rfl (hb hby d12_2) _ ?_
  rw [len_of S1 N1]
  refine XS.isub X0.here hx rfl (hb hby d12_3) rfl ?_
  refine zd X0 Bd d12_4 ?_
  refine XS.iushr X0.here hx rfl (hb hby d12_6) rfl ?_
  refine XS.i2b X0.here hx rfl (hb hby d12_7) rfl ?_
  exact retN X0 hx (t := .byte) Bd.returns (by simp) (hb hby d12_8) hr))
-- java/lang/String.<init>([CIILjava/lang/Void;)V
def Q83 (Z : State) (qa1 : Addr) (qi4 : Int32) (qi5 : Int32) (qi6 : Int32) (qi7 : Int32) (h0 : Heap) (n0 : Nat) (v : Option Value) (h : Heap) (L : List Loc) : Prop := ∃ b9 : Addr, ∃ c10_ : ClassId, v = none ∧ Fr n0 L ∧ Keep h0 h [qa1] ∧ h0.size ≤ b9 ∧ Exa Z h qa1 "java/lang/String" ∧ Fld Z h qa1 "java/lang/String" "coder" "B" (.int 1) ∧ Fld Z h qa1 "java/lang/String" "value" "[B" (.ref b9) ∧ Arv Z h b9 c10_ .byte (8 : Int32) [(.int ((((qi4 >>> ((0 : Int32) &&& 31)))).toInt8.toInt32)), (.int ((((qi4 >>> ((8 : Int32) &&& 31)))).toInt8.toInt32)), (.int ((((qi5 >>> ((0 : Int32) &&& 31)))).toInt8.toInt32)), (.int ((((qi5 >>> ((8 : Int32) &&& 31)))).toInt8.toInt32)), (.int ((((qi6 >>> ((0 : Int32) &&& 31)))).toInt8.toInt32)), (.int ((((qi6 >>> ((8 : Int32) &&& 31)))).toInt8.toInt32)), (.int ((((qi7 >>> ((0 : Int32) &&& 31)))).toInt8.toInt32)), (.int ((((qi7 >>> ((8 : Int32) &&& 31)))).toInt8.toInt32))] (.int 0)
theorem rm83 (l : Launch) (Z : State) (a0 : Array Value) (hw : HW a0 Z) (G1 : Int32) (qa1 : Addr) (qa2 : Addr) (qk3 : ClassId) (qi4 : Int32) (qi5 : Int32) (qi6 : Int32) (qi7 : Int32) (h0 : Heap) (n0 : Nat) (X00 : Old Z n0 h0) (O2 : Sta Z Z.heap "java/lang/String" "COMPACT_STRINGS" "Z" (.int G1)) (P5 : ¬ (G1 = (0 : Int32))) (uS12 : Sta Z Z.heap "java/lang/StringUTF16" "$assertionsDisabled" "Z" (.int 1)) (uS15 : Sta Z Z.heap "java/lang/StringUTF16" "HI_BYTE_SHIFT" "I" (.int 0)) (uS18 : Sta Z Z.heap "java/lang/StringUTF16" "LO_BYTE_SHIFT" "I" (.int 8)) (A_qa2 : Arv Z h0 qa2 qk3 .char (4 : Int32) [.int qi4, .int qi5, .int qi6, .int qi7] (.int 0)) (hc4 : (255 : Int32) < (own_max ([qi4, qi5, qi6, qi7] : List Int32))) (hr5 : nar .char qi4 = qi4) (hr6 : nar .char qi5 = qi5) (hr7 : nar .char qi6 = qi6) (hr8 : nar .char qi7 = qi7) (E_qa1 : Exa Z h0 qa1 "java/lang/String") (F_qa1_coder : Fld Z h0 qa1 "java/lang/String" "coder" "B" (.int 0)) (g_qa1 : n0 ≤ qa1) (F_qa1_value : Fld Z h0 qa1 "java/lang/String" "value" "[B" .null) :
    MF l Z Y1_ jdk_42_method_149_code 6 none (Rm 4 2 12 57) #[.ref qa1, .ref qa2, .int 0, .int 4, .null] h0 (Q83 Z qa1 qi4 qi5 qi6 qi7 h0 n0) := by
 refine own_sF pn1 rfl (fun m => ef3 m qa1 qa2 (0 : Int32) (4 : Int32)) ?_
 intro p e s m below meth c s₁ Bd hZ hh hx hby hml hown hnm X0 e0 pre0
 have N0 := Fr.nil n0
 obtain ⟨T1, X1, e1, st1⟩ := initO X0 hx hZ hown (w16_ hw) (w17_ hw) (w18_ hw) e0 (g := (mkF m 1 #[rv qa1, rv qa2, iv 0, iv 4, .val .null, .unset] [.ref qa1])) rfl hml.symm rfl (hb hby d2_1) (by decide) (W := 0) (own_hw rfl) (lE rfl)
 obtain ⟨T2, X2, e2, st2⟩ := getS2 X1 hx hZ hown (host := "") (Or.inl (w19_ hw)) Via.refl e1 (O2.ext X00.2) (g := (mkF m 27 #[rv qa1, rv qa2, iv 0, iv 4, .val .null, .unset] [])) rfl (hb hby d2_27)
 obtain ⟨_, T3, L3, X3, hQ3, st3⟩ := own_cS 2 12 [] 36 #[rv qa1, rv qa2, iv 0, iv 4, .val .null, .unset] X2 hx hZ hown (w20_ hw) (w21_ hw) (w22_ hw) (w23_ hw) (rm81 l Z a0 hw  qa2 qk3 qi4 qi5 qi6 qi7 h0 n0 X00 uS12 uS15 uS18 A_qa2 hc4 hr5 hr6 hr7 hr8) pd10 hml.symm (hb hby d2_36) e2 rfl rfl rfl rfl (by decide)
 obtain ⟨b9, c10_, rfl, N3q, K3q, w11, w12⟩ := hQ3
 have N3 := Fr.app N0 N3q
 have K13 := (Keep.refl h0 [qa1]).trans K3q (fun x q => nomatch q)
 have O15 := X00.keep K3q all0
 obtain ⟨_, T14, L14, X14, hQ14, st14⟩ := own_cS 2 12 [.ref qa1] 45 #[rv qa1, rv qa2, iv 0, iv 4, .val .null, rv b9] X3 hx hZ hown (w28_ hw) (w29_ hw) (w22_ hw) (w30_ hw) (rm82 l Z a0 hw  b9 c10_ ((((qi4 >>> ((0 : Int32) &&& 31)))).toInt8.toInt32) ((((qi4 >>> ((8 : Int32) &&& 31)))).toInt8.toInt32) ((((qi5 >>> ((0 : Int32) &&& 31)))).toInt8.toInt32) ((((qi5 >>> ((8 : Int32) &&& 31)))).toInt8.toInt32) ((((qi6 >>> ((0 : Int32) &&& 31)))).toInt8.toInt32) ((((qi6 >>> ((8 : Int32) &&& 31)))).toInt8.toInt32) ((((qi7 >>> ((0 : Int32) &&& 31)))).toInt8.toInt32) ((((qi7 >>> ((8 : Int32) &&& 31)))).toInt8.toInt32) T3.heap n0 O15 w12) pd12 hml.symm (hb hby d2_45) rfl rfl rfl rfl rfl (by decide)
 obtain ⟨rfl, N14q, e14q⟩ := hQ14
 have N14 := Fr.app N3 N14q
 have F16_ := F_qa1_coder.keep K3q nin0
 have E17_ := E_qa1.keep K3q
 obtain ⟨T18, h18, X18, e18, W18, st18⟩ := putF X14 hx hZ hown (host := "") (Or.inl (w31_ hw)) Via.refl e14q F16_ E17_ (Or.inr ⟨(w32_ hw), rfl, hnm⟩) (w2_ hw) (ty := .byte) (by decide) rfl rfl (g := (mkF m 48 #[rv qa1, rv qa2, iv 0, iv 4, .val .null, rv b9] [.int 1, .ref qa1])) rfl rfl (hb hby d2_48)
 have N18 := Fr.snoc X18 N14 g_qa1
 have K19 := K13.wr W18 (Or.inl (mI 0 rfl))
 have F20_ : Fld Z h18 qa1 "java/lang/String" "coder" "B" (.int 1) := F16_.same W18
 have F21_ := F_qa1_value.keep K3q nin0
 have F22_ := F21_.other W18 (Or.inr (slot_ne (Or.inr (w34_ hw)) (Or.inr (w32_ hw)) (by decide) (t := (.array .byte)) (t' := .byte) (by decide) (by decide)))
 have E23_ := E17_.wr W18
 obtain ⟨T24, h24, X24, e24, W24, st24⟩ := putF X18 hx hZ hown (host := "") (Or.inl (w33_ hw)) Via.refl e18 F22_ E23_ (Or.inr ⟨(w34_ hw), rfl, hnm⟩) (w2_ hw) (ty := (.array .byte)) (by decide) rfl rfl (g := (mkF m 54 #[rv qa1, rv qa2, iv 0, iv 4, .val .null, rv b9] [.ref b9, .ref qa1])) rfl rfl (hb hby d2_54)
 have N24 := Fr.snoc X24 N18 g_qa1
 have K25 := K19.wr W24 (Or.inl (mI 0 rfl))
 have F26_ : Fld Z h24 qa1 "java/lang/String" "value" "[B" (.ref b9) := F22_.same W24
 have sz_b9 : h0.size ≤ b9 := w11
 have E27_ := E23_.wr W24
 have F28_ := F20_.other W24 (Or.inr (slot_ne (Or.inr (w32_ hw)) (Or.inr (w34_ hw)) (by decide) (t := .byte) (t' := (.array .byte)) (by decide) (by decide)))
 have A29_ := w12.other W18 (Ne.symm (Nat.ne_of_lt (Nat.lt_of_lt_of_le E_qa1.lt w11)))
 have A30_ := A29_.other W24 (Ne.symm (Nat.ne_of_lt (Nat.lt_of_lt_of_le E_qa1.lt w11)))
 refine own_lvN X24 Bd e24 ⟨b9, c10_, rfl, N24, K25, sz_b9, E27_, F28_, F26_, A30_⟩ rfl (fun fs hr => pre0 _ (by
  show Sx p e below s₁ m 0 #[rv qa1, rv qa2, iv 0, iv 4, .val .null, .unset] [] _
  refine zb X0 Bd d2_0 rfl rfl ?_
  refine st1 _ ?_
  refine zj X1 Bd d2_4 rfl ?_
  refine zp (pc' := 27) X1 Bd d2_5 (XT.i0_ne_t ((by decide) : ¬ ((4 : Int32) = (0 : Int32)))) rfl ?_
  refine st2 _ ?_
  refine zo X2 Bd d2_30 (XT.i0_eq_f (P5 : ¬ (G1 = (0 : Int32)))) ?_
  refine zb X2 Bd d2_33 rfl rfl ?_
  refine zj X2 Bd d2_34 rfl ?_
  refine zj X2 Bd d2_35 rfl ?_
  refine st3 _ ?_
  refine XS.astore X3.here hx rfl (hb hby d2_39) rfl rfl (l' := #[rv qa1, rv qa2, iv 0, iv 4, .val .null, rv b9]) rfl ?_
  refine zb X3 Bd d2_41 rfl rfl ?_
  refine za X3 Bd d2_42 rfl rfl ?_
  refine zj X3 Bd d2_44 rfl ?_
  refine st14 _ ?_
  refine st18 _ ?_
  refine zb X18 Bd d2_51 rfl rfl ?_
  refine za X18 Bd d2_52 rfl rfl ?_
  refine st24 _ ?_
  exact X24.returnOut hx Bd.returns (hb hby d2_57) hr))
-- java/lang/String.<init>([C)V
def Q84 (Z : State) (qa1 : Addr) (qi4 : Int32) (qi5 : Int32) (qi6 : Int32) (qi7 : Int32) (h0 : Heap) (n0 : Nat) (v : Option Value) (h : Heap) (L : List Loc) : Prop := ∃ b8 : Addr, ∃ c9_ : ClassId, v = none ∧ Fr n0 L ∧ Keep h0 h [qa1] ∧ h0.size ≤ b8 ∧ Exa Z h qa1 "java/lang/String" ∧ Fld Z h qa1 "java/lang/String" "coder" "B" (.int 1) ∧ Fld Z h qa1 "java/lang/String" "value" "[B" (.ref b8) ∧ Arv Z h b8 c9_ .byte (8 : Int32) [(.int ((((qi4 >>> ((0 : Int32) &&& 31)))).toInt8.toInt32)), (.int ((((qi4 >>> ((8 : Int32) &&& 31)))).toInt8.toInt32)), (.int ((((qi5 >>> ((0 : Int32) &&& 31)))).toInt8.toInt32)), (.int ((((qi5 >>> ((8 : Int32) &&& 31)))).toInt8.toInt32)), (.int ((((qi6 >>> ((0 : Int32) &&& 31)))).toInt8.toInt32)), (.int ((((qi6 >>> ((8 : Int32) &&& 31)))).toInt8.toInt32)), (.int ((((qi7 >>> ((0 : Int32) &&& 31)))).toInt8.toInt32)), (.int ((((qi7 >>> ((8 : Int32) &&& 31)))).toInt8.toInt32))] (.int 0)
theorem rm84 (l : Launch) (Z : State) (a0 : Array Value) (hw : HW a0 Z) (G1 : Int32) (qa1 : Addr) (qa2 : Addr) (qk3 : ClassId) (qi4 : Int32) (qi5 : Int32) (qi6 : Int32) (qi7 : Int32) (h0 : Heap) (n0 : Nat) (X00 : Old Z n0 h0) (O2 : Sta Z Z.heap "java/lang/String" "COMPACT_STRINGS" "Z" (.int G1)) (P5 : ¬ (G1 = (0 : Int32))) (uS12 : Sta Z Z.heap "java/lang/StringUTF16" "$assertionsDisabled" "Z" (.int 1)) (uS15 : Sta Z Z.heap "java/lang/StringUTF16" "HI_BYTE_SHIFT" "I" (.int 0)) (uS18 : Sta Z Z.heap "java/lang/StringUTF16" "LO_BYTE_SHIFT" "I" (.int 8)) (A_qa2 : Arv Z h0 qa2 qk3 .char (4 : Int32) [.int qi4, .int qi5, .int qi6, .int qi7] (.int 0)) (hc3 : (255 : Int32) < (own_max ([qi4, qi5, qi6, qi7] : List Int32))) (hr4 : nar .char qi4 = qi4) (hr5 : nar .char qi5 = qi5) (hr6 : nar .char qi6 = qi6) (hr7 : nar .char qi7 = qi7) (E_qa1 : Exa Z h0 qa1 "java/lang/String") (F_qa1_coder : Fld Z h0 qa1 "java/lang/String" "coder" "B" (.int 0)) (g_qa1 : n0 ≤ qa1) (F_qa1_value : Fld Z h0 qa1 "java/lang/String" "value" "[B" .null) :
    MF l Z Y2_ jdk_42_method_3_code 2 none (Rm 5 2 12 74) #[.ref qa1, .ref qa2] h0 (Q84 Z qa1 qi4 qi5 qi6 qi7 h0 n0) := by
 refine own_sF pn1 rfl (fun m => ef2 m qa1 qa2) ?_
 intro p e s m below meth c s₁ Bd hZ hh hx hby hml hown hnm X0 e0 pre0
 have N0 := Fr.nil n0
 have av1 := A_qa2
 obtain ⟨cl1, Ar1, q1, S1, N1, H1, Gf1⟩ := av1
 obtain ⟨_, T2, L2, X2, hQ2, st2⟩ := own_cI 2 12 [] 6 #[rv qa1, rv qa2] X0 hx hZ hown (w12_ hw) (w13_ hw) (w3_ hw) (w15_ hw) (rm83 l Z a0 hw G1 qa1 qa2 qk3 qi4 qi5 qi6 qi7 h0 n0 X00 O2 P5 uS12 uS15 uS18 A_qa2 hc3 hr4 hr5 hr6 hr7 E_qa1 F_qa1_coder g_qa1 F_qa1_value) pd1 hml.symm (hb hby d1_6) e0 rfl rfl rfl rfl rfl (by decide)
 obtain ⟨b8, c9_, rfl, N2q, K2q, w10, w11, w12, w13, w14⟩ := hQ2
 have N2 := Fr.app N0 N2q
 have K15 := (Keep.refl h0 [qa1]).trans K2q (allS (Or.inl (mI 0 rfl)) all0)
 have sz_b8 : h0.size ≤ b8 := w10
 have E16_ := E_qa1.keep K2q
 refine own_lvN X2 Bd rfl ⟨b8, c9_, rfl, N2, K15, sz_b8, E16_, w12, w13, w14⟩ rfl (fun fs hr => pre0 _ (by
  show Sx p e below s₁ m 0 #[rv qa1, rv qa2] [] _
  refine zb X0 Bd d1_0 rfl rfl ?_
  refine zb X0 Bd d1_1 rfl rfl ?_
  refine zc X0 Bd d1_2 ?_
  refine zb X0 Bd d1_3 rfl rfl ?_
  refine X0.arraylength hx (by rw [e0]; exact Ar1.1) (State.isArrayOf_alike hZ.alike Ar1.2.1) (g := (mkF m 4 #[rv qa1, rv qa2] [.ref qa2, .int 0, .ref qa2, .ref qa1])) rfl rfl (hb hby d1_4) _ ?_
  rw [len_of S1 N1]
  refine XS.aconstNull X0.here hx rfl (hb hby d1_5) ?_
  refine st2 _ ?_
  exact X2.returnOut hx Bd.returns (hb hby d1_9) hr))
-- java/lang/StringUTF16.length([B)I
def Q85 (Z : State)  (h0 : Heap) (n0 : Nat) (v : Option Value) (h : Heap) (L : List Loc) : Prop := v = some (.int 4) ∧ Fr n0 L ∧ h = h0
theorem rm85 (l : Launch) (Z : State) (a0 : Array Value) (hw : HW a0 Z) (qa1 : Addr) (qk2 : ClassId) (qi3 : Int32) (qi4 : Int32) (qi5 : Int32) (qi6 : Int32) (qi7 : Int32) (qi8 : Int32) (qi9 : Int32) (qi10 : Int32) (h0 : Heap) (n0 : Nat) (X00 : Old Z n0 h0) (A_qa1 : Arv Z h0 qa1 qk2 .byte (8 : Int32) [.int qi3, .int qi4, .int qi5, .int qi6, .int qi7, .int qi8, .int qi9, .int qi10] (.int 0)) :
    MF l Z Y15_ jdk_52_method_6_code 1 (some .int) (Rm 0 0 0 0) #[.ref qa1] h0 (Q85 Z  h0 n0) := by
 refine own_sF pn3 rfl (fun m => ef11 m qa1) ?_
 intro p e s m below meth c s₁ Bd hZ hh hx hby hml hown hnm X0 e0 pre0
 have N0 := Fr.nil n0
 have av1 := A_qa1
 obtain ⟨cl1, Ar1, q1, S1, N1, H1, Gf1⟩ := av1
 refine own_lvF X0 Bd (.int 4) e0 ⟨rfl, N0, rfl⟩ rfl (fun fs hr => pre0 _ (by
  show Sx p e below s₁ m 0 #[rv qa1] [] _
  refine zb X0 Bd d17_0 rfl rfl ?_
  refine X0.arraylength hx (by rw [e0]; exact Ar1.1) (State.isArrayOf_alike hZ.alike Ar1.2.1) (g := (mkF m 1 #[rv qa1] [.ref qa1])) rfl rfl (hb hby d17_1) _ ?_
  rw [len_of S1 N1]
  refine zc X0 Bd d17_2 ?_
  refine XS.ishr X0.here hx rfl (hb hby d17_3) rfl ?_
  exact retI X0 hx Bd.returns (hb hby d17_4) hr))
-- jdk/internal/util/Preconditions.checkIndex(IILjava/util/function/BiFunction;)I
def Q86 (Z : State) (qi1 : Int32) (h0 : Heap) (n0 : Nat) (v : Option Value) (h : Heap) (L : List Loc) : Prop := v = some (.int qi1) ∧ Fr n0 L ∧ h = h0
theorem rm86 (l : Launch) (Z : State) (a0 : Array Value) (hw : HW a0 Z) (G3 : Value) (qi1 : Int32) (h0 : Heap) (n0 : Nat) (X00 : Old Z n0 h0) (O4 : Sta Z Z.heap "jdk/internal/util/Preconditions" "SIOOBE_FORMATTER" "Ljava/util/function/BiFunction;" G3) (rG3 : G3.isRef = true) (hc1 : ¬ (qi1 < (0 : Int32))) (hc2 : qi1 < (4 : Int32)) :
    MF l Z Y16_ jdk_41_method_11_code 3 (some .int) (Rm 0 0 0 0) #[.int qi1, .int 4, G3] h0 (Q86 Z qi1 h0 n0) := by
 refine own_sF pn4 rfl (fun m => ef14 m qi1 (4 : Int32) G3 rG3) ?_
 intro p e s m below meth c s₁ Bd hZ hh hx hby hml hown hnm X0 e0 pre0
 have N0 := Fr.nil n0
 refine own_lvF X0 Bd (.int qi1) e0 ⟨rfl, N0, rfl⟩ rfl (fun fs hr => pre0 _ (by
  show Sx p e below s₁ m 0 #[iv qi1, iv 4, .val G3] [] _
  refine zj X0 Bd d19_0 rfl ?_
  refine zo X0 Bd d19_1 (XT.i0_lt_f (hc1 : ¬ (qi1 < (0 : Int32)))) ?_
  refine zj X0 Bd d19_4 rfl ?_
  refine zj X0 Bd d19_5 rfl ?_
  refine zy (pc' := 16) X0 Bd d19_6 (XT.ii_lt_t (hc2 : qi1 < (4 : Int32))) rfl ?_
  refine zj X0 Bd d19_16 rfl ?_
  exact retI X0 hx Bd.returns (hb hby d19_17) hr))
-- java/lang/String.checkIndex(II)V
def Q87 (Z : State)  (h0 : Heap) (n0 : Nat) (v : Option Value) (h : Heap) (L : List Loc) : Prop := v = none ∧ Fr n0 L ∧ h = h0
theorem rm87 (l : Launch) (Z : State) (a0 : Array Value) (hw : HW a0 Z) (G3 : Value) (qi1 : Int32) (h0 : Heap) (n0 : Nat) (X00 : Old Z n0 h0) (O4 : Sta Z Z.heap "jdk/internal/util/Preconditions" "SIOOBE_FORMATTER" "Ljava/util/function/BiFunction;" G3) (rG3 : G3.isRef = true) (hc3 : ¬ (qi1 < (0 : Int32))) (hc4 : qi1 < (4 : Int32)) :
    MF l Z Y17_ jdk_42_method_155_code 2 none (Rm 1 0 0 14) #[.int qi1, .int 4] h0 (Q87 Z  h0 n0) := by
 refine own_sF pn1 rfl (fun m => ef13 m qi1 (4 : Int32)) ?_
 intro p e s m below meth c s₁ Bd hZ hh hx hby hml hown hnm X0 e0 pre0
 have N0 := Fr.nil n0
 obtain ⟨T1, X1, e1, st1⟩ := getS2 X0 hx hZ hown (host := "") (Or.inl (w87_ hw)) Via.refl e0 (O4.ext X00.2) (g := (mkF m 2 #[iv qi1, iv 4] [.int 4, .int qi1])) rfl (hb hby d18_2)
 obtain ⟨_, T2, L2, X2, hQ2, st2⟩ := own_cS 0 0 [] 5 #[iv qi1, iv 4] X1 hx hZ hown (w89_ hw) (w90_ hw) (w88_ hw) (w91_ hw) (rm86 l Z a0 hw G3 qi1 h0 n0 X00 O4 rG3 hc3 hc4) pd15 hml.symm (hb hby d18_5) e1 rfl rfl rfl rfl (by decide)
 obtain ⟨rfl, N2q, e2q⟩ := hQ2
 have N2 := Fr.app N0 N2q
 refine own_lvN X2 Bd e2q ⟨rfl, N2, rfl⟩ rfl (fun fs hr => pre0 _ (by
  show Sx p e below s₁ m 0 #[iv qi1, iv 4] [] _
  refine zj X0 Bd d18_0 rfl ?_
  refine zj X0 Bd d18_1 rfl ?_
  refine st1 _ ?_
  refine st2 _ ?_
  refine XS.pop X2.here hx rfl (hb hby d18_8) rfl rfl ?_
  exact X2.returnOut hx Bd.returns (hb hby d18_9) hr))
-- java/lang/StringUTF16.checkIndex(I[B)V
def Q88 (Z : State)  (h0 : Heap) (n0 : Nat) (v : Option Value) (h : Heap) (L : List Loc) : Prop := v = none ∧ Fr n0 L ∧ h = h0
theorem rm88 (l : Launch) (Z : State) (a0 : Array Value) (hw : HW a0 Z) (G3 : Value) (qi1 : Int32) (qa2 : Addr) (qk3 : ClassId) (qi4 : Int32) (qi5 : Int32) (qi6 : Int32) (qi7 : Int32) (qi8 : Int32) (qi9 : Int32) (qi10 : Int32) (qi11 : Int32) (h0 : Heap) (n0 : Nat) (X00 : Old Z n0 h0) (O4 : Sta Z Z.heap "jdk/internal/util/Preconditions" "SIOOBE_FORMATTER" "Ljava/util/function/BiFunction;" G3) (rG3 : G3.isRef = true) (A_qa2 : Arv Z h0 qa2 qk3 .byte (8 : Int32) [.int qi4, .int qi5, .int qi6, .int qi7, .int qi8, .int qi9, .int qi10, .int qi11] (.int 0)) (hc3 : ¬ (qi1 < (0 : Int32))) (hc4 : qi1 < (4 : Int32)) :
    MF l Z Y18_ jdk_52_method_91_code 2 none (Rm 2 0 0 27) #[.int qi1, .ref qa2] h0 (Q88 Z  h0 n0) := by
 refine own_sF pn3 rfl (fun m => ef12 m qi1 qa2) ?_
 intro p e s m below meth c s₁ Bd hZ hh hx hby hml hown hnm X0 e0 pre0
 have N0 := Fr.nil n0
 obtain ⟨_, T1, L1, X1, hQ1, st1⟩ := own_cS 0 0 [.int qi1] 2 #[iv qi1, rv qa2] X0 hx hZ hown (w81_ hw) (w82_ hw) (w22_ hw) (w83_ hw) (rm85 l Z a0 hw  qa2 qk3 qi4 qi5 qi6 qi7 qi8 qi9 qi10 qi11 h0 n0 X00 A_qa2) pd14 hml.symm (hb hby d16_2) e0 rfl rfl rfl rfl (by decide)
 obtain ⟨rfl, N1q, e1q⟩ := hQ1
 have N1 := Fr.app N0 N1q
 obtain ⟨_, T2, L2, X2, hQ2, st2⟩ := own_cS 0 0 [] 5 #[iv qi1, rv qa2] X1 hx hZ hown (w84_ hw) (w85_ hw) (w3_ hw) (w86_ hw) (rm87 l Z a0 hw G3 qi1 h0 n0 X00 O4 rG3 hc3 hc4) pd16 hml.symm (hb hby d16_5) e1q rfl rfl rfl rfl (by decide)
 obtain ⟨rfl, N2q, e2q⟩ := hQ2
 have N2 := Fr.app N1 N2q
 refine own_lvN X2 Bd e2q ⟨rfl, N2, rfl⟩ rfl (fun fs hr => pre0 _ (by
  show Sx p e below s₁ m 0 #[iv qi1, rv qa2] [] _
  refine zj X0 Bd d16_0 rfl ?_
  refine zb X0 Bd d16_1 rfl rfl ?_
  refine st1 _ ?_
  refine st2 _ ?_
  exact X2.returnOut hx Bd.returns (hb hby d16_8) hr))
-- java/lang/StringUTF16.charAt([BI)C
def Q89 (Z : State) (qi2 : Int32) (qi4 : Int32) (qi5 : Int32) (qi6 : Int32) (qi7 : Int32) (qi8 : Int32) (qi9 : Int32) (qi10 : Int32) (qi11 : Int32) (h0 : Heap) (n0 : Nat) (v : Option Value) (h : Heap) (L : List Loc) : Prop := v = some (.int (((((((own_at ([qi4, qi5, qi6, qi7, qi8, qi9, qi10, qi11] : List Int32) ((qi2 <<< ((1 : Int32) &&& 31)))) &&& (255 : Int32)) <<< ((0 : Int32) &&& 31))) ||| ((((own_at ([qi4, qi5, qi6, qi7, qi8, qi9, qi10, qi11] : List Int32) (((qi2 <<< ((1 : Int32) &&& 31))) + (1 : Int32))) &&& (255 : Int32)) <<< ((8 : Int32) &&& 31))))).toUInt32.toUInt16.toUInt32.toInt32)) ∧ Fr n0 L ∧ h = h0
theorem rm89 (l : Launch) (Z : State) (a0 : Array Value) (hw : HW a0 Z) (G3 : Value) (qa1 : Addr) (qi2 : Int32) (qk3 : ClassId) (qi4 : Int32) (qi5 : Int32) (qi6 : Int32) (qi7 : Int32) (qi8 : Int32) (qi9 : Int32) (qi10 : Int32) (qi11 : Int32) (h0 : Heap) (n0 : Nat) (X00 : Old Z n0 h0) (O4 : Sta Z Z.heap "jdk/internal/util/Preconditions" "SIOOBE_FORMATTER" "Ljava/util/function/BiFunction;" G3) (rG3 : G3.isRef = true) (uS12 : Sta Z Z.heap "java/lang/StringUTF16" "$assertionsDisabled" "Z" (.int 1)) (uS15 : Sta Z Z.heap "java/lang/StringUTF16" "HI_BYTE_SHIFT" "I" (.int 0)) (uS18 : Sta Z Z.heap "java/lang/StringUTF16" "LO_BYTE_SHIFT" "I" (.int 8)) (A_qa1 : Arv Z h0 qa1 qk3 .byte (8 : Int32) [.int qi4, .int qi5, .int qi6, .int qi7, .int qi8, .int qi9, .int qi10, .int qi11] (.int 0)) (hc2 : ¬ (qi2 < (0 : Int32))) (hc3 : qi2 < (4 : Int32)) :
    MF l Z Y19_ jdk_52_method_83_code 2 (some .char) (Rm 3 0 0 40) #[.ref qa1, .int qi2] h0 (Q89 Z qi2 qi4 qi5 qi6 qi7 qi8 qi9 qi10 qi11 h0 n0) := by
 refine own_sF pn3 rfl (fun m => ef10 m qa1 qi2) ?_
 intro p e s m below meth c s₁ Bd hZ hh hx hby hml hown hnm X0 e0 pre0
 have N0 := Fr.nil n0
 obtain ⟨_, T1, L1, X1, hQ1, st1⟩ := own_cS 0 0 [] 2 #[rv qa1, iv qi2] X0 hx hZ hown (w78_ hw) (w79_ hw) (w22_ hw) (w80_ hw) (rm88 l Z a0 hw G3 qi2 qa1 qk3 qi4 qi5 qi6 qi7 qi8 qi9 qi10 qi11 h0 n0 X00 O4 rG3 A_qa1 hc2 hc3) pd17 hml.symm (hb hby d15_2) e0 rfl rfl rfl rfl (by decide)
 obtain ⟨rfl, N1q, e1q⟩ := hQ1
 have N1 := Fr.app N0 N1q
 obtain ⟨_, T4, L4, X4, hQ4, st4⟩ := own_cS 0 0 [] 7 #[rv qa1, iv qi2] X1 hx hZ hown (w58_ hw) (w59_ hw) (w22_ hw) (w60_ hw) (rm77 l Z a0 hw  qa1 qi2 qk3 qi4 qi5 qi6 qi7 qi8 qi9 qi10 qi11 h0 n0 X00 uS12 uS15 uS18 A_qa1 hc2 hc3) pd11 hml.symm (hb hby d15_7) e1q rfl rfl rfl rfl (by decide)
 obtain ⟨rfl, N4q, e4q⟩ := hQ4
 have N4 := Fr.app N1 N4q
 refine own_lvF X4 Bd (.int (nar .char (((((((own_at ([qi4, qi5, qi6, qi7, qi8, qi9, qi10, qi11] : List Int32) ((qi2 <<< ((1 : Int32) &&& 31)))) &&& (255 : Int32)) <<< ((0 : Int32) &&& 31))) ||| ((((own_at ([qi4, qi5, qi6, qi7, qi8, qi9, qi10, qi11] : List Int32) (((qi2 <<< ((1 : Int32) &&& 31))) + (1 : Int32))) &&& (255 : Int32)) <<< ((8 : Int32) &&& 31))))).toUInt32.toUInt16.toUInt32.toInt32))) e4q ⟨(congrArg (fun z => some (Value.int z)) (own_nar_i2c _)), N4, rfl⟩ rfl (fun fs hr => pre0 _ (by
  show Sx p e below s₁ m 0 #[rv qa1, iv qi2] [] _
  refine zj X0 Bd d15_0 rfl ?_
  refine zb X0 Bd d15_1 rfl rfl ?_
  refine st1 _ ?_
  refine zb X1 Bd d15_5 rfl rfl ?_
  refine zj X1 Bd d15_6 rfl ?_
  refine st4 _ ?_
  exact retN X4 hx (t := .char) Bd.returns (by simp) (hb hby d15_10) hr))
-- java/lang/String.charAt(I)C
def Q90 (Z : State) (qi2 : Int32) (qi5 : Int32) (qi6 : Int32) (qi7 : Int32) (qi8 : Int32) (qi9 : Int32) (qi10 : Int32) (qi11 : Int32) (qi12 : Int32) (h0 : Heap) (n0 : Nat) (v : Option Value) (h : Heap) (L : List Loc) : Prop := v = some (.int (own_at (own_L4 qi5 qi6 qi7 qi8 qi9 qi10 qi11 qi12) qi2)) ∧ Fr n0 L ∧ h = h0
theorem rm90 (l : Launch) (Z : State) (a0 : Array Value) (hw : HW a0 Z) (G1 : Int32) (G3 : Value) (qa1 : Addr) (qi2 : Int32) (qa3 : Addr) (qk4 : ClassId) (qi5 : Int32) (qi6 : Int32) (qi7 : Int32) (qi8 : Int32) (qi9 : Int32) (qi10 : Int32) (qi11 : Int32) (qi12 : Int32) (h0 : Heap) (n0 : Nat) (X00 : Old Z n0 h0) (O2 : Sta Z Z.heap "java/lang/String" "COMPACT_STRINGS" "Z" (.int G1)) (P5 : ¬ (G1 = (0 : Int32))) (O4 : Sta Z Z.heap "jdk/internal/util/Preconditions" "SIOOBE_FORMATTER" "Ljava/util/function/BiFunction;" G3) (rG3 : G3.isRef = true) (uS12 : Sta Z Z.heap "java/lang/StringUTF16" "$assertionsDisabled" "Z" (.int 1)) (uS15 : Sta Z Z.heap "java/lang/StringUTF16" "HI_BYTE_SHIFT" "I" (.int 0)) (uS18 : Sta Z Z.heap "java/lang/StringUTF16" "LO_BYTE_SHIFT" "I" (.int 8)) (F_qa1_value : Fld Z h0 qa1 "java/lang/String" "value" "[B" (.ref qa3)) (F_qa1_coder : Fld Z h0 qa1 "java/lang/String" "coder" "B" (.int 1)) (A_qa3 : Arv Z h0 qa3 qk4 .byte (8 : Int32) [.int qi5, .int qi6, .int qi7, .int qi8, .int qi9, .int qi10, .int qi11, .int qi12] (.int 0)) (hj0 : ¬ qi2 < 0) (hjk : qi2 < (4 : Int32)) (E_qa1 : Exa Z h0 qa1 "java/lang/String") :
    MF l Z Y5_ jdk_42_method_56_code 2 (some .char) (Rm 4 0 0 53) #[.ref qa1, .int qi2] h0 (Q90 Z qi2 qi5 qi6 qi7 qi8 qi9 qi10 qi11 qi12 h0 n0) := by
 refine own_sF pn1 rfl (fun m => ef10 m qa1 qi2) ?_
 intro p e s m below meth c s₁ Bd hZ hh hx hby hml hown hnm X0 e0 pre0
 have N0 := Fr.nil n0
 obtain ⟨_, T1, L1, X1, hQ1, st1⟩ := own_cV 0 0 [] 1 #[rv qa1, iv qi2] X0 hx hZ hown E_qa1 (w70_ hw) (w71_ hw) (notFace_of_selects (args := #[]) (mvT hZ (w73_ hw))) (w73_ hw) (w72_ hw) (w3_ hw) (w74_ hw) (rm21 l Z a0 hw G1 qa1 h0 n0 X00 O2 P5 F_qa1_coder) pd13 hml.symm (hb hby d13_1) e0 rfl rfl rfl rfl (by decide)
 obtain ⟨rfl, N1q, e1q⟩ := hQ1
 have N1 := Fr.app N0 N1q
 obtain ⟨T2, X2, e2, st2⟩ := getF X1 hx hZ hown (host := "") (Or.inl (w33_ hw)) Via.refl e1q F_qa1_value (g := (mkF m 17 #[rv qa1, iv qi2] [.ref qa1])) rfl rfl (hb hby d13_17)
 obtain ⟨_, T3, L3, X3, hQ3, st3⟩ := own_cS 0 0 [] 21 #[rv qa1, iv qi2] X2 hx hZ hown (w75_ hw) (w76_ hw) (w22_ hw) (w77_ hw) (rm89 l Z a0 hw G3 qa3 qi2 qk4 qi5 qi6 qi7 qi8 qi9 qi10 qi11 qi12 h0 n0 X00 O4 rG3 uS12 uS15 uS18 A_qa3 hj0 hjk) pd11 hml.symm (hb hby d13_21) e2 rfl rfl rfl rfl (by decide)
 obtain ⟨rfl, N3q, e3q⟩ := hQ3
 have N3 := Fr.app N1 N3q
 refine own_lvF X3 Bd (.int (nar .char (((((((own_at ([qi5, qi6, qi7, qi8, qi9, qi10, qi11, qi12] : List Int32) ((qi2 <<< ((1 : Int32) &&& 31)))) &&& (255 : Int32)) <<< ((0 : Int32) &&& 31))) ||| ((((own_at ([qi5, qi6, qi7, qi8, qi9, qi10, qi11, qi12] : List Int32) (((qi2 <<< ((1 : Int32) &&& 31))) + (1 : Int32))) &&& (255 : Int32)) <<< ((8 : Int32) &&& 31))))).toUInt32.toUInt16.toUInt32.toInt32))) e3q ⟨(congrArg (fun z => some (Value.int z)) ((own_nar_i2c _).trans (own_cat4 qi5 qi6 qi7 qi8 qi9 qi10 qi11 qi12 qi2 hj0 hjk))), N3, rfl⟩ rfl (fun fs hr => pre0 _ (by
  show Sx p e below s₁ m 0 #[rv qa1, iv qi2] [] _
  refine zb X0 Bd d13_0 rfl rfl ?_
  refine st1 _ ?_
  refine zp (pc' := 16) X1 Bd d13_4 (XT.i0_eq_t ((by decide) : (0 : Int32) = (0 : Int32))) rfl ?_
  refine zb X1 Bd d13_16 rfl rfl ?_
  refine st2 _ ?_
  refine zj X2 Bd d13_20 rfl ?_
  refine st3 _ ?_
  exact retN X3 hx (t := .char) Bd.returns (by simp) (hb hby d13_24) hr))
-- com/example/backstop/backstop/WholeNumbers.isDigits(Ljava/lang/String;II)Z
def Q91 (Z : State) (qi2 : Int32) (qi3 : Int32) (qi6 : Int32) (qi7 : Int32) (qi8 : Int32) (qi9 : Int32) (qi10 : Int32) (qi11 : Int32) (qi12 : Int32) (qi13 : Int32) (h0 : Heap) (n0 : Nat) (v : Option Value) (h : Heap) (L : List Loc) : Prop := v = some (.int (own_isd (own_L4 qi6 qi7 qi8 qi9 qi10 qi11 qi12 qi13) qi2 qi3)) ∧ Fr n0 L ∧ h = h0
theorem rm91 (l : Launch) (Z : State) (a0 : Array Value) (hw : HW a0 Z) (G1 : Int32) (G3 : Value) (qa1 : Addr) (qi2 : Int32) (qi3 : Int32) (qa4 : Addr) (qk5 : ClassId) (qi6 : Int32) (qi7 : Int32) (qi8 : Int32) (qi9 : Int32) (qi10 : Int32) (qi11 : Int32) (qi12 : Int32) (qi13 : Int32) (h0 : Heap) (n0 : Nat) (X00 : Old Z n0 h0) (O2 : Sta Z Z.heap "java/lang/String" "COMPACT_STRINGS" "Z" (.int G1)) (P5 : ¬ (G1 = (0 : Int32))) (O4 : Sta Z Z.heap "jdk/internal/util/Preconditions" "SIOOBE_FORMATTER" "Ljava/util/function/BiFunction;" G3) (rG3 : G3.isRef = true) (uS12 : Sta Z Z.heap "java/lang/StringUTF16" "$assertionsDisabled" "Z" (.int 1)) (uS15 : Sta Z Z.heap "java/lang/StringUTF16" "HI_BYTE_SHIFT" "I" (.int 0)) (uS18 : Sta Z Z.heap "java/lang/StringUTF16" "LO_BYTE_SHIFT" "I" (.int 8)) (F_qa1_value : Fld Z h0 qa1 "java/lang/String" "value" "[B" (.ref qa4)) (F_qa1_coder : Fld Z h0 qa1 "java/lang/String" "coder" "B" (.int 1)) (A_qa4 : Arv Z h0 qa4 qk5 .byte (8 : Int32) [.int qi6, .int qi7, .int qi8, .int qi9, .int qi10, .int qi11, .int qi12, .int qi13] (.int 0)) (hs0 : ¬ qi2 < 0) (he0 : ¬ (4 : Int32) < qi3) (E_qa1 : Exa Z h0 qa1 "java/lang/String") :
    MF l Z Y4_ prog_50_method_3_code 5 (some .boolean) (Rm 5 0 0 66) #[.ref qa1, .int qi2, .int qi3] h0 (Q91 Z qi2 qi3 qi6 qi7 qi8 qi9 qi10 qi11 qi12 qi13 h0 n0) := by
 refine own_sF pn2 rfl (fun m => ef5 m qa1 qi2 qi3) ?_
 intro p e s m below meth c s₁ Bd hZ hh hx hby hml hown hnm X0 e0 pre0
 have N0 := Fr.nil n0
 have pr1 : Pr p e below s₁ m 2 #[rv qa1, iv qi2, iv qi3, .unset, .unset] [.int qi3, .int qi2] s₁ (entryFrame m #[.ref qa1, .int qi2, .int qi3] 5) := fun t k => pre0 t (by
  show Sx p e below s₁ m 0 #[rv qa1, iv qi2, iv qi3, .unset, .unset] [] _
  refine zj X0 Bd d4_0 rfl ?_
  refine zj X0 Bd d4_1 rfl ?_
  exact k)
 by_cases hc2 : qi2 < qi3
 ·
  skip
  have pr3 : Pr p e below s₁ m 9 #[rv qa1, iv qi2, iv qi3, iv qi2, .unset] [] s₁ (entryFrame m #[.ref qa1, .int qi2, .int qi3] 5) := fun t k => pr1 t (by
   show Sx p e below s₁ m 2 #[rv qa1, iv qi2, iv qi3, .unset, .unset] [.int qi3, .int qi2] _
   refine zy (pc' := 7) X0 Bd d4_2 (XT.ii_lt_t (hc2 : qi2 < qi3)) rfl ?_
   refine zj X0 Bd d4_7 rfl ?_
   refine zt X0 Bd d4_8 (l' := #[rv qa1, iv qi2, iv qi3, iv qi2, .unset]) rfl ?_
   exact k)
  refine own_loop1 (fun i_ => (qi3.toInt - i_.toInt).toNat) (fun T4 L4 i_ => ∃ sl4_4 : Slot, Stand p l e (Rm 5 0 0 66) s m #[.ref qa1, .int qi2, .int qi3] below meth c T4 L4 0 0 ∧ T4.heap = h0 ∧ Fr n0 L4 ∧ (¬ i_ < 0) ∧ ((own_digI (own_L4 qi6 qi7 qi8 qi9 qi10 qi11 qi12 qi13) qi2 qi3) = own_digI (own_L4 qi6 qi7 qi8 qi9 qi10 qi11 qi12 qi13) i_ qi3) ∧ (sl4_4 = .unset ∨ ∃ w, sl4_4 = .val w ∧ w.category = 1) ∧ Pr p e below T4 m 9 #[rv qa1, iv qi2, iv qi3, iv i_, sl4_4] [] s₁ (entryFrame m #[.ref qa1, .int qi2, .int qi3] 5)) ?_ s₁ _ qi2 ⟨.unset, X0, e0, N0, hs0, rfl, (Or.inl rfl), (fun t k => pr3 t k)⟩
  intro T4 L4 i_ hI4 ih4
  obtain ⟨sl4_4, X4, e4, N4, hq4_0, hq4_1, one4_4, pr4⟩ := hI4
  have pr5 : Pr p e below T4 m 11 #[rv qa1, iv qi2, iv qi3, iv i_, sl4_4] [.int qi3, .int i_] s₁ (entryFrame m #[.ref qa1, .int qi2, .int qi3] 5) := fun t k => pr4 t (by
   show Sx p e below T4 m 9 #[rv qa1, iv qi2, iv qi3, iv i_, sl4_4] [] _
   refine zj X4 Bd d4_9 rfl ?_
   refine zj X4 Bd d4_10 rfl ?_
   exact k)
  by_cases hc6 : i_ < qi3
  ·
   skip
   obtain ⟨_, T7, L7, X7, hQ7, st7⟩ := own_cV 0 0 [] 16 #[rv qa1, iv qi2, iv qi3, iv i_, sl4_4] X4 hx hZ hown E_qa1 (w65_ hw) (w66_ hw) (notFace_of_selects (args := #[]) (mvT hZ (w68_ hw))) (w68_ hw) (w67_ hw) (w3_ hw) (w69_ hw) (rm90 l Z a0 hw G1 G3 qa1 i_ qa4 qk5 qi6 qi7 qi8 qi9 qi10 qi11 qi12 qi13 h0 n0 X00 O2 P5 O4 rG3 uS12 uS15 uS18 F_qa1_value F_qa1_coder A_qa4 hq4_0 (own_iltk hc6 he0) E_qa1) pd4 hml.symm (hb hby d4_16) e4 rfl rfl rfl rfl (by decide)
   obtain ⟨rfl, N7q, e7q⟩ := hQ7
   have N7 := Fr.app N4 N7q
   have pr8 : Pr p e below T7 m 25 #[rv qa1, iv qi2, iv qi3, iv i_, iv (own_at (own_L4 qi6 qi7 qi8 qi9 qi10 qi11 qi12 qi13) i_)] [.int 48, (.int (own_at (own_L4 qi6 qi7 qi8 qi9 qi10 qi11 qi12 qi13) i_))] s₁ (entryFrame m #[.ref qa1, .int qi2, .int qi3] 5) := fun t k => pr5 t (by
    show Sx p e below T4 m 11 #[rv qa1, iv qi2, iv qi3, iv i_, sl4_4] [.int qi3, .int i_] _
    refine zn X4 Bd d4_11 (XT.ii_ge_f (hc6 : i_ < qi3)) ?_
    refine zb X4 Bd d4_14 rfl rfl ?_
    refine zj X4 Bd d4_15 rfl ?_
    refine st7 _ ?_
    refine XS.istoreS X7.here hx rfl (hb hby d4_19) rfl rfl one4_4 ?_
    refine zi X7 Bd d4_21 rfl ?_
    refine zd X7 Bd d4_23 ?_
    exact k)
   by_cases hc9 : (own_at (own_L4 qi6 qi7 qi8 qi9 qi10 qi11 qi12 qi13) i_) < (48 : Int32)
   ·
    skip
    refine own_lvF X7 Bd (.int 0) e7q ⟨(by rw [own_isd, if_pos hc2, hq4_1, own_dig0 hc6 hq4_0 (Or.inl hc9)]), N7, rfl⟩ rfl (fun fs hr => pr8 _ (by
     show Sx p e below T7 m 25 #[rv qa1, iv qi2, iv qi3, iv i_, iv (own_at (own_L4 qi6 qi7 qi8 qi9 qi10 qi11 qi12 qi13) i_)] [.int 48, (.int (own_at (own_L4 qi6 qi7 qi8 qi9 qi10 qi11 qi12 qi13) i_))] _
     refine zy (pc' := 35) X7 Bd d4_25 (XT.ii_lt_t (hc9 : (own_at (own_L4 qi6 qi7 qi8 qi9 qi10 qi11 qi12 qi13) i_) < (48 : Int32))) rfl ?_
     refine zc X7 Bd d4_35 ?_
     exact retN X7 hx (t := .boolean) Bd.returns (by simp) (hb hby d4_36) hr))
   ·
    skip
    have pr10 : Pr p e below T7 m 32 #[rv qa1, iv qi2, iv qi3, iv i_, iv (own_at (own_L4 qi6 qi7 qi8 qi9 qi10 qi11 qi12 qi13) i_)] [.int 57, (.int (own_at (own_L4 qi6 qi7 qi8 qi9 qi10 qi11 qi12 qi13) i_))] s₁ (entryFrame m #[.ref qa1, .int qi2, .int qi3] 5) := fun t k => pr8 t (by
     show Sx p e below T7 m 25 #[rv qa1, iv qi2, iv qi3, iv i_, iv (own_at (own_L4 qi6 qi7 qi8 qi9 qi10 qi11 qi12 qi13) i_)] [.int 48, (.int (own_at (own_L4 qi6 qi7 qi8 qi9 qi10 qi11 qi12 qi13) i_))] _
     refine zn X7 Bd d4_25 (XT.ii_lt_f (hc9 : ¬ ((own_at (own_L4 qi6 qi7 qi8 qi9 qi10 qi11 qi12 qi13) i_) < (48 : Int32)))) ?_
     refine zi X7 Bd d4_28 rfl ?_
     refine zd X7 Bd d4_30 ?_
     exact k)
    by_cases hc11 : (57 : Int32) < (own_at (own_L4 qi6 qi7 qi8 qi9 qi10 qi11 qi12 qi13) i_)
    ·
     skip
     refine own_lvF X7 Bd (.int 0) e7q ⟨(by rw [own_isd, if_pos hc2, hq4_1, own_dig0 hc6 hq4_0 (Or.inr hc11)]), N7, rfl⟩ rfl (fun fs hr => pr10 _ (by
      show Sx p e below T7 m 32 #[rv qa1, iv qi2, iv qi3, iv i_, iv (own_at (own_L4 qi6 qi7 qi8 qi9 qi10 qi11 qi12 qi13) i_)] [.int 57, (.int (own_at (own_L4 qi6 qi7 qi8 qi9 qi10 qi11 qi12 qi13) i_))] _
      refine zn X7 Bd d4_32 (XT.ii_le_f (hc11 : (57 : Int32) < (own_at (own_L4 qi6 qi7 qi8 qi9 qi10 qi11 qi12 qi13) i_))) ?_
      refine zc X7 Bd d4_35 ?_
      exact retN X7 hx (t := .boolean) Bd.returns (by simp) (hb hby d4_36) hr))
    ·
     skip
     have pr12 : Pr p e below T7 m 9 #[rv qa1, iv qi2, iv qi3, iv (i_ + (1 : Int32)), iv (own_at (own_L4 qi6 qi7 qi8 qi9 qi10 qi11 qi12 qi13) i_)] [] s₁ (entryFrame m #[.ref qa1, .int qi2, .int qi3] 5) := fun t k => pr10 t (by
      show Sx p e below T7 m 32 #[rv qa1, iv qi2, iv qi3, iv i_, iv (own_at (own_L4 qi6 qi7 qi8 qi9 qi10 qi11 qi12 qi13) i_)] [.int 57, (.int (own_at (own_L4 qi6 qi7 qi8 qi9 qi10 qi11 qi12 qi13) i_))] _
      refine zy (pc' := 37) X7 Bd d4_32 (XT.ii_le_t (hc11 : ¬ ((57 : Int32) < (own_at (own_L4 qi6 qi7 qi8 qi9 qi10 qi11 qi12 qi13) i_)))) rfl ?_
      refine XS.iinc X7.here hx rfl (hb hby d4_37) rfl (l' := #[rv qa1, iv qi2, iv qi3, iv (i_ + (1 : Int32)), iv (own_at (own_L4 qi6 qi7 qi8 qi9 qi10 qi11 qi12 qi13) i_)]) rfl ?_
      refine zg (pc' := 9) X7 Bd d4_40 rfl ?_
      exact k)
     exact ih4 T7 _ (i_ + (1 : Int32)) (own_decr hq4_0 hc6) ⟨iv (own_at (own_L4 qi6 qi7 qi8 qi9 qi10 qi11 qi12 qi13) i_), X7, e7q, N7, (own_inc0 hq4_0 hc6), (hq4_1.trans (own_digS hc6 hq4_0 hc9 hc11)), (Or.inr ⟨_, rfl, rfl⟩), (fun t k => pr12 t k)⟩
  ·
   skip
   refine own_lvF X4 Bd (.int 1) e4 ⟨(by rw [own_isd, if_pos hc2, hq4_1, own_dig1 hc6]), N4, rfl⟩ rfl (fun fs hr => pr5 _ (by
    show Sx p e below T4 m 11 #[rv qa1, iv qi2, iv qi3, iv i_, sl4_4] [.int qi3, .int i_] _
    refine zy (pc' := 43) X4 Bd d4_11 (XT.ii_ge_t (hc6 : ¬ (i_ < qi3))) rfl ?_
    refine zc X4 Bd d4_43 ?_
    exact retN X4 hx (t := .boolean) Bd.returns (by simp) (hb hby d4_44) hr))
 ·
  skip
  refine own_lvF X0 Bd (.int 0) e0 ⟨(by rw [own_isd, if_neg hc2]), N0, rfl⟩ rfl (fun fs hr => pr1 _ (by
   show Sx p e below s₁ m 2 #[rv qa1, iv qi2, iv qi3, .unset, .unset] [.int qi3, .int qi2] _
   refine zn X0 Bd d4_2 (XT.ii_lt_f (hc2 : ¬ (qi2 < qi3))) ?_
   refine zc X0 Bd d4_5 ?_
   exact retN X0 hx (t := .boolean) Bd.returns (by simp) (hb hby d4_6) hr))
-- com/example/backstop/backstop/WholeNumbers.isDigits(Ljava/lang/String;II)Z
def Q92 (Z : State) (qi2 : Int32) (qi3 : Int32) (qi6 : Int32) (qi7 : Int32) (qi8 : Int32) (qi9 : Int32) (h0 : Heap) (n0 : Nat) (v : Option Value) (h : Heap) (L : List Loc) : Prop := v = some (.int (own_isd ([qi6, qi7, qi8, qi9] : List Int32) qi2 qi3)) ∧ Fr n0 L ∧ h = h0
theorem rm92 (l : Launch) (Z : State) (a0 : Array Value) (hw : HW a0 Z) (G3 : Value) (G1 : Int32) (qa1 : Addr) (qi2 : Int32) (qi3 : Int32) (qa4 : Addr) (qk5 : ClassId) (qi6 : Int32) (qi7 : Int32) (qi8 : Int32) (qi9 : Int32) (h0 : Heap) (n0 : Nat) (X00 : Old Z n0 h0) (O4 : Sta Z Z.heap "jdk/internal/util/Preconditions" "SIOOBE_FORMATTER" "Ljava/util/function/BiFunction;" G3) (rG3 : G3.isRef = true) (O2 : Sta Z Z.heap "java/lang/String" "COMPACT_STRINGS" "Z" (.int G1)) (P5 : ¬ (G1 = (0 : Int32))) (F_qa1_value : Fld Z h0 qa1 "java/lang/String" "value" "[B" (.ref qa4)) (F_qa1_coder : Fld Z h0 qa1 "java/lang/String" "coder" "B" (.int 0)) (A_qa4 : Arv Z h0 qa4 qk5 .byte (4 : Int32) ((([qi6, qi7, qi8, qi9] : List Int32).map (fun c => c.toInt8.toInt32)).map Value.int) (.int 0)) (hp_qa1 : ∀ c ∈ ([qi6, qi7, qi8, qi9] : List Int32), ¬ c < 0 ∧ ¬ (255 : Int32) < c) (E_qa1 : Exa Z h0 qa1 "java/lang/String") (hs0 : ¬ qi2 < 0) (he0 : ¬ (4 : Int32) < qi3) :
    MF l Z Y4_ prog_50_method_3_code 5 (some .boolean) (Rm 4 0 0 53) #[.ref qa1, .int qi2, .int qi3] h0 (Q92 Z qi2 qi3 qi6 qi7 qi8 qi9 h0 n0) := by
 refine own_sF pn2 rfl (fun m => ef5 m qa1 qi2 qi3) ?_
 intro p e s m below meth c s₁ Bd hZ hh hx hby hml hown hnm X0 e0 pre0
 have N0 := Fr.nil n0
 have pr1 : Pr p e below s₁ m 2 #[rv qa1, iv qi2, iv qi3, .unset, .unset] [.int qi3, .int qi2] s₁ (entryFrame m #[.ref qa1, .int qi2, .int qi3] 5) := fun t k => pre0 t (by
  show Sx p e below s₁ m 0 #[rv qa1, iv qi2, iv qi3, .unset, .unset] [] _
  refine zj X0 Bd d4_0 rfl ?_
  refine zj X0 Bd d4_1 rfl ?_
  exact k)
 by_cases hc2 : qi2 < qi3
 ·
  skip
  have pr3 : Pr p e below s₁ m 9 #[rv qa1, iv qi2, iv qi3, iv qi2, .unset] [] s₁ (entryFrame m #[.ref qa1, .int qi2, .int qi3] 5) := fun t k => pr1 t (by
   show Sx p e below s₁ m 2 #[rv qa1, iv qi2, iv qi3, .unset, .unset] [.int qi3, .int qi2] _
   refine zy (pc' := 7) X0 Bd d4_2 (XT.ii_lt_t (hc2 : qi2 < qi3)) rfl ?_
   refine zj X0 Bd d4_7 rfl ?_
   refine zt X0 Bd d4_8 (l' := #[rv qa1, iv qi2, iv qi3, iv qi2, .unset]) rfl ?_
   exact k)
  refine own_loop1 (fun i_ => (qi3.toInt - i_.toInt).toNat) (fun T4 L4 i_ => ∃ sl4_4 : Slot, Stand p l e (Rm 4 0 0 53) s m #[.ref qa1, .int qi2, .int qi3] below meth c T4 L4 0 0 ∧ T4.heap = h0 ∧ Fr n0 L4 ∧ (¬ i_ < 0) ∧ ((own_digI ([qi6, qi7, qi8, qi9] : List Int32) qi2 qi3) = own_digI ([qi6, qi7, qi8, qi9] : List Int32) i_ qi3) ∧ (sl4_4 = .unset ∨ ∃ w, sl4_4 = .val w ∧ w.category = 1) ∧ Pr p e below T4 m 9 #[rv qa1, iv qi2, iv qi3, iv i_, sl4_4] [] s₁ (entryFrame m #[.ref qa1, .int qi2, .int qi3] 5)) ?_ s₁ _ qi2 ⟨.unset, X0, e0, N0, hs0, rfl, (Or.inl rfl), (fun t k => pr3 t k)⟩
  intro T4 L4 i_ hI4 ih4
  obtain ⟨sl4_4, X4, e4, N4, hq4_0, hq4_1, one4_4, pr4⟩ := hI4
  have pr5 : Pr p e below T4 m 11 #[rv qa1, iv qi2, iv qi3, iv i_, sl4_4] [.int qi3, .int i_] s₁ (entryFrame m #[.ref qa1, .int qi2, .int qi3] 5) := fun t k => pr4 t (by
   show Sx p e below T4 m 9 #[rv qa1, iv qi2, iv qi3, iv i_, sl4_4] [] _
   refine zj X4 Bd d4_9 rfl ?_
   refine zj X4 Bd d4_10 rfl ?_
   exact k)
  by_cases hc6 : i_ < qi3
  ·
   skip
   have hcd8 : StrChars.Road.CodA ([qi6, qi7, qi8, qi9] : List Int32) 0 (4 : Int32) ((([qi6, qi7, qi8, qi9] : List Int32).map (fun c => c.toInt8.toInt32)).map Value.int) := StrChars.Road.codOf (n := 4) rfl (fun x hx => (hp_qa1 x hx).2)
   have hbd8 : ∀ x ∈ ([qi6, qi7, qi8, qi9] : List Int32), ¬ x < 0 ∧ ¬ (65535 : Int32) < x := own_up _ hp_qa1
   obtain ⟨cq7, kq7, q7a, q7b, q7c⟩ := isOf hZ e4 E_qa1
   obtain ⟨_, T7, L7, X7, hQ7, st7⟩ := own_cb0 0 0 0 0 0 0 (X4.virtualBack hx (y := Y5_) (z := Y5_) hown (mvT hZ (w65_ hw)) (mvT hZ (w66_ hw)) (notFace_of_selects (args := #[]) (mvT hZ (w68_ hw))) (mvT hZ (w68_ hw)) (mvT hZ (w67_ hw)) (by decide) (StrChars.Road.chN (W := 0) hZ (own_wc hw) (kI := 4) (w2_ hw) E_qa1 F_qa1_value F_qa1_coder A_qa4 hcd8 hbd8 (O2.ext X00.2) P5 (O4.ext X00.2) rG3 (lE rfl) (i := (i_).toNatClampNeg) (own_ilt (k := 4) (by decide) hq4_0 hc6 he0) (j := i_) (own_ofn hq4_0) (lE rfl) (lE rfl)) q7a q7c (g := (mkF m 16 #[rv qa1, iv qi2, iv qi3, iv i_, sl4_4] [.int i_, .ref qa1])) rfl hml.symm (Steps.refl _) (argsL := [.int i_]) (rest := []) (lenOf pd4 rfl) rfl (own_hw rfl) (hb hby d4_16) (fun _ _ => ⟨rfl, e4, (lE rfl : 0 + 0 ≤ _), (lE rfl : 0 + 0 ≤ _)⟩)) rfl rfl
   dsimp only [Pt.U, Pt.locs, Pt.cells, Pt.slots] at hQ7
   obtain ⟨rfl, rfl, e7q⟩ := hQ7
   have N7 := Fr.app N4 (Fr.nil n0)
   have pr9 : Pr p e below T7 m 25 #[rv qa1, iv qi2, iv qi3, iv i_, iv (own_at ([qi6, qi7, qi8, qi9] : List Int32) i_)] [.int 48, (.int (own_at ([qi6, qi7, qi8, qi9] : List Int32) i_))] s₁ (entryFrame m #[.ref qa1, .int qi2, .int qi3] 5) := fun t k => pr5 t (by
    show Sx p e below T4 m 11 #[rv qa1, iv qi2, iv qi3, iv i_, sl4_4] [.int qi3, .int i_] _
    refine zn X4 Bd d4_11 (XT.ii_ge_f (hc6 : i_ < qi3)) ?_
    refine zb X4 Bd d4_14 rfl rfl ?_
    refine zj X4 Bd d4_15 rfl ?_
    refine st7.trans ?_
    refine XS.istoreS X7.here hx rfl (hb hby d4_19) rfl rfl one4_4 ?_
    refine zi X7 Bd d4_21 rfl ?_
    refine zd X7 Bd d4_23 ?_
    exact k)
   by_cases hc10 : (own_at ([qi6, qi7, qi8, qi9] : List Int32) i_) < (48 : Int32)
   ·
    skip
    refine own_lvF X7 Bd (.int 0) e7q ⟨(by rw [own_isd, if_pos hc2, hq4_1, own_dig0 hc6 hq4_0 (Or.inl hc10)]), N7, rfl⟩ rfl (fun fs hr => pr9 _ (by
     show Sx p e below T7 m 25 #[rv qa1, iv qi2, iv qi3, iv i_, iv (own_at ([qi6, qi7, qi8, qi9] : List Int32) i_)] [.int 48, (.int (own_at ([qi6, qi7, qi8, qi9] : List Int32) i_))] _
     refine zy (pc' := 35) X7 Bd d4_25 (XT.ii_lt_t (hc10 : (own_at ([qi6, qi7, qi8, qi9] : List Int32) i_) < (48 : Int32))) rfl ?_
     refine zc X7 Bd d4_35 ?_
     exact retN X7 hx (t := .boolean) Bd.returns (by simp) (hb hby d4_36) hr))
   ·
    skip
    have pr11 : Pr p e below T7 m 32 #[rv qa1, iv qi2, iv qi3, iv i_, iv (own_at ([qi6, qi7, qi8, qi9] : List Int32) i_)] [.int 57, (.int (own_at ([qi6, qi7, qi8, qi9] : List Int32) i_))] s₁ (entryFrame m #[.ref qa1, .int qi2, .int qi3] 5) := fun t k => pr9 t (by
     show Sx p e below T7 m 25 #[rv qa1, iv qi2, iv qi3, iv i_, iv (own_at ([qi6, qi7, qi8, qi9] : List Int32) i_)] [.int 48, (.int (own_at ([qi6, qi7, qi8, qi9] : List Int32) i_))] _
     refine zn X7 Bd d4_25 (XT.ii_lt_f (hc10 : ¬ ((own_at ([qi6, qi7, qi8, qi9] : List Int32) i_) < (48 : Int32)))) ?_
     refine zi X7 Bd d4_28 rfl ?_
     refine zd X7 Bd d4_30 ?_
     exact k)
    by_cases hc12 : (57 : Int32) < (own_at ([qi6, qi7, qi8, qi9] : List Int32) i_)
    ·
     skip
     refine own_lvF X7 Bd (.int 0) e7q ⟨(by rw [own_isd, if_pos hc2, hq4_1, own_dig0 hc6 hq4_0 (Or.inr hc12)]), N7, rfl⟩ rfl (fun fs hr => pr11 _ (by
      show Sx p e below T7 m 32 #[rv qa1, iv qi2, iv qi3, iv i_, iv (own_at ([qi6, qi7, qi8, qi9] : List Int32) i_)] [.int 57, (.int (own_at ([qi6, qi7, qi8, qi9] : List Int32) i_))] _
      refine zn X7 Bd d4_32 (XT.ii_le_f (hc12 : (57 : Int32) < (own_at ([qi6, qi7, qi8, qi9] : List Int32) i_))) ?_
      refine zc X7 Bd d4_35 ?_
      exact retN X7 hx (t := .boolean) Bd.returns (by simp) (hb hby d4_36) hr))
    ·
     skip
     have pr13 : Pr p e below T7 m 9 #[rv qa1, iv qi2, iv qi3, iv (i_ + (1 : Int32)), iv (own_at ([qi6, qi7, qi8, qi9] : List Int32) i_)] [] s₁ (entryFrame m #[.ref qa1, .int qi2, .int qi3] 5) := fun t k => pr11 t (by
      show Sx p e below T7 m 32 #[rv qa1, iv qi2, iv qi3, iv i_, iv (own_at ([qi6, qi7, qi8, qi9] : List Int32) i_)] [.int 57, (.int (own_at ([qi6, qi7, qi8, qi9] : List Int32) i_))] _
      refine zy (pc' := 37) X7 Bd d4_32 (XT.ii_le_t (hc12 : ¬ ((57 : Int32) < (own_at ([qi6, qi7, qi8, qi9] : List Int32) i_)))) rfl ?_
      refine XS.iinc X7.here hx rfl (hb hby d4_37) rfl (l' := #[rv qa1, iv qi2, iv qi3, iv (i_ + (1 : Int32)), iv (own_at ([qi6, qi7, qi8, qi9] : List Int32) i_)]) rfl ?_
      refine zg (pc' := 9) X7 Bd d4_40 rfl ?_
      exact k)
     exact ih4 T7 _ (i_ + (1 : Int32)) (own_decr hq4_0 hc6) ⟨iv (own_at ([qi6, qi7, qi8, qi9] : List Int32) i_), X7, e7q, N7, (own_inc0 hq4_0 hc6), (hq4_1.trans (own_digS hc6 hq4_0 hc10 hc12)), (Or.inr ⟨_, rfl, rfl⟩), (fun t k => pr13 t k)⟩
  ·
   skip
   refine own_lvF X4 Bd (.int 1) e4 ⟨(by rw [own_isd, if_pos hc2, hq4_1, own_dig1 hc6]), N4, rfl⟩ rfl (fun fs hr => pr5 _ (by
    show Sx p e below T4 m 11 #[rv qa1, iv qi2, iv qi3, iv i_, sl4_4] [.int qi3, .int i_] _
    refine zy (pc' := 43) X4 Bd d4_11 (XT.ii_ge_t (hc6 : ¬ (i_ < qi3))) rfl ?_
    refine zc X4 Bd d4_43 ?_
    exact retN X4 hx (t := .boolean) Bd.returns (by simp) (hb hby d4_44) hr))
 ·
  skip
  refine own_lvF X0 Bd (.int 0) e0 ⟨(by rw [own_isd, if_neg hc2]), N0, rfl⟩ rfl (fun fs hr => pr1 _ (by
   show Sx p e below s₁ m 2 #[rv qa1, iv qi2, iv qi3, .unset, .unset] [.int qi3, .int qi2] _
   refine zn X0 Bd d4_2 (XT.ii_lt_f (hc2 : ¬ (qi2 < qi3))) ?_
   refine zc X0 Bd d4_5 ?_
   exact retN X0 hx (t := .boolean) Bd.returns (by simp) (hb hby d4_6) hr))
def Q0 (n0 : Nat) (v : Option Value) (h : Heap) (L : List Loc) : Prop := v = some (.int 1) ∧ Fr n0 L
theorem rm0 (l : Launch) (Z : State) (a0 : Array Value) (hw : ∀ d ∈ tables_1, d.before a0 Z = true) (ws : List Jvm.Cond) (G3 : Value) (G1 : Int32) (p1 : Int32) (p2 : Int32) (p3 : Int32) (p4 : Int32) (p5 : Int32) (h0 : Heap) (n0 : Nat) (X00 : Old Z n0 h0) (O4 : Sta Z Z.heap "jdk/internal/util/Preconditions" "SIOOBE_FORMATTER" "Ljava/util/function/BiFunction;" G3) (rG3 : G3.isRef = true) (O2 : Sta Z Z.heap "java/lang/String" "COMPACT_STRINGS" "Z" (.int G1)) (P5 : ¬ (G1 = (0 : Int32))) (uS12 : Sta Z Z.heap "java/lang/StringUTF16" "$assertionsDisabled" "Z" (.int 1)) (uS15 : Sta Z Z.heap "java/lang/StringUTF16" "HI_BYTE_SHIFT" "I" (.int 0)) (uS18 : Sta Z Z.heap "java/lang/StringUTF16" "LO_BYTE_SHIFT" "I" (.int 8)) :
    MetFree l x (head1 (Jvm.Cond.code x code maxLocals ret :: ws) room_1) (fun a U => a = #[.int p1, .int p2, .int p3, .int p4, .int p5] ∧ Z.Warmed39 U.vm ∧ U.heap = h0 ∧ CHv Z consts_1 U.vm h0) (fun _ _ _ _ _ => True) (fun _ U o U' => ∃ v L, o = .returned v ∧ Q0 n0 v U'.heap L ∧ CHr Z consts_1 U.vm U.heap U'.vm U'.heap ∧ ReturnedEndW U o U' L room_1.cells room_1.slots) := by
 refine MetFree.of_bodySF (plainFor_of_name pn0) hisR ?_
 intro p e s m args below meth c s₁ Bd hml0 hP hK
 obtain ⟨rfl, hZ, hh, hC0⟩ := hP
 have hx := Bd.exec
 have hby := Bd.bytes
 have hml : c.maxLocals = 14 := hml0
 have hown : s.vm.findClass "com/example/backstop/backstop/WholeNumbersIsDigitsPinLaw" = some m.cls := findClass_of_methodNamed Bd.named
 have hnm := (name_of_methodNamed Bd.named Bd.method).1
 have X0 : Stand p l e room_1 (s.setVm s.vm) m #[.int p1, .int p2, .int p3, .int p4, .int p5] below meth c s₁ [] 0 0 := Stand.of_body Bd
 have e0 : s₁.heap = h0 := by rw [← hh, Bd.state]; rfl
 have N0 := Fr.nil n0
 have pre0 : ∀ t, Steps p.tables e below (s₁.setTop (mkF m 0 #[iv p1, iv p2, iv p3, iv p4, iv p5, .unset, .unset, .unset, .unset, .unset, .unset, .unset, .unset, .unset] [])) t → Steps p.tables e below (s₁.setTop (entryFrame m #[.int p1, .int p2, .int p3, .int p4, .int p5] maxLocals)) t := fun t k => castTop (ef0 m p1 p2 p3 p4 p5) k
 obtain ⟨en, hen⟩ : ∃ f, f = (entryFrame m #[.int p1, .int p2, .int p3, .int p4, .int p5] maxLocals) := ⟨_, rfl⟩
 rw [← hen] at pre0 ⊢
 have hS0 : s.Since s.vm h0.size := (State.WarmedH.refl s).since _
 have hk0 : h0.size ≤ h0.size := Nat.le_refl _
 have hR0 : CHr Z consts_1 s.vm h0 s.vm h0 := CHr.refl hC0
 have hEL := own_EW hw
 have hwS := own_wS hw
 obtain ⟨T1, h1, X1, e1, E1, A1, D1, -, st1⟩ := newO X0 hx hZ hown (w1_ hw) (w2_ hw) (w3_ hw) e0 (g := (mkF m 36 #[iv p1, iv p2, iv p3, iv p4, iv p5, iv (ab3_ p1), iv (ab1_ p1), iv (ab4_ p2), iv (ab2_ p2), iv (ab7_ p3), .unset, .unset, .unset, .unset] [])) rfl (hb hby at_36) (lE rfl) (lE rfl)
 obtain ⟨b1, g1⟩ : ∃ z, z = h0.size := ⟨_, rfl⟩
 rw [← g1] at A1 D1 st1
 replace X1 : Stand p l e room_1 (s.setVm s.vm) m #[.int p1, .int p2, .int p3, .int p4, .int p5] below meth c T1 _ 1 4 := X1
 have K2 := (Keep.refl h0 []).ext E1
 have C3 : CHv Z consts_1 s.vm h1 := CHv.ext E1 hC0
 have R4 : CHr Z consts_1 s.vm h0 s.vm h1 := hR0.trans (CHr.ext E1 hC0)
 have F5_ : Fld Z h1 b1 "java/lang/String" "coder" "B" (.int 0) := D1 (Or.inr (w32_ hw)) (ty := .byte) (by decide)
 have F6_ : Fld Z h1 b1 "java/lang/String" "value" "[B" .null := D1 (Or.inr (w34_ hw)) (ty := (.array .byte)) (by decide)
 have pr8 : Pr p e below T1 m 50 #[iv p1, iv p2, iv p3, iv p4, iv p5, iv (ab3_ p1), iv (ab1_ p1), iv (ab4_ p2), iv (ab2_ p2), iv (ab7_ p3), .unset, .unset, .unset, .unset] [(.int (ab2_ p2)), (.int (ab4_ p2)), (.int (ab1_ p1)), (.int (ab3_ p1)), (.int (ab7_ p3)), .ref b1, .ref b1] s₁ en := fun t k => pre0 t (by
  show Sx p e below s₁ m 0 #[iv p1, iv p2, iv p3, iv p4, iv p5, .unset, .unset, .unset, .unset, .unset, .unset, .unset, .unset, .unset] [] _
  refine zj X0 Bd at_0 rfl ?_
  refine X0.ldcInt hx hown (mvT hZ (w0_ hw)) (g := (mkF m 1 #[iv p1, iv p2, iv p3, iv p4, iv p5, .unset, .unset, .unset, .unset, .unset, .unset, .unset, .unset, .unset] [.int p1])) rfl (hb hby at_1) _ ?_
  refine XS.iand X0.here hx rfl (hb hby at_3) rfl ?_
  refine XS.i2c X0.here hx rfl (hb hby at_4) rfl ?_
  refine zs X0 Bd at_5 (l' := #[iv p1, iv p2, iv p3, iv p4, iv p5, iv (ab3_ p1), .unset, .unset, .unset, .unset, .unset, .unset, .unset, .unset]) rfl ?_
  refine zj X0 Bd at_7 rfl ?_
  refine zd X0 Bd at_8 ?_
  refine XS.iushr X0.here hx rfl (hb hby at_10) rfl ?_
  refine XS.i2c X0.here hx rfl (hb hby at_11) rfl ?_
  refine zs X0 Bd at_12 (l' := #[iv p1, iv p2, iv p3, iv p4, iv p5, iv (ab3_ p1), iv (ab1_ p1), .unset, .unset, .unset, .unset, .unset, .unset, .unset]) rfl ?_
  refine zj X0 Bd at_14 rfl ?_
  refine X0.ldcInt hx hown (mvT hZ (w0_ hw)) (g := (mkF m 15 #[iv p1, iv p2, iv p3, iv p4, iv p5, iv (ab3_ p1), iv (ab1_ p1), .unset, .unset, .unset, .unset, .unset, .unset, .unset] [.int p2])) rfl (hb hby at_15) _ ?_
  refine XS.iand X0.here hx rfl (hb hby at_17) rfl ?_
  refine XS.i2c X0.here hx rfl (hb hby at_18) rfl ?_
  refine zs X0 Bd at_19 (l' := #[iv p1, iv p2, iv p3, iv p4, iv p5, iv (ab3_ p1), iv (ab1_ p1), iv (ab4_ p2), .unset, .unset, .unset, .unset, .unset, .unset]) rfl ?_
  refine zj X0 Bd at_21 rfl ?_
  refine zd X0 Bd at_22 ?_
  refine XS.iushr X0.here hx rfl (hb hby at_24) rfl ?_
  refine XS.i2c X0.here hx rfl (hb hby at_25) rfl ?_
  refine zs X0 Bd at_26 (l' := #[iv p1, iv p2, iv p3, iv p4, iv p5, iv (ab3_ p1), iv (ab1_ p1), iv (ab4_ p2), iv (ab2_ p2), .unset, .unset, .unset, .unset, .unset]) rfl ?_
  refine zj X0 Bd at_28 rfl ?_
  refine zd X0 Bd at_29 ?_
  refine XS.iand X0.here hx rfl (hb hby at_31) rfl ?_
  refine zc X0 Bd at_32 ?_
  refine iremM X0 hx (g := (mkF m 33 #[iv p1, iv p2, iv p3, iv p4, iv p5, iv (ab3_ p1), iv (ab1_ p1), iv (ab4_ p2), iv (ab2_ p2), .unset, .unset, .unset, .unset, .unset] [.int 5, (.int (p3 &&& (7 : Int32)))])) rfl (hb hby at_33) rfl (by decide) ?_
  show Sx p e below s₁ m 34 #[iv p1, iv p2, iv p3, iv p4, iv p5, iv (ab3_ p1), iv (ab1_ p1), iv (ab4_ p2), iv (ab2_ p2), .unset, .unset, .unset, .unset, .unset] [(.int (ab7_ p3))] _
  refine zs X0 Bd at_34 (l' := #[iv p1, iv p2, iv p3, iv p4, iv p5, iv (ab3_ p1), iv (ab1_ p1), iv (ab4_ p2), iv (ab2_ p2), iv (ab7_ p3), .unset, .unset, .unset, .unset]) rfl ?_
  refine st1 _ ?_
  refine XS.dup X1.here hx rfl (hb hby at_39) rfl rfl ?_
  refine zi X1 Bd at_40 rfl ?_
  refine zi X1 Bd at_42 rfl ?_
  refine zi X1 Bd at_44 rfl ?_
  refine zi X1 Bd at_46 rfl ?_
  refine zi X1 Bd at_48 rfl ?_
  exact k)
 by_cases hc9 : (ab7_ p3) = (0 : Int32)
 ·
  skip
  have O11 := X00.ext E1
  obtain ⟨_, T10, L10, X10, hQ10, st10⟩ := own_cS 2 4 [.ref b1, .ref b1] 50 #[iv p1, iv p2, iv p3, iv p4, iv p5, iv (ab3_ p1), iv (ab1_ p1), iv (ab4_ p2), iv (ab2_ p2), iv (ab7_ p3), .unset, .unset, .unset, .unset] X1 hx hZ hown (w4_ hw) (w5_ hw) (w6_ hw) (w7_ hw) (rm1 l Z a0 hw  (ab7_ p3) (ab3_ p1) (ab1_ p1) (ab4_ p2) (ab2_ p2) h1 n0 O11 hc9) pd0 hml.symm (hb hby at_50) e1 rfl rfl rfl rfl (by decide)
  obtain ⟨b12, c13_, rfl, N10q, K10q, w14, w15⟩ := hQ10
  have N10 := Fr.app N0 N10q
  have K16 := K2.trans K10q (fun x q => nomatch q)
  have C17 : CHv Z consts_1 s.vm T10.heap := CHv.keep K10q sf0 C3
  have R18 : CHr Z consts_1 s.vm h0 s.vm T10.heap := R4.trans (CHr.keep K10q sf0 C3)
  have E20_ := A1.keep K10q
  have F21_ := F6_.keep K10q nin0
  have g_b1 : n0 ≤ b1 := Nat.le_trans (Nat.le_trans (Nat.le_of_eq X00.1.symm) X00.2.1) (Nat.le_of_eq g1.symm)
  have F22_ := F5_.keep K10q nin0
  have O23 := O11.keep K10q all0
  have hk24' : _ ≤ T10.heap.size := (Nat.le_trans (Nat.le_trans hk0 E1.1) K10q.1)
  obtain ⟨_, T19, L19, X19, hQ19, hS19, hZ19, ho19, CR19, st19⟩ := own_cbS 2 4 4 8 6 12 (X10.specialBackS hx (y := Y2_) rfl hown (mvT hZ (w9_ hw)) (mvT hZ (w10_ hw)) (mvT hZ (w11_ hw)) (by decide) (backOfSH (W := 1) (EL := consts_1) (s := s) (rm3 l Z a0 hw  b1 b12 c13_ T10.heap n0 O23 w15 E20_ F21_ g_b1 F22_) hZ (w11_ hw) (w3_ hw) (lE rfl) (lE rfl) hEL C17) (g := (mkF m 53 #[iv p1, iv p2, iv p3, iv p4, iv p5, iv (ab3_ p1), iv (ab1_ p1), iv (ab4_ p2), iv (ab2_ p2), iv (ab7_ p3), .unset, .unset, .unset, .unset] [.ref b12, .ref b1, .ref b1])) rfl hml.symm (Steps.refl _) (a := b1) (argsL := [.ref b12]) (rest := [.ref b1]) (lenOf pd2 rfl) rfl (own_hw rfl) (hb hby at_53) (fun _ _ => ⟨rfl, rfl, (lE rfl : 2 + 4 ≤ _), (lE rfl : 4 + 8 ≤ _)⟩)) rfl rfl hS0 hk24' hZ hown
  obtain ⟨b25, c26_, rfl, N19q, K19q, w27, w28, w29, w30⟩ := hQ19
  have N19 := Fr.app N10 N19q
  have hk19 : T19.heap.size ≤ T19.heap.size := Nat.le_refl _
  have sz_b1 : h0.size ≤ b1 := (Nat.le_of_eq g1.symm)
  have K31 := K16.trans K19q (allS (Or.inr sz_b1) all0)
  have R33 := R18.trans CR19
  have pr34 : Pr p e below T19 m 61 #[iv p1, iv p2, iv p3, iv p4, iv p5, iv (ab3_ p1), iv (ab1_ p1), iv (ab4_ p2), iv (ab2_ p2), iv (ab7_ p3), rv b1, .unset, .unset, .unset] [.int p5, .int p4] s₁ en := fun t k => pr8 t (by
   show Sx p e below T1 m 50 #[iv p1, iv p2, iv p3, iv p4, iv p5, iv (ab3_ p1), iv (ab1_ p1), iv (ab4_ p2), iv (ab2_ p2), iv (ab7_ p3), .unset, .unset, .unset, .unset] [(.int (ab2_ p2)), (.int (ab4_ p2)), (.int (ab1_ p1)), (.int (ab3_ p1)), (.int (ab7_ p3)), .ref b1, .ref b1] _
   refine st10 _ ?_
   refine st19.trans ?_
   refine XS.astore X19.here hx rfl (hb hby at_56) rfl rfl (l' := #[iv p1, iv p2, iv p3, iv p4, iv p5, iv (ab3_ p1), iv (ab1_ p1), iv (ab4_ p2), iv (ab2_ p2), iv (ab7_ p3), rv b1, .unset, .unset, .unset]) rfl ?_
   refine zj X19 Bd at_58 rfl ?_
   refine zi X19 Bd at_59 rfl ?_
   exact k)
  by_cases hc35 : p4 < p5
  ·
   skip
   have pr36 : Pr p e below T19 m 104 #[iv p1, iv p2, iv p3, iv p4, iv p5, iv (ab3_ p1), iv (ab1_ p1), iv (ab4_ p2), iv (ab2_ p2), iv (ab7_ p3), rv b1, iv (ab5_ p3 p4), iv (ab6_ p3 p5), .unset] [] s₁ en := fun t k => pr34 t (by
    show Sx p e below T19 m 61 #[iv p1, iv p2, iv p3, iv p4, iv p5, iv (ab3_ p1), iv (ab1_ p1), iv (ab4_ p2), iv (ab2_ p2), iv (ab7_ p3), rv b1, .unset, .unset, .unset] [.int p5, .int p4] _
    refine zy (pc' := 81) X19 Bd at_61 (XT.ii_lt_t (hc35 : p4 < p5)) rfl ?_
    refine zj X19 Bd at_81 rfl ?_
    refine X19.ldcInt hx ho19 (mvT hZ19 (w61_ hw)) (g := (mkF m 82 #[iv p1, iv p2, iv p3, iv p4, iv p5, iv (ab3_ p1), iv (ab1_ p1), iv (ab4_ p2), iv (ab2_ p2), iv (ab7_ p3), rv b1, .unset, .unset, .unset] [.int p4])) rfl (hb hby at_82) _ ?_
    refine XS.iand X19.here hx rfl (hb hby at_84) rfl ?_
    refine zi X19 Bd at_85 rfl ?_
    refine zc X19 Bd at_87 ?_
    refine XS.iadd X19.here hx rfl (hb hby at_88) rfl ?_
    refine iremM X19 hx (g := (mkF m 89 #[iv p1, iv p2, iv p3, iv p4, iv p5, iv (ab3_ p1), iv (ab1_ p1), iv (ab4_ p2), iv (ab2_ p2), iv (ab7_ p3), rv b1, .unset, .unset, .unset] [(.int (ab0_ p3)), (.int (p4 &&& (2147483647 : Int32)))])) rfl (hb hby at_89) rfl (own_sub (p := fun z_ => ¬ ((z_ + (1 : Int32)) = (0 : Int32))) hc9 (by decide)) ?_
    refine zs X19 Bd at_90 (l' := #[iv p1, iv p2, iv p3, iv p4, iv p5, iv (ab3_ p1), iv (ab1_ p1), iv (ab4_ p2), iv (ab2_ p2), iv (ab7_ p3), rv b1, iv (ab5_ p3 p4), .unset, .unset]) rfl ?_
    refine zi X19 Bd at_92 rfl ?_
    refine X19.ldcInt hx ho19 (mvT hZ19 (w61_ hw)) (g := (mkF m 94 #[iv p1, iv p2, iv p3, iv p4, iv p5, iv (ab3_ p1), iv (ab1_ p1), iv (ab4_ p2), iv (ab2_ p2), iv (ab7_ p3), rv b1, iv (ab5_ p3 p4), .unset, .unset] [.int p5])) rfl (hb hby at_94) _ ?_
    refine XS.iand X19.here hx rfl (hb hby at_96) rfl ?_
    refine zi X19 Bd at_97 rfl ?_
    refine zc X19 Bd at_99 ?_
    refine XS.iadd X19.here hx rfl (hb hby at_100) rfl ?_
    refine iremM X19 hx (g := (mkF m 101 #[iv p1, iv p2, iv p3, iv p4, iv p5, iv (ab3_ p1), iv (ab1_ p1), iv (ab4_ p2), iv (ab2_ p2), iv (ab7_ p3), rv b1, iv (ab5_ p3 p4), .unset, .unset] [(.int (ab0_ p3)), (.int (p5 &&& (2147483647 : Int32)))])) rfl (hb hby at_101) rfl (own_sub (p := fun z_ => ¬ ((z_ + (1 : Int32)) = (0 : Int32))) hc9 (by decide)) ?_
    refine zs X19 Bd at_102 (l' := #[iv p1, iv p2, iv p3, iv p4, iv p5, iv (ab3_ p1), iv (ab1_ p1), iv (ab4_ p2), iv (ab2_ p2), iv (ab7_ p3), rv b1, iv (ab5_ p3 p4), iv (ab6_ p3 p5), .unset]) rfl ?_
    exact k)
   refine cps (A := ∃ T37 : State, ∃ L37 : List Loc, ∃ h37 : Heap, ∃ ex_ : Int32, Stand p l e room_1 (s.setVm T19.vm) m #[.int p1, .int p2, .int p3, .int p4, .int p5] below meth c T37 L37 6 12 ∧ T37.heap = h37 ∧ Fr n0 L37 ∧ Keep T19.heap h37 [] ∧ (ex_ = own_ex (ab5_ p3 p4) (ab6_ p3 p5) (ab3_ p1) (ab1_ p1) (ab4_ p2) (ab2_ p2)) ∧ Pr p e below T37 m 170 #[iv p1, iv p2, iv p3, iv p4, iv p5, iv (ab3_ p1), iv (ab1_ p1), iv (ab4_ p2), iv (ab2_ p2), iv (ab7_ p3), rv b1, iv (ab5_ p3 p4), iv (ab6_ p3 p5), iv ex_] [] s₁ en) (fun kont37 => ?_) (fun hA37 => ?_)
   ·
    skip
    have pr38 : Pr p e below T19 m 108 #[iv p1, iv p2, iv p3, iv p4, iv p5, iv (ab3_ p1), iv (ab1_ p1), iv (ab4_ p2), iv (ab2_ p2), iv (ab7_ p3), rv b1, iv (ab5_ p3 p4), iv (ab6_ p3 p5), .unset] [(.int (ab6_ p3 p5)), (.int (ab5_ p3 p4))] s₁ en := fun t k => pr36 t (by
     show Sx p e below T19 m 104 #[iv p1, iv p2, iv p3, iv p4, iv p5, iv (ab3_ p1), iv (ab1_ p1), iv (ab4_ p2), iv (ab2_ p2), iv (ab7_ p3), rv b1, iv (ab5_ p3 p4), iv (ab6_ p3 p5), .unset] [] _
     refine zi X19 Bd at_104 rfl ?_
     refine zi X19 Bd at_106 rfl ?_
     exact k)
    by_cases hc39 : (ab5_ p3 p4) < (ab6_ p3 p5)
    ·
     skip
     have O41 := O23.keep K19q (allS g_b1 all0)
     obtain ⟨_, T40, L40, X40, hQ40, st40⟩ := own_cS 6 12 [] 118 #[iv p1, iv p2, iv p3, iv p4, iv p5, iv (ab3_ p1), iv (ab1_ p1), iv (ab4_ p2), iv (ab2_ p2), iv (ab7_ p3), rv b1, iv (ab5_ p3 p4), iv (ab6_ p3 p5), .unset] X19 hx hZ19 ho19 (w62_ hw) (w63_ hw) (w6_ hw) (w64_ hw) (rm4 l Z a0 hw  (ab5_ p3 p4) (ab6_ p3 p5) (ab3_ p1) T19.heap n0 O41 ) pd3 hml.symm (hb hby at_118) rfl rfl rfl rfl rfl (by decide)
     obtain ⟨rfl, N40q, e40q⟩ := hQ40
     have N40 := Fr.app N19 N40q
     have pr42 : Pr p e below T40 m 121 #[iv p1, iv p2, iv p3, iv p4, iv p5, iv (ab3_ p1), iv (ab1_ p1), iv (ab4_ p2), iv (ab2_ p2), iv (ab7_ p3), rv b1, iv (ab5_ p3 p4), iv (ab6_ p3 p5), .unset] [(.int (own_fine (0 : Int32) (ab5_ p3 p4) (ab6_ p3 p5) (ab3_ p1)))] s₁ en := fun t k => pr38 t (by
      show Sx p e below T19 m 108 #[iv p1, iv p2, iv p3, iv p4, iv p5, iv (ab3_ p1), iv (ab1_ p1), iv (ab4_ p2), iv (ab2_ p2), iv (ab7_ p3), rv b1, iv (ab5_ p3 p4), iv (ab6_ p3 p5), .unset] [(.int (ab6_ p3 p5)), (.int (ab5_ p3 p4))] _
      refine zn X19 Bd at_108 (XT.ii_ge_f (hc39 : (ab5_ p3 p4) < (ab6_ p3 p5))) ?_
      refine zc X19 Bd at_111 ?_
      refine zi X19 Bd at_112 rfl ?_
      refine zi X19 Bd at_114 rfl ?_
      refine zi X19 Bd at_116 rfl ?_
      refine st40 _ ?_
      exact k)
     by_cases hc43 : (own_fine (0 : Int32) (ab5_ p3 p4) (ab6_ p3 p5) (ab3_ p1)) = (0 : Int32)
     ·
      skip
      have pr44 : Pr p e below T40 m 170 #[iv p1, iv p2, iv p3, iv p4, iv p5, iv (ab3_ p1), iv (ab1_ p1), iv (ab4_ p2), iv (ab2_ p2), iv (ab7_ p3), rv b1, iv (ab5_ p3 p4), iv (ab6_ p3 p5), iv 0] [] s₁ en := fun t k => pr42 t (by
       show Sx p e below T40 m 121 #[iv p1, iv p2, iv p3, iv p4, iv p5, iv (ab3_ p1), iv (ab1_ p1), iv (ab4_ p2), iv (ab2_ p2), iv (ab7_ p3), rv b1, iv (ab5_ p3 p4), iv (ab6_ p3 p5), .unset] [(.int (own_fine (0 : Int32) (ab5_ p3 p4) (ab6_ p3 p5) (ab3_ p1)))] _
       refine zp (pc' := 167) X40 Bd at_121 (XT.i0_eq_t (hc43 : (own_fine (0 : Int32) (ab5_ p3 p4) (ab6_ p3 p5) (ab3_ p1)) = (0 : Int32))) rfl ?_
       refine zc X40 Bd at_167 ?_
       refine zs X40 Bd at_168 (l' := #[iv p1, iv p2, iv p3, iv p4, iv p5, iv (ab3_ p1), iv (ab1_ p1), iv (ab4_ p2), iv (ab2_ p2), iv (ab7_ p3), rv b1, iv (ab5_ p3 p4), iv (ab6_ p3 p5), iv 0]) rfl ?_
       exact k)
      exact kont37 ⟨T40, _, T19.heap, (0 : Int32), (X40.mono (lE rfl) (lE rfl)), e40q, N40, (Keep.refl T19.heap []), (by rw [own_ex, if_pos hc39, if_pos hc43]), (fun t k => pr44 t k)⟩
     ·
      skip
      obtain ⟨_, T45, L45, X45, hQ45, st45⟩ := own_cS 6 12 [] 131 #[iv p1, iv p2, iv p3, iv p4, iv p5, iv (ab3_ p1), iv (ab1_ p1), iv (ab4_ p2), iv (ab2_ p2), iv (ab7_ p3), rv b1, iv (ab5_ p3 p4), iv (ab6_ p3 p5), .unset] X40 hx hZ19 ho19 (w62_ hw) (w63_ hw) (w6_ hw) (w64_ hw) (rm5 l Z a0 hw  (ab5_ p3 p4) (ab6_ p3 p5) (ab1_ p1) T19.heap n0 O41 ) pd3 hml.symm (hb hby at_131) e40q rfl rfl rfl rfl (by decide)
      obtain ⟨rfl, N45q, e45q⟩ := hQ45
      have N45 := Fr.app N40 N45q
      have pr46 : Pr p e below T45 m 134 #[iv p1, iv p2, iv p3, iv p4, iv p5, iv (ab3_ p1), iv (ab1_ p1), iv (ab4_ p2), iv (ab2_ p2), iv (ab7_ p3), rv b1, iv (ab5_ p3 p4), iv (ab6_ p3 p5), .unset] [(.int (own_fine (1 : Int32) (ab5_ p3 p4) (ab6_ p3 p5) (ab1_ p1)))] s₁ en := fun t k => pr42 t (by
       show Sx p e below T40 m 121 #[iv p1, iv p2, iv p3, iv p4, iv p5, iv (ab3_ p1), iv (ab1_ p1), iv (ab4_ p2), iv (ab2_ p2), iv (ab7_ p3), rv b1, iv (ab5_ p3 p4), iv (ab6_ p3 p5), .unset] [(.int (own_fine (0 : Int32) (ab5_ p3 p4) (ab6_ p3 p5) (ab3_ p1)))] _
       refine zo X40 Bd at_121 (XT.i0_eq_f (hc43 : ¬ ((own_fine (0 : Int32) (ab5_ p3 p4) (ab6_ p3 p5) (ab3_ p1)) = (0 : Int32)))) ?_
       refine zc X40 Bd at_124 ?_
       refine zi X40 Bd at_125 rfl ?_
       refine zi X40 Bd at_127 rfl ?_
       refine zi X40 Bd at_129 rfl ?_
       refine st45 _ ?_
       exact k)
      by_cases hc47 : (own_fine (1 : Int32) (ab5_ p3 p4) (ab6_ p3 p5) (ab1_ p1)) = (0 : Int32)
      ·
       skip
       have pr48 : Pr p e below T45 m 170 #[iv p1, iv p2, iv p3, iv p4, iv p5, iv (ab3_ p1), iv (ab1_ p1), iv (ab4_ p2), iv (ab2_ p2), iv (ab7_ p3), rv b1, iv (ab5_ p3 p4), iv (ab6_ p3 p5), iv 0] [] s₁ en := fun t k => pr46 t (by
        show Sx p e below T45 m 134 #[iv p1, iv p2, iv p3, iv p4, iv p5, iv (ab3_ p1), iv (ab1_ p1), iv (ab4_ p2), iv (ab2_ p2), iv (ab7_ p3), rv b1, iv (ab5_ p3 p4), iv (ab6_ p3 p5), .unset] [(.int (own_fine (1 : Int32) (ab5_ p3 p4) (ab6_ p3 p5) (ab1_ p1)))] _
        refine zp (pc' := 167) X45 Bd at_134 (XT.i0_eq_t (hc47 : (own_fine (1 : Int32) (ab5_ p3 p4) (ab6_ p3 p5) (ab1_ p1)) = (0 : Int32))) rfl ?_
        refine zc X45 Bd at_167 ?_
        refine zs X45 Bd at_168 (l' := #[iv p1, iv p2, iv p3, iv p4, iv p5, iv (ab3_ p1), iv (ab1_ p1), iv (ab4_ p2), iv (ab2_ p2), iv (ab7_ p3), rv b1, iv (ab5_ p3 p4), iv (ab6_ p3 p5), iv 0]) rfl ?_
        exact k)
       exact kont37 ⟨T45, _, T19.heap, (0 : Int32), (X45.mono (lE rfl) (lE rfl)), e45q, N45, (Keep.refl T19.heap []), (by rw [own_ex, if_pos hc39, if_neg hc43, if_pos hc47]), (fun t k => pr48 t k)⟩
      ·
       skip
       obtain ⟨_, T49, L49, X49, hQ49, st49⟩ := own_cS 6 12 [] 144 #[iv p1, iv p2, iv p3, iv p4, iv p5, iv (ab3_ p1), iv (ab1_ p1), iv (ab4_ p2), iv (ab2_ p2), iv (ab7_ p3), rv b1, iv (ab5_ p3 p4), iv (ab6_ p3 p5), .unset] X45 hx hZ19 ho19 (w62_ hw) (w63_ hw) (w6_ hw) (w64_ hw) (rm6 l Z a0 hw  (ab5_ p3 p4) (ab6_ p3 p5) (ab4_ p2) T19.heap n0 O41 ) pd3 hml.symm (hb hby at_144) e45q rfl rfl rfl rfl (by decide)
       obtain ⟨rfl, N49q, e49q⟩ := hQ49
       have N49 := Fr.app N45 N49q
       have pr50 : Pr p e below T49 m 147 #[iv p1, iv p2, iv p3, iv p4, iv p5, iv (ab3_ p1), iv (ab1_ p1), iv (ab4_ p2), iv (ab2_ p2), iv (ab7_ p3), rv b1, iv (ab5_ p3 p4), iv (ab6_ p3 p5), .unset] [(.int (own_fine (2 : Int32) (ab5_ p3 p4) (ab6_ p3 p5) (ab4_ p2)))] s₁ en := fun t k => pr46 t (by
        show Sx p e below T45 m 134 #[iv p1, iv p2, iv p3, iv p4, iv p5, iv (ab3_ p1), iv (ab1_ p1), iv (ab4_ p2), iv (ab2_ p2), iv (ab7_ p3), rv b1, iv (ab5_ p3 p4), iv (ab6_ p3 p5), .unset] [(.int (own_fine (1 : Int32) (ab5_ p3 p4) (ab6_ p3 p5) (ab1_ p1)))] _
        refine zo X45 Bd at_134 (XT.i0_eq_f (hc47 : ¬ ((own_fine (1 : Int32) (ab5_ p3 p4) (ab6_ p3 p5) (ab1_ p1)) = (0 : Int32)))) ?_
        refine zc X45 Bd at_137 ?_
        refine zi X45 Bd at_138 rfl ?_
        refine zi X45 Bd at_140 rfl ?_
        refine zi X45 Bd at_142 rfl ?_
        refine st49 _ ?_
        exact k)
       by_cases hc51 : (own_fine (2 : Int32) (ab5_ p3 p4) (ab6_ p3 p5) (ab4_ p2)) = (0 : Int32)
       ·
        skip
        have pr52 : Pr p e below T49 m 170 #[iv p1, iv p2, iv p3, iv p4, iv p5, iv (ab3_ p1), iv (ab1_ p1), iv (ab4_ p2), iv (ab2_ p2), iv (ab7_ p3), rv b1, iv (ab5_ p3 p4), iv (ab6_ p3 p5), iv 0] [] s₁ en := fun t k => pr50 t (by
         show Sx p e below T49 m 147 #[iv p1, iv p2, iv p3, iv p4, iv p5, iv (ab3_ p1), iv (ab1_ p1), iv (ab4_ p2), iv (ab2_ p2), iv (ab7_ p3), rv b1, iv (ab5_ p3 p4), iv (ab6_ p3 p5), .unset] [(.int (own_fine (2 : Int32) (ab5_ p3 p4) (ab6_ p3 p5) (ab4_ p2)))] _
         refine zp (pc' := 167) X49 Bd at_147 (XT.i0_eq_t (hc51 : (own_fine (2 : Int32) (ab5_ p3 p4) (ab6_ p3 p5) (ab4_ p2)) = (0 : Int32))) rfl ?_
         refine zc X49 Bd at_167 ?_
         refine zs X49 Bd at_168 (l' := #[iv p1, iv p2, iv p3, iv p4, iv p5, iv (ab3_ p1), iv (ab1_ p1), iv (ab4_ p2), iv (ab2_ p2), iv (ab7_ p3), rv b1, iv (ab5_ p3 p4), iv (ab6_ p3 p5), iv 0]) rfl ?_
         exact k)
        exact kont37 ⟨T49, _, T19.heap, (0 : Int32), (X49.mono (lE rfl) (lE rfl)), e49q, N49, (Keep.refl T19.heap []), (by rw [own_ex, if_pos hc39, if_neg hc43, if_neg hc47, if_pos hc51]), (fun t k => pr52 t k)⟩
       ·
        skip
        obtain ⟨_, T53, L53, X53, hQ53, st53⟩ := own_cS 6 12 [] 157 #[iv p1, iv p2, iv p3, iv p4, iv p5, iv (ab3_ p1), iv (ab1_ p1), iv (ab4_ p2), iv (ab2_ p2), iv (ab7_ p3), rv b1, iv (ab5_ p3 p4), iv (ab6_ p3 p5), .unset] X49 hx hZ19 ho19 (w62_ hw) (w63_ hw) (w6_ hw) (w64_ hw) (rm7 l Z a0 hw  (ab5_ p3 p4) (ab6_ p3 p5) (ab2_ p2) T19.heap n0 O41 ) pd3 hml.symm (hb hby at_157) e49q rfl rfl rfl rfl (by decide)
        obtain ⟨rfl, N53q, e53q⟩ := hQ53
        have N53 := Fr.app N49 N53q
        have pr54 : Pr p e below T53 m 160 #[iv p1, iv p2, iv p3, iv p4, iv p5, iv (ab3_ p1), iv (ab1_ p1), iv (ab4_ p2), iv (ab2_ p2), iv (ab7_ p3), rv b1, iv (ab5_ p3 p4), iv (ab6_ p3 p5), .unset] [(.int (own_fine (3 : Int32) (ab5_ p3 p4) (ab6_ p3 p5) (ab2_ p2)))] s₁ en := fun t k => pr50 t (by
         show Sx p e below T49 m 147 #[iv p1, iv p2, iv p3, iv p4, iv p5, iv (ab3_ p1), iv (ab1_ p1), iv (ab4_ p2), iv (ab2_ p2), iv (ab7_ p3), rv b1, iv (ab5_ p3 p4), iv (ab6_ p3 p5), .unset] [(.int (own_fine (2 : Int32) (ab5_ p3 p4) (ab6_ p3 p5) (ab4_ p2)))] _
         refine zo X49 Bd at_147 (XT.i0_eq_f (hc51 : ¬ ((own_fine (2 : Int32) (ab5_ p3 p4) (ab6_ p3 p5) (ab4_ p2)) = (0 : Int32)))) ?_
         refine zc X49 Bd at_150 ?_
         refine zi X49 Bd at_151 rfl ?_
         refine zi X49 Bd at_153 rfl ?_
         refine zi X49 Bd at_155 rfl ?_
         refine st53 _ ?_
         exact k)
        by_cases hc55 : (own_fine (3 : Int32) (ab5_ p3 p4) (ab6_ p3 p5) (ab2_ p2)) = (0 : Int32)
        ·
         skip
         have pr56 : Pr p e below T53 m 170 #[iv p1, iv p2, iv p3, iv p4, iv p5, iv (ab3_ p1), iv (ab1_ p1), iv (ab4_ p2), iv (ab2_ p2), iv (ab7_ p3), rv b1, iv (ab5_ p3 p4), iv (ab6_ p3 p5), iv 0] [] s₁ en := fun t k => pr54 t (by
          show Sx p e below T53 m 160 #[iv p1, iv p2, iv p3, iv p4, iv p5, iv (ab3_ p1), iv (ab1_ p1), iv (ab4_ p2), iv (ab2_ p2), iv (ab7_ p3), rv b1, iv (ab5_ p3 p4), iv (ab6_ p3 p5), .unset] [(.int (own_fine (3 : Int32) (ab5_ p3 p4) (ab6_ p3 p5) (ab2_ p2)))] _
          refine zp (pc' := 167) X53 Bd at_160 (XT.i0_eq_t (hc55 : (own_fine (3 : Int32) (ab5_ p3 p4) (ab6_ p3 p5) (ab2_ p2)) = (0 : Int32))) rfl ?_
          refine zc X53 Bd at_167 ?_
          refine zs X53 Bd at_168 (l' := #[iv p1, iv p2, iv p3, iv p4, iv p5, iv (ab3_ p1), iv (ab1_ p1), iv (ab4_ p2), iv (ab2_ p2), iv (ab7_ p3), rv b1, iv (ab5_ p3 p4), iv (ab6_ p3 p5), iv 0]) rfl ?_
          exact k)
         exact kont37 ⟨T53, _, T19.heap, (0 : Int32), (X53.mono (lE rfl) (lE rfl)), e53q, N53, (Keep.refl T19.heap []), (by rw [own_ex, if_pos hc39, if_neg hc43, if_neg hc47, if_neg hc51, if_pos hc55]), (fun t k => pr56 t k)⟩
        ·
         skip
         have pr57 : Pr p e below T53 m 170 #[iv p1, iv p2, iv p3, iv p4, iv p5, iv (ab3_ p1), iv (ab1_ p1), iv (ab4_ p2), iv (ab2_ p2), iv (ab7_ p3), rv b1, iv (ab5_ p3 p4), iv (ab6_ p3 p5), iv 1] [] s₁ en := fun t k => pr54 t (by
          show Sx p e below T53 m 160 #[iv p1, iv p2, iv p3, iv p4, iv p5, iv (ab3_ p1), iv (ab1_ p1), iv (ab4_ p2), iv (ab2_ p2), iv (ab7_ p3), rv b1, iv (ab5_ p3 p4), iv (ab6_ p3 p5), .unset] [(.int (own_fine (3 : Int32) (ab5_ p3 p4) (ab6_ p3 p5) (ab2_ p2)))] _
          refine zo X53 Bd at_160 (XT.i0_eq_f (hc55 : ¬ ((own_fine (3 : Int32) (ab5_ p3 p4) (ab6_ p3 p5) (ab2_ p2)) = (0 : Int32)))) ?_
          refine zc X53 Bd at_163 ?_
          refine zg (pc' := 168) X53 Bd at_164 rfl ?_
          refine zs X53 Bd at_168 (l' := #[iv p1, iv p2, iv p3, iv p4, iv p5, iv (ab3_ p1), iv (ab1_ p1), iv (ab4_ p2), iv (ab2_ p2), iv (ab7_ p3), rv b1, iv (ab5_ p3 p4), iv (ab6_ p3 p5), iv 1]) rfl ?_
          exact k)
         exact kont37 ⟨T53, _, T19.heap, (1 : Int32), (X53.mono (lE rfl) (lE rfl)), e53q, N53, (Keep.refl T19.heap []), (by rw [own_ex, if_pos hc39, if_neg hc43, if_neg hc47, if_neg hc51, if_neg hc55]), (fun t k => pr57 t k)⟩
    ·
     skip
     have pr58 : Pr p e below T19 m 170 #[iv p1, iv p2, iv p3, iv p4, iv p5, iv (ab3_ p1), iv (ab1_ p1), iv (ab4_ p2), iv (ab2_ p2), iv (ab7_ p3), rv b1, iv (ab5_ p3 p4), iv (ab6_ p3 p5), iv 0] [] s₁ en := fun t k => pr38 t (by
      show Sx p e below T19 m 108 #[iv p1, iv p2, iv p3, iv p4, iv p5, iv (ab3_ p1), iv (ab1_ p1), iv (ab4_ p2), iv (ab2_ p2), iv (ab7_ p3), rv b1, iv (ab5_ p3 p4), iv (ab6_ p3 p5), .unset] [(.int (ab6_ p3 p5)), (.int (ab5_ p3 p4))] _
      refine zy (pc' := 167) X19 Bd at_108 (XT.ii_ge_t (hc39 : ¬ ((ab5_ p3 p4) < (ab6_ p3 p5)))) rfl ?_
      refine zc X19 Bd at_167 ?_
      refine zs X19 Bd at_168 (l' := #[iv p1, iv p2, iv p3, iv p4, iv p5, iv (ab3_ p1), iv (ab1_ p1), iv (ab4_ p2), iv (ab2_ p2), iv (ab7_ p3), rv b1, iv (ab5_ p3 p4), iv (ab6_ p3 p5), iv 0]) rfl ?_
      exact k)
     exact kont37 ⟨T19, _, T19.heap, (0 : Int32), (X19.mono (lE rfl) (lE rfl)), rfl, N19, (Keep.refl T19.heap []), (by rw [own_ex, if_neg hc39]), (fun t k => pr58 t k)⟩
   ·
    obtain ⟨T37, L37, h37, ex_, X37, e37, N37, K37j, hp37_0, pr37⟩ := hA37
    have K59 := K31.trans K37j (fun x q => nomatch q)
    have C60 : CHv Z consts_1 T19.vm h37 := CHv.keep K37j sf0 CR19.1
    have R61 : CHr Z consts_1 s.vm h0 T19.vm h37 := R33.trans (CHr.keep K37j sf0 CR19.1)
    have F63_ := w28.keep K37j nin0
    have F64_ := w29.keep K37j nin0
    have A65_ := w30.keep K37j nin0
    have hp66 : ∀ c ∈ ([] : List Int32), ¬ c < 0 ∧ ¬ (255 : Int32) < c := (fun _ q => nomatch q)
    have E67_ := E20_.keep K19q
    have E68_ := E67_.keep K37j
    have O69 := O23.keep K19q (allS g_b1 all0)
    have O70 := O69.keep K37j all0
    obtain ⟨_, T62, L62, X62, hQ62, st62⟩ := own_cS 6 12 [] 176 #[iv p1, iv p2, iv p3, iv p4, iv p5, iv (ab3_ p1), iv (ab1_ p1), iv (ab4_ p2), iv (ab2_ p2), iv (ab7_ p3), rv b1, iv (ab5_ p3 p4), iv (ab6_ p3 p5), iv ex_] X37 hx hZ19 ho19 (w35_ hw) (w36_ hw) (w37_ hw) (w38_ hw) (rm8 l Z a0 hw G3 G1 b1 (ab5_ p3 p4) (ab6_ p3 p5) b25 c26_ h37 n0 O70 O4 rG3 O2 P5 F63_ F64_ A65_ E68_ (own_rb p4 hc9 (k := 0) (by decide)).1 (own_rb p5 hc9 (k := 0) (by decide)).2) pd5 hml.symm (hb hby at_176) e37 rfl rfl rfl rfl (by decide)
    obtain ⟨rfl, N62q, e62q⟩ := hQ62
    have N62 := Fr.app N37 N62q
    have hk71' : _ ≤ h37.size := (Nat.le_trans hk19 K37j.1)
    refine own_lvW X62 Bd.notSynchronized hS19 hk71' (v := (some (.int 1))) (fun h => by rw [Bd.returns] at h; cases h) e62q hh ⟨rfl, N62⟩ (R61.trans (CHv.at X62 hZ19 hEL C60)) (lE rfl) (lE rfl) (fun fs hr => pr37 _ (by
     show Sx p e below T37 m 170 #[iv p1, iv p2, iv p3, iv p4, iv p5, iv (ab3_ p1), iv (ab1_ p1), iv (ab4_ p2), iv (ab2_ p2), iv (ab7_ p3), rv b1, iv (ab5_ p3 p4), iv (ab6_ p3 p5), iv ex_] [] _
     refine za X37 Bd at_170 rfl rfl ?_
     refine zi X37 Bd at_172 rfl ?_
     refine zi X37 Bd at_174 rfl ?_
     refine st62 _ ?_
     refine zi X62 Bd at_179 rfl ?_
     refine zn X62 Bd at_181 (XT.ii_ne_f (((own_fin0 (ab5_ p3 p4) (ab6_ p3 p5) (ab3_ p1) (ab1_ p1) (ab4_ p2) (ab2_ p2) (own_rb p4 hc9 (k := 0) (by decide)).1 (own_rb p4 hc9 (k := 0) (by decide)).2 (own_rb p5 hc9 (k := 0) (by decide)).1 (own_rb p5 hc9 (k := 0) (by decide)).2).trans hp37_0.symm) : (own_isd ([] : List Int32) (ab5_ p3 p4) (ab6_ p3 p5)) = ex_)) ?_
     refine zc X62 Bd at_184 ?_
     refine zg (pc' := 189) X62 Bd at_185 rfl ?_
     exact retN X62 hx (t := .boolean) Bd.returns (by simp) (hb hby at_189) hr))
  ·
   skip
   have O73 := O23.keep K19q (allS g_b1 all0)
   obtain ⟨_, T72, L72, X72, hQ72, st72⟩ := own_cS 6 12 [] 69 #[iv p1, iv p2, iv p3, iv p4, iv p5, iv (ab3_ p1), iv (ab1_ p1), iv (ab4_ p2), iv (ab2_ p2), iv (ab7_ p3), rv b1, .unset, .unset, .unset] X19 hx hZ19 ho19 (w35_ hw) (w36_ hw) (w37_ hw) (w38_ hw) (rm9 l Z a0 hw  b1 p4 p5 T19.heap n0 O73 hc35) pd5 hml.symm (hb hby at_69) rfl rfl rfl rfl rfl (by decide)
   obtain ⟨rfl, N72q, e72q⟩ := hQ72
   have N72 := Fr.app N19 N72q
   refine own_lvW X72 Bd.notSynchronized hS19 hk19 (v := (some (.int 1))) (fun h => by rw [Bd.returns] at h; cases h) e72q hh ⟨rfl, N72⟩ (R33.trans (CHv.at X72 hZ19 hEL CR19.1)) (lE rfl) (lE rfl) (fun fs hr => pr34 _ (by
    show Sx p e below T19 m 61 #[iv p1, iv p2, iv p3, iv p4, iv p5, iv (ab3_ p1), iv (ab1_ p1), iv (ab4_ p2), iv (ab2_ p2), iv (ab7_ p3), rv b1, .unset, .unset, .unset] [.int p5, .int p4] _
    refine zn X19 Bd at_61 (XT.ii_lt_f (hc35 : ¬ (p4 < p5))) ?_
    refine za X19 Bd at_64 rfl rfl ?_
    refine zj X19 Bd at_66 rfl ?_
    refine zi X19 Bd at_67 rfl ?_
    refine st72 _ ?_
    refine zo X72 Bd at_72 (XT.i0_ne_f ((by decide) : (0 : Int32) = (0 : Int32))) ?_
    refine zc X72 Bd at_75 ?_
    refine zg (pc' := 80) X72 Bd at_76 rfl ?_
    exact retN X72 hx (t := .boolean) Bd.returns (by simp) (hb hby at_80) hr))
 ·
  skip
  by_cases hc75 : (ab7_ p3) = (1 : Int32)
  ·
   skip
   have O77 := X00.ext E1
   obtain ⟨_, T76, L76, X76, hQ76, st76⟩ := own_cS 2 5 [.ref b1, .ref b1] 50 #[iv p1, iv p2, iv p3, iv p4, iv p5, iv (ab3_ p1), iv (ab1_ p1), iv (ab4_ p2), iv (ab2_ p2), iv (ab7_ p3), .unset, .unset, .unset, .unset] X1 hx hZ hown (w4_ hw) (w5_ hw) (w6_ hw) (w7_ hw) (rm10 l Z a0 hw  (ab7_ p3) (ab3_ p1) (ab1_ p1) (ab4_ p2) (ab2_ p2) h1 n0 O77 hc9 hc75 (own_nar_i2c _)) pd0 hml.symm (hb hby at_50) e1 rfl rfl rfl rfl (by decide)
   obtain ⟨b78, c79_, rfl, N76q, K76q, w80, w81⟩ := hQ76
   have N76 := Fr.app N0 N76q
   have K82 := K2.trans K76q (fun x q => nomatch q)
   have C83 : CHv Z consts_1 s.vm T76.heap := CHv.keep K76q sf0 C3
   have R84 : CHr Z consts_1 s.vm h0 s.vm T76.heap := R4.trans (CHr.keep K76q sf0 C3)
   have pr86 : Pr p e below T76 m 53 #[iv p1, iv p2, iv p3, iv p4, iv p5, iv (ab3_ p1), iv (ab1_ p1), iv (ab4_ p2), iv (ab2_ p2), iv (ab7_ p3), .unset, .unset, .unset, .unset] [.ref b78, .ref b1, .ref b1] s₁ en := fun t k => pr8 t (by
    show Sx p e below T1 m 50 #[iv p1, iv p2, iv p3, iv p4, iv p5, iv (ab3_ p1), iv (ab1_ p1), iv (ab4_ p2), iv (ab2_ p2), iv (ab7_ p3), .unset, .unset, .unset, .unset] [(.int (ab2_ p2)), (.int (ab4_ p2)), (.int (ab1_ p1)), (.int (ab3_ p1)), (.int (ab7_ p3)), .ref b1, .ref b1] _
    refine st76 _ ?_
    exact k)
   by_cases hc87 : (255 : Int32) < (own_max ([(ab3_ p1)] : List Int32))
   ·
    skip
    have E89_ := A1.keep K76q
    have F90_ := F5_.keep K76q nin0
    have g_b1 : n0 ≤ b1 := Nat.le_trans (Nat.le_trans (Nat.le_of_eq X00.1.symm) X00.2.1) (Nat.le_of_eq g1.symm)
    have F91_ := F6_.keep K76q nin0
    have O92 := O77.keep K76q all0
    obtain ⟨_, T88, L88, X88, hQ88, st88⟩ := own_cI 4 8 [.ref b1] 53 #[iv p1, iv p2, iv p3, iv p4, iv p5, iv (ab3_ p1), iv (ab1_ p1), iv (ab4_ p2), iv (ab2_ p2), iv (ab7_ p3), .unset, .unset, .unset, .unset] X76 hx hZ hown (w9_ hw) (w10_ hw) (w3_ hw) (w11_ hw) (rm20 l Z a0 hw G1 b1 b78 c79_ (ab3_ p1) T76.heap n0 O92 O2 P5 uS12 uS15 uS18 w81 hc87 (own_nar_i2c _) E89_ F90_ g_b1 F91_) pd2 hml.symm (hb hby at_53) rfl rfl rfl rfl rfl rfl (by decide)
    obtain ⟨b93, c94_, rfl, N88q, K88q, w95, w96, w97, w98, w99⟩ := hQ88
    have N88 := Fr.app N76 N88q
    have sz_b1 : h0.size ≤ b1 := (Nat.le_of_eq g1.symm)
    have K100 := K82.trans K88q (allS (Or.inr sz_b1) all0)
    have f102 : Safe Z consts_1 s.vm h1 b1 := Safe.ext E1 hC0 (Safe.new (Nat.le_of_eq g1.symm))
    have f103 : Safe Z consts_1 s.vm T76.heap b1 := Safe.keep K76q sf0 C3 f102
    have C101 : CHv Z consts_1 s.vm T88.heap := CHv.keep K88q (sfS f103 sf0) C83
    have R104 : CHr Z consts_1 s.vm h0 s.vm T88.heap := R84.trans (CHr.keep K88q (sfS f103 sf0) C83)
    have pr105 : Pr p e below T88 m 61 #[iv p1, iv p2, iv p3, iv p4, iv p5, iv (ab3_ p1), iv (ab1_ p1), iv (ab4_ p2), iv (ab2_ p2), iv (ab7_ p3), rv b1, .unset, .unset, .unset] [.int p5, .int p4] s₁ en := fun t k => pr86 t (by
     show Sx p e below T76 m 53 #[iv p1, iv p2, iv p3, iv p4, iv p5, iv (ab3_ p1), iv (ab1_ p1), iv (ab4_ p2), iv (ab2_ p2), iv (ab7_ p3), .unset, .unset, .unset, .unset] [.ref b78, .ref b1, .ref b1] _
     refine st88 _ ?_
     refine XS.astore X88.here hx rfl (hb hby at_56) rfl rfl (l' := #[iv p1, iv p2, iv p3, iv p4, iv p5, iv (ab3_ p1), iv (ab1_ p1), iv (ab4_ p2), iv (ab2_ p2), iv (ab7_ p3), rv b1, .unset, .unset, .unset]) rfl ?_
     refine zj X88 Bd at_58 rfl ?_
     refine zi X88 Bd at_59 rfl ?_
     exact k)
    by_cases hc106 : p4 < p5
    ·
     skip
     have pr107 : Pr p e below T88 m 104 #[iv p1, iv p2, iv p3, iv p4, iv p5, iv (ab3_ p1), iv (ab1_ p1), iv (ab4_ p2), iv (ab2_ p2), iv (ab7_ p3), rv b1, iv (ab5_ p3 p4), iv (ab6_ p3 p5), .unset] [] s₁ en := fun t k => pr105 t (by
      show Sx p e below T88 m 61 #[iv p1, iv p2, iv p3, iv p4, iv p5, iv (ab3_ p1), iv (ab1_ p1), iv (ab4_ p2), iv (ab2_ p2), iv (ab7_ p3), rv b1, .unset, .unset, .unset] [.int p5, .int p4] _
      refine zy (pc' := 81) X88 Bd at_61 (XT.ii_lt_t (hc106 : p4 < p5)) rfl ?_
      refine zj X88 Bd at_81 rfl ?_
      refine X88.ldcInt hx hown (mvT hZ (w61_ hw)) (g := (mkF m 82 #[iv p1, iv p2, iv p3, iv p4, iv p5, iv (ab3_ p1), iv (ab1_ p1), iv (ab4_ p2), iv (ab2_ p2), iv (ab7_ p3), rv b1, .unset, .unset, .unset] [.int p4])) rfl (hb hby at_82) _ ?_
      refine XS.iand X88.here hx rfl (hb hby at_84) rfl ?_
      refine zi X88 Bd at_85 rfl ?_
      refine zc X88 Bd at_87 ?_
      refine XS.iadd X88.here hx rfl (hb hby at_88) rfl ?_
      refine iremM X88 hx (g := (mkF m 89 #[iv p1, iv p2, iv p3, iv p4, iv p5, iv (ab3_ p1), iv (ab1_ p1), iv (ab4_ p2), iv (ab2_ p2), iv (ab7_ p3), rv b1, .unset, .unset, .unset] [(.int (ab0_ p3)), (.int (p4 &&& (2147483647 : Int32)))])) rfl (hb hby at_89) rfl (own_sub (p := fun z_ => ¬ ((z_ + (1 : Int32)) = (0 : Int32))) hc75 (by decide)) ?_
      refine zs X88 Bd at_90 (l' := #[iv p1, iv p2, iv p3, iv p4, iv p5, iv (ab3_ p1), iv (ab1_ p1), iv (ab4_ p2), iv (ab2_ p2), iv (ab7_ p3), rv b1, iv (ab5_ p3 p4), .unset, .unset]) rfl ?_
      refine zi X88 Bd at_92 rfl ?_
      refine X88.ldcInt hx hown (mvT hZ (w61_ hw)) (g := (mkF m 94 #[iv p1, iv p2, iv p3, iv p4, iv p5, iv (ab3_ p1), iv (ab1_ p1), iv (ab4_ p2), iv (ab2_ p2), iv (ab7_ p3), rv b1, iv (ab5_ p3 p4), .unset, .unset] [.int p5])) rfl (hb hby at_94) _ ?_
      refine XS.iand X88.here hx rfl (hb hby at_96) rfl ?_
      refine zi X88 Bd at_97 rfl ?_
      refine zc X88 Bd at_99 ?_
      refine XS.iadd X88.here hx rfl (hb hby at_100) rfl ?_
      refine iremM X88 hx (g := (mkF m 101 #[iv p1, iv p2, iv p3, iv p4, iv p5, iv (ab3_ p1), iv (ab1_ p1), iv (ab4_ p2), iv (ab2_ p2), iv (ab7_ p3), rv b1, iv (ab5_ p3 p4), .unset, .unset] [(.int (ab0_ p3)), (.int (p5 &&& (2147483647 : Int32)))])) rfl (hb hby at_101) rfl (own_sub (p := fun z_ => ¬ ((z_ + (1 : Int32)) = (0 : Int32))) hc75 (by decide)) ?_
      refine zs X88 Bd at_102 (l' := #[iv p1, iv p2, iv p3, iv p4, iv p5, iv (ab3_ p1), iv (ab1_ p1), iv (ab4_ p2), iv (ab2_ p2), iv (ab7_ p3), rv b1, iv (ab5_ p3 p4), iv (ab6_ p3 p5), .unset]) rfl ?_
      exact k)
     refine cps (A := ∃ T108 : State, ∃ L108 : List Loc, ∃ h108 : Heap, ∃ ex_ : Int32, Stand p l e room_1 (s.setVm s.vm) m #[.int p1, .int p2, .int p3, .int p4, .int p5] below meth c T108 L108 4 8 ∧ T108.heap = h108 ∧ Fr n0 L108 ∧ Keep T88.heap h108 [] ∧ (ex_ = own_ex (ab5_ p3 p4) (ab6_ p3 p5) (ab3_ p1) (ab1_ p1) (ab4_ p2) (ab2_ p2)) ∧ Pr p e below T108 m 170 #[iv p1, iv p2, iv p3, iv p4, iv p5, iv (ab3_ p1), iv (ab1_ p1), iv (ab4_ p2), iv (ab2_ p2), iv (ab7_ p3), rv b1, iv (ab5_ p3 p4), iv (ab6_ p3 p5), iv ex_] [] s₁ en) (fun kont108 => ?_) (fun hA108 => ?_)
     ·
      skip
      have pr109 : Pr p e below T88 m 108 #[iv p1, iv p2, iv p3, iv p4, iv p5, iv (ab3_ p1), iv (ab1_ p1), iv (ab4_ p2), iv (ab2_ p2), iv (ab7_ p3), rv b1, iv (ab5_ p3 p4), iv (ab6_ p3 p5), .unset] [(.int (ab6_ p3 p5)), (.int (ab5_ p3 p4))] s₁ en := fun t k => pr107 t (by
       show Sx p e below T88 m 104 #[iv p1, iv p2, iv p3, iv p4, iv p5, iv (ab3_ p1), iv (ab1_ p1), iv (ab4_ p2), iv (ab2_ p2), iv (ab7_ p3), rv b1, iv (ab5_ p3 p4), iv (ab6_ p3 p5), .unset] [] _
       refine zi X88 Bd at_104 rfl ?_
       refine zi X88 Bd at_106 rfl ?_
       exact k)
      by_cases hc110 : (ab5_ p3 p4) < (ab6_ p3 p5)
      ·
       skip
       have O112 := O92.keep K88q (allS g_b1 all0)
       obtain ⟨_, T111, L111, X111, hQ111, st111⟩ := own_cS 4 8 [] 118 #[iv p1, iv p2, iv p3, iv p4, iv p5, iv (ab3_ p1), iv (ab1_ p1), iv (ab4_ p2), iv (ab2_ p2), iv (ab7_ p3), rv b1, iv (ab5_ p3 p4), iv (ab6_ p3 p5), .unset] X88 hx hZ hown (w62_ hw) (w63_ hw) (w6_ hw) (w64_ hw) (rm4 l Z a0 hw  (ab5_ p3 p4) (ab6_ p3 p5) (ab3_ p1) T88.heap n0 O112 ) pd3 hml.symm (hb hby at_118) rfl rfl rfl rfl rfl (by decide)
       obtain ⟨rfl, N111q, e111q⟩ := hQ111
       have N111 := Fr.app N88 N111q
       have pr113 : Pr p e below T111 m 121 #[iv p1, iv p2, iv p3, iv p4, iv p5, iv (ab3_ p1), iv (ab1_ p1), iv (ab4_ p2), iv (ab2_ p2), iv (ab7_ p3), rv b1, iv (ab5_ p3 p4), iv (ab6_ p3 p5), .unset] [(.int (own_fine (0 : Int32) (ab5_ p3 p4) (ab6_ p3 p5) (ab3_ p1)))] s₁ en := fun t k => pr109 t (by
        show Sx p e below T88 m 108 #[iv p1, iv p2, iv p3, iv p4, iv p5, iv (ab3_ p1), iv (ab1_ p1), iv (ab4_ p2), iv (ab2_ p2), iv (ab7_ p3), rv b1, iv (ab5_ p3 p4), iv (ab6_ p3 p5), .unset] [(.int (ab6_ p3 p5)), (.int (ab5_ p3 p4))] _
        refine zn X88 Bd at_108 (XT.ii_ge_f (hc110 : (ab5_ p3 p4) < (ab6_ p3 p5))) ?_
        refine zc X88 Bd at_111 ?_
        refine zi X88 Bd at_112 rfl ?_
        refine zi X88 Bd at_114 rfl ?_
        refine zi X88 Bd at_116 rfl ?_
        refine st111 _ ?_
        exact k)
       by_cases hc114 : (own_fine (0 : Int32) (ab5_ p3 p4) (ab6_ p3 p5) (ab3_ p1)) = (0 : Int32)
       ·
        skip
        have pr115 : Pr p e below T111 m 170 #[iv p1, iv p2, iv p3, iv p4, iv p5, iv (ab3_ p1), iv (ab1_ p1), iv (ab4_ p2), iv (ab2_ p2), iv (ab7_ p3), rv b1, iv (ab5_ p3 p4), iv (ab6_ p3 p5), iv 0] [] s₁ en := fun t k => pr113 t (by
         show Sx p e below T111 m 121 #[iv p1, iv p2, iv p3, iv p4, iv p5, iv (ab3_ p1), iv (ab1_ p1), iv (ab4_ p2), iv (ab2_ p2), iv (ab7_ p3), rv b1, iv (ab5_ p3 p4), iv (ab6_ p3 p5), .unset] [(.int (own_fine (0 : Int32) (ab5_ p3 p4) (ab6_ p3 p5) (ab3_ p1)))] _
         refine zp (pc' := 167) X111 Bd at_121 (XT.i0_eq_t (hc114 : (own_fine (0 : Int32) (ab5_ p3 p4) (ab6_ p3 p5) (ab3_ p1)) = (0 : Int32))) rfl ?_
         refine zc X111 Bd at_167 ?_
         refine zs X111 Bd at_168 (l' := #[iv p1, iv p2, iv p3, iv p4, iv p5, iv (ab3_ p1), iv (ab1_ p1), iv (ab4_ p2), iv (ab2_ p2), iv (ab7_ p3), rv b1, iv (ab5_ p3 p4), iv (ab6_ p3 p5), iv 0]) rfl ?_
         exact k)
        exact kont108 ⟨T111, _, T88.heap, (0 : Int32), (X111.mono (lE rfl) (lE rfl)), e111q, N111, (Keep.refl T88.heap []), (by rw [own_ex, if_pos hc110, if_pos hc114]), (fun t k => pr115 t k)⟩
       ·
        skip
        obtain ⟨_, T116, L116, X116, hQ116, st116⟩ := own_cS 4 8 [] 131 #[iv p1, iv p2, iv p3, iv p4, iv p5, iv (ab3_ p1), iv (ab1_ p1), iv (ab4_ p2), iv (ab2_ p2), iv (ab7_ p3), rv b1, iv (ab5_ p3 p4), iv (ab6_ p3 p5), .unset] X111 hx hZ hown (w62_ hw) (w63_ hw) (w6_ hw) (w64_ hw) (rm5 l Z a0 hw  (ab5_ p3 p4) (ab6_ p3 p5) (ab1_ p1) T88.heap n0 O112 ) pd3 hml.symm (hb hby at_131) e111q rfl rfl rfl rfl (by decide)
        obtain ⟨rfl, N116q, e116q⟩ := hQ116
        have N116 := Fr.app N111 N116q
        have pr117 : Pr p e below T116 m 134 #[iv p1, iv p2, iv p3, iv p4, iv p5, iv (ab3_ p1), iv (ab1_ p1), iv (ab4_ p2), iv (ab2_ p2), iv (ab7_ p3), rv b1, iv (ab5_ p3 p4), iv (ab6_ p3 p5), .unset] [(.int (own_fine (1 : Int32) (ab5_ p3 p4) (ab6_ p3 p5) (ab1_ p1)))] s₁ en := fun t k => pr113 t (by
         show Sx p e below T111 m 121 #[iv p1, iv p2, iv p3, iv p4, iv p5, iv (ab3_ p1), iv (ab1_ p1), iv (ab4_ p2), iv (ab2_ p2), iv (ab7_ p3), rv b1, iv (ab5_ p3 p4), iv (ab6_ p3 p5), .unset] [(.int (own_fine (0 : Int32) (ab5_ p3 p4) (ab6_ p3 p5) (ab3_ p1)))] _
         refine zo X111 Bd at_121 (XT.i0_eq_f (hc114 : ¬ ((own_fine (0 : Int32) (ab5_ p3 p4) (ab6_ p3 p5) (ab3_ p1)) = (0 : Int32)))) ?_
         refine zc X111 Bd at_124 ?_
         refine zi X111 Bd at_125 rfl ?_
         refine zi X111 Bd at_127 rfl ?_
         refine zi X111 Bd at_129 rfl ?_
         refine st116 _ ?_
         exact k)
        by_cases hc118 : (own_fine (1 : Int32) (ab5_ p3 p4) (ab6_ p3 p5) (ab1_ p1)) = (0 : Int32)
        ·
         skip
         have pr119 : Pr p e below T116 m 170 #[iv p1, iv p2, iv p3, iv p4, iv p5, iv (ab3_ p1), iv (ab1_ p1), iv (ab4_ p2), iv (ab2_ p2), iv (ab7_ p3), rv b1, iv (ab5_ p3 p4), iv (ab6_ p3 p5), iv 0] [] s₁ en := fun t k => pr117 t (by
          show Sx p e below T116 m 134 #[iv p1, iv p2, iv p3, iv p4, iv p5, iv (ab3_ p1), iv (ab1_ p1), iv (ab4_ p2), iv (ab2_ p2), iv (ab7_ p3), rv b1, iv (ab5_ p3 p4), iv (ab6_ p3 p5), .unset] [(.int (own_fine (1 : Int32) (ab5_ p3 p4) (ab6_ p3 p5) (ab1_ p1)))] _
          refine zp (pc' := 167) X116 Bd at_134 (XT.i0_eq_t (hc118 : (own_fine (1 : Int32) (ab5_ p3 p4) (ab6_ p3 p5) (ab1_ p1)) = (0 : Int32))) rfl ?_
          refine zc X116 Bd at_167 ?_
          refine zs X116 Bd at_168 (l' := #[iv p1, iv p2, iv p3, iv p4, iv p5, iv (ab3_ p1), iv (ab1_ p1), iv (ab4_ p2), iv (ab2_ p2), iv (ab7_ p3), rv b1, iv (ab5_ p3 p4), iv (ab6_ p3 p5), iv 0]) rfl ?_
          exact k)
         exact kont108 ⟨T116, _, T88.heap, (0 : Int32), (X116.mono (lE rfl) (lE rfl)), e116q, N116, (Keep.refl T88.heap []), (by rw [own_ex, if_pos hc110, if_neg hc114, if_pos hc118]), (fun t k => pr119 t k)⟩
        ·
         skip
         obtain ⟨_, T120, L120, X120, hQ120, st120⟩ := own_cS 4 8 [] 144 #[iv p1, iv p2, iv p3, iv p4, iv p5, iv (ab3_ p1), iv (ab1_ p1), iv (ab4_ p2), iv (ab2_ p2), iv (ab7_ p3), rv b1, iv (ab5_ p3 p4), iv (ab6_ p3 p5), .unset] X116 hx hZ hown (w62_ hw) (w63_ hw) (w6_ hw) (w64_ hw) (rm6 l Z a0 hw  (ab5_ p3 p4) (ab6_ p3 p5) (ab4_ p2) T88.heap n0 O112 ) pd3 hml.symm (hb hby at_144) e116q rfl rfl rfl rfl (by decide)
         obtain ⟨rfl, N120q, e120q⟩ := hQ120
         have N120 := Fr.app N116 N120q
         have pr121 : Pr p e below T120 m 147 #[iv p1, iv p2, iv p3, iv p4, iv p5, iv (ab3_ p1), iv (ab1_ p1), iv (ab4_ p2), iv (ab2_ p2), iv (ab7_ p3), rv b1, iv (ab5_ p3 p4), iv (ab6_ p3 p5), .unset] [(.int (own_fine (2 : Int32) (ab5_ p3 p4) (ab6_ p3 p5) (ab4_ p2)))] s₁ en := fun t k => pr117 t (by
          show Sx p e below T116 m 134 #[iv p1, iv p2, iv p3, iv p4, iv p5, iv (ab3_ p1), iv (ab1_ p1), iv (ab4_ p2), iv (ab2_ p2), iv (ab7_ p3), rv b1, iv (ab5_ p3 p4), iv (ab6_ p3 p5), .unset] [(.int (own_fine (1 : Int32) (ab5_ p3 p4) (ab6_ p3 p5) (ab1_ p1)))] _
          refine zo X116 Bd at_134 (XT.i0_eq_f (hc118 : ¬ ((own_fine (1 : Int32) (ab5_ p3 p4) (ab6_ p3 p5) (ab1_ p1)) = (0 : Int32)))) ?_
          refine zc X116 Bd at_137 ?_
          refine zi X116 Bd at_138 rfl ?_
          refine zi X116 Bd at_140 rfl ?_
          refine zi X116 Bd at_142 rfl ?_
          refine st120 _ ?_
          exact k)
         by_cases hc122 : (own_fine (2 : Int32) (ab5_ p3 p4) (ab6_ p3 p5) (ab4_ p2)) = (0 : Int32)
         ·
          skip
          have pr123 : Pr p e below T120 m 170 #[iv p1, iv p2, iv p3, iv p4, iv p5, iv (ab3_ p1), iv (ab1_ p1), iv (ab4_ p2), iv (ab2_ p2), iv (ab7_ p3), rv b1, iv (ab5_ p3 p4), iv (ab6_ p3 p5), iv 0] [] s₁ en := fun t k => pr121 t (by
           show Sx p e below T120 m 147 #[iv p1, iv p2, iv p3, iv p4, iv p5, iv (ab3_ p1), iv (ab1_ p1), iv (ab4_ p2), iv (ab2_ p2), iv (ab7_ p3), rv b1, iv (ab5_ p3 p4), iv (ab6_ p3 p5), .unset] [(.int (own_fine (2 : Int32) (ab5_ p3 p4) (ab6_ p3 p5) (ab4_ p2)))] _
           refine zp (pc' := 167) X120 Bd at_147 (XT.i0_eq_t (hc122 : (own_fine (2 : Int32) (ab5_ p3 p4) (ab6_ p3 p5) (ab4_ p2)) = (0 : Int32))) rfl ?_
           refine zc X120 Bd at_167 ?_
           refine zs X120 Bd at_168 (l' := #[iv p1, iv p2, iv p3, iv p4, iv p5, iv (ab3_ p1), iv (ab1_ p1), iv (ab4_ p2), iv (ab2_ p2), iv (ab7_ p3), rv b1, iv (ab5_ p3 p4), iv (ab6_ p3 p5), iv 0]) rfl ?_
           exact k)
          exact kont108 ⟨T120, _, T88.heap, (0 : Int32), (X120.mono (lE rfl) (lE rfl)), e120q, N120, (Keep.refl T88.heap []), (by rw [own_ex, if_pos hc110, if_neg hc114, if_neg hc118, if_pos hc122]), (fun t k => pr123 t k)⟩
         ·
          skip
          obtain ⟨_, T124, L124, X124, hQ124, st124⟩ := own_cS 4 8 [] 157 #[iv p1, iv p2, iv p3, iv p4, iv p5, iv (ab3_ p1), iv (ab1_ p1), iv (ab4_ p2), iv (ab2_ p2), iv (ab7_ p3), rv b1, iv (ab5_ p3 p4), iv (ab6_ p3 p5), .unset] X120 hx hZ hown (w62_ hw) (w63_ hw) (w6_ hw) (w64_ hw) (rm7 l Z a0 hw  (ab5_ p3 p4) (ab6_ p3 p5) (ab2_ p2) T88.heap n0 O112 ) pd3 hml.symm (hb hby at_157) e120q rfl rfl rfl rfl (by decide)
          obtain ⟨rfl, N124q, e124q⟩ := hQ124
          have N124 := Fr.app N120 N124q
          have pr125 : Pr p e below T124 m 160 #[iv p1, iv p2, iv p3, iv p4, iv p5, iv (ab3_ p1), iv (ab1_ p1), iv (ab4_ p2), iv (ab2_ p2), iv (ab7_ p3), rv b1, iv (ab5_ p3 p4), iv (ab6_ p3 p5), .unset] [(.int (own_fine (3 : Int32) (ab5_ p3 p4) (ab6_ p3 p5) (ab2_ p2)))] s₁ en := fun t k => pr121 t (by
           show Sx p e below T120 m 147 #[iv p1, iv p2, iv p3, iv p4, iv p5, iv (ab3_ p1), iv (ab1_ p1), iv (ab4_ p2), iv (ab2_ p2), iv (ab7_ p3), rv b1, iv (ab5_ p3 p4), iv (ab6_ p3 p5), .unset] [(.int (own_fine (2 : Int32) (ab5_ p3 p4) (ab6_ p3 p5) (ab4_ p2)))] _
           refine zo X120 Bd at_147 (XT.i0_eq_f (hc122 : ¬ ((own_fine (2 : Int32) (ab5_ p3 p4) (ab6_ p3 p5) (ab4_ p2)) = (0 : Int32)))) ?_
           refine zc X120 Bd at_150 ?_
           refine zi X120 Bd at_151 rfl ?_
           refine zi X120 Bd at_153 rfl ?_
           refine zi X120 Bd at_155 rfl ?_
           refine st124 _ ?_
           exact k)
          by_cases hc126 : (own_fine (3 : Int32) (ab5_ p3 p4) (ab6_ p3 p5) (ab2_ p2)) = (0 : Int32)
          ·
           skip
           have pr127 : Pr p e below T124 m 170 #[iv p1, iv p2, iv p3, iv p4, iv p5, iv (ab3_ p1), iv (ab1_ p1), iv (ab4_ p2), iv (ab2_ p2), iv (ab7_ p3), rv b1, iv (ab5_ p3 p4), iv (ab6_ p3 p5), iv 0] [] s₁ en := fun t k => pr125 t (by
            show Sx p e below T124 m 160 #[iv p1, iv p2, iv p3, iv p4, iv p5, iv (ab3_ p1), iv (ab1_ p1), iv (ab4_ p2), iv (ab2_ p2), iv (ab7_ p3), rv b1, iv (ab5_ p3 p4), iv (ab6_ p3 p5), .unset] [(.int (own_fine (3 : Int32) (ab5_ p3 p4) (ab6_ p3 p5) (ab2_ p2)))] _
            refine zp (pc' := 167) X124 Bd at_160 (XT.i0_eq_t (hc126 : (own_fine (3 : Int32) (ab5_ p3 p4) (ab6_ p3 p5) (ab2_ p2)) = (0 : Int32))) rfl ?_
            refine zc X124 Bd at_167 ?_
            refine zs X124 Bd at_168 (l' := #[iv p1, iv p2, iv p3, iv p4, iv p5, iv (ab3_ p1), iv (ab1_ p1), iv (ab4_ p2), iv (ab2_ p2), iv (ab7_ p3), rv b1, iv (ab5_ p3 p4), iv (ab6_ p3 p5), iv 0]) rfl ?_
            exact k)
           exact kont108 ⟨T124, _, T88.heap, (0 : Int32), (X124.mono (lE rfl) (lE rfl)), e124q, N124, (Keep.refl T88.heap []), (by rw [own_ex, if_pos hc110, if_neg hc114, if_neg hc118, if_neg hc122, if_pos hc126]), (fun t k => pr127 t k)⟩
          ·
           skip
           have pr128 : Pr p e below T124 m 170 #[iv p1, iv p2, iv p3, iv p4, iv p5, iv (ab3_ p1), iv (ab1_ p1), iv (ab4_ p2), iv (ab2_ p2), iv (ab7_ p3), rv b1, iv (ab5_ p3 p4), iv (ab6_ p3 p5), iv 1] [] s₁ en := fun t k => pr125 t (by
            show Sx p e below T124 m 160 #[iv p1, iv p2, iv p3, iv p4, iv p5, iv (ab3_ p1), iv (ab1_ p1), iv (ab4_ p2), iv (ab2_ p2), iv (ab7_ p3), rv b1, iv (ab5_ p3 p4), iv (ab6_ p3 p5), .unset] [(.int (own_fine (3 : Int32) (ab5_ p3 p4) (ab6_ p3 p5) (ab2_ p2)))] _
            refine zo X124 Bd at_160 (XT.i0_eq_f (hc126 : ¬ ((own_fine (3 : Int32) (ab5_ p3 p4) (ab6_ p3 p5) (ab2_ p2)) = (0 : Int32)))) ?_
            refine zc X124 Bd at_163 ?_
            refine zg (pc' := 168) X124 Bd at_164 rfl ?_
            refine zs X124 Bd at_168 (l' := #[iv p1, iv p2, iv p3, iv p4, iv p5, iv (ab3_ p1), iv (ab1_ p1), iv (ab4_ p2), iv (ab2_ p2), iv (ab7_ p3), rv b1, iv (ab5_ p3 p4), iv (ab6_ p3 p5), iv 1]) rfl ?_
            exact k)
           exact kont108 ⟨T124, _, T88.heap, (1 : Int32), (X124.mono (lE rfl) (lE rfl)), e124q, N124, (Keep.refl T88.heap []), (by rw [own_ex, if_pos hc110, if_neg hc114, if_neg hc118, if_neg hc122, if_neg hc126]), (fun t k => pr128 t k)⟩
      ·
       skip
       have pr129 : Pr p e below T88 m 170 #[iv p1, iv p2, iv p3, iv p4, iv p5, iv (ab3_ p1), iv (ab1_ p1), iv (ab4_ p2), iv (ab2_ p2), iv (ab7_ p3), rv b1, iv (ab5_ p3 p4), iv (ab6_ p3 p5), iv 0] [] s₁ en := fun t k => pr109 t (by
        show Sx p e below T88 m 108 #[iv p1, iv p2, iv p3, iv p4, iv p5, iv (ab3_ p1), iv (ab1_ p1), iv (ab4_ p2), iv (ab2_ p2), iv (ab7_ p3), rv b1, iv (ab5_ p3 p4), iv (ab6_ p3 p5), .unset] [(.int (ab6_ p3 p5)), (.int (ab5_ p3 p4))] _
        refine zy (pc' := 167) X88 Bd at_108 (XT.ii_ge_t (hc110 : ¬ ((ab5_ p3 p4) < (ab6_ p3 p5)))) rfl ?_
        refine zc X88 Bd at_167 ?_
        refine zs X88 Bd at_168 (l' := #[iv p1, iv p2, iv p3, iv p4, iv p5, iv (ab3_ p1), iv (ab1_ p1), iv (ab4_ p2), iv (ab2_ p2), iv (ab7_ p3), rv b1, iv (ab5_ p3 p4), iv (ab6_ p3 p5), iv 0]) rfl ?_
        exact k)
       exact kont108 ⟨T88, _, T88.heap, (0 : Int32), (X88.mono (lE rfl) (lE rfl)), rfl, N88, (Keep.refl T88.heap []), (by rw [own_ex, if_neg hc110]), (fun t k => pr129 t k)⟩
     ·
      obtain ⟨T108, L108, h108, ex_, X108, e108, N108, K108j, hp108_0, pr108⟩ := hA108
      have K130 := K100.trans K108j (fun x q => nomatch q)
      have C131 : CHv Z consts_1 s.vm h108 := CHv.keep K108j sf0 C101
      have R132 : CHr Z consts_1 s.vm h0 s.vm h108 := R104.trans (CHr.keep K108j sf0 C101)
      have F134_ := w98.keep K108j nin0
      have F135_ := w97.keep K108j nin0
      have A136_ := w99.keep K108j nin0
      have E137_ := E89_.keep K88q
      have E138_ := E137_.keep K108j
      have O139 := O92.keep K88q (allS g_b1 all0)
      have O140 := O139.keep K108j all0
      obtain ⟨_, T133, L133, X133, hQ133, st133⟩ := own_cS 4 8 [] 176 #[iv p1, iv p2, iv p3, iv p4, iv p5, iv (ab3_ p1), iv (ab1_ p1), iv (ab4_ p2), iv (ab2_ p2), iv (ab7_ p3), rv b1, iv (ab5_ p3 p4), iv (ab6_ p3 p5), iv ex_] X108 hx hZ hown (w35_ hw) (w36_ hw) (w37_ hw) (w38_ hw) (rm28 l Z a0 hw G1 G3 b1 (ab5_ p3 p4) (ab6_ p3 p5) b93 c94_ (((((ab3_ p1) >>> ((0 : Int32) &&& 31)))).toInt8.toInt32) (((((ab3_ p1) >>> ((8 : Int32) &&& 31)))).toInt8.toInt32) h108 n0 O140 O2 P5 O4 rG3 uS12 uS15 uS18 F134_ F135_ A136_ (own_rb p4 hc75 (k := 1) (by decide)).1 (own_rb p5 hc75 (k := 1) (by decide)).2 E138_) pd5 hml.symm (hb hby at_176) e108 rfl rfl rfl rfl (by decide)
      obtain ⟨rfl, N133q, e133q⟩ := hQ133
      have N133 := Fr.app N108 N133q
      have hk141' : _ ≤ h108.size := (Nat.le_trans (Nat.le_trans (Nat.le_trans (Nat.le_trans hk0 E1.1) K76q.1) K88q.1) K108j.1)
      refine own_lvW X133 Bd.notSynchronized hS0 hk141' (v := (some (.int 1))) (fun h => by rw [Bd.returns] at h; cases h) e133q hh ⟨rfl, N133⟩ (R132.trans (CHv.at X133 hZ hEL C131)) (lE rfl) (lE rfl) (fun fs hr => pr108 _ (by
       show Sx p e below T108 m 170 #[iv p1, iv p2, iv p3, iv p4, iv p5, iv (ab3_ p1), iv (ab1_ p1), iv (ab4_ p2), iv (ab2_ p2), iv (ab7_ p3), rv b1, iv (ab5_ p3 p4), iv (ab6_ p3 p5), iv ex_] [] _
       refine za X108 Bd at_170 rfl rfl ?_
       refine zi X108 Bd at_172 rfl ?_
       refine zi X108 Bd at_174 rfl ?_
       refine st133 _ ?_
       refine zi X133 Bd at_179 rfl ?_
       refine zn X133 Bd at_181 (XT.ii_ne_f ((((congrArg (fun l => own_isd l (ab5_ p3 p4) (ab6_ p3 p5)) ((own_cons (own_get16 (own_nar_i2c _)) rfl) : (own_L1 (((((ab3_ p1) >>> ((0 : Int32) &&& 31)))).toInt8.toInt32) (((((ab3_ p1) >>> ((8 : Int32) &&& 31)))).toInt8.toInt32)) = ([(ab3_ p1)] : List Int32))).trans (own_fin1 (ab5_ p3 p4) (ab6_ p3 p5) (ab3_ p1) (ab1_ p1) (ab4_ p2) (ab2_ p2) (own_rb p4 hc75 (k := 1) (by decide)).1 (own_rb p4 hc75 (k := 1) (by decide)).2 (own_rb p5 hc75 (k := 1) (by decide)).1 (own_rb p5 hc75 (k := 1) (by decide)).2)).trans hp108_0.symm) : (own_isd (own_L1 (((((ab3_ p1) >>> ((0 : Int32) &&& 31)))).toInt8.toInt32) (((((ab3_ p1) >>> ((8 : Int32) &&& 31)))).toInt8.toInt32)) (ab5_ p3 p4) (ab6_ p3 p5)) = ex_)) ?_
       refine zc X133 Bd at_184 ?_
       refine zg (pc' := 189) X133 Bd at_185 rfl ?_
       exact retN X133 hx (t := .boolean) Bd.returns (by simp) (hb hby at_189) hr))
    ·
     skip
     have O143 := O92.keep K88q (allS g_b1 all0)
     obtain ⟨_, T142, L142, X142, hQ142, st142⟩ := own_cS 4 8 [] 69 #[iv p1, iv p2, iv p3, iv p4, iv p5, iv (ab3_ p1), iv (ab1_ p1), iv (ab4_ p2), iv (ab2_ p2), iv (ab7_ p3), rv b1, .unset, .unset, .unset] X88 hx hZ hown (w35_ hw) (w36_ hw) (w37_ hw) (w38_ hw) (rm9 l Z a0 hw  b1 p4 p5 T88.heap n0 O143 hc106) pd5 hml.symm (hb hby at_69) rfl rfl rfl rfl rfl (by decide)
     obtain ⟨rfl, N142q, e142q⟩ := hQ142
     have N142 := Fr.app N88 N142q
     have hk144' : _ ≤ T88.heap.size := (Nat.le_trans (Nat.le_trans (Nat.le_trans hk0 E1.1) K76q.1) K88q.1)
     refine own_lvW X142 Bd.notSynchronized hS0 hk144' (v := (some (.int 1))) (fun h => by rw [Bd.returns] at h; cases h) e142q hh ⟨rfl, N142⟩ (R104.trans (CHv.at X142 hZ hEL C101)) (lE rfl) (lE rfl) (fun fs hr => pr105 _ (by
      show Sx p e below T88 m 61 #[iv p1, iv p2, iv p3, iv p4, iv p5, iv (ab3_ p1), iv (ab1_ p1), iv (ab4_ p2), iv (ab2_ p2), iv (ab7_ p3), rv b1, .unset, .unset, .unset] [.int p5, .int p4] _
      refine zn X88 Bd at_61 (XT.ii_lt_f (hc106 : ¬ (p4 < p5))) ?_
      refine za X88 Bd at_64 rfl rfl ?_
      refine zj X88 Bd at_66 rfl ?_
      refine zi X88 Bd at_67 rfl ?_
      refine st142 _ ?_
      refine zo X142 Bd at_72 (XT.i0_ne_f ((by decide) : (0 : Int32) = (0 : Int32))) ?_
      refine zc X142 Bd at_75 ?_
      refine zg (pc' := 80) X142 Bd at_76 rfl ?_
      exact retN X142 hx (t := .boolean) Bd.returns (by simp) (hb hby at_80) hr))
   ·
    skip
    have hp146 : ∀ c ∈ ([(ab3_ p1)] : List Int32), ¬ c < 0 ∧ ¬ (255 : Int32) < c := (List.forall_mem_cons.mpr ⟨(And.intro (own_ch0 (own_nar_i2c _)) (own_maxle hc87 (mI 0 rfl))), (fun _ q => nomatch q)⟩)
    have g_b1 : n0 ≤ b1 := Nat.le_trans (Nat.le_trans (Nat.le_of_eq X00.1.symm) X00.2.1) (Nat.le_of_eq g1.symm)
    have O147 := O77.keep K76q all0
    have E148_ := A1.keep K76q
    have F149_ := F6_.keep K76q nin0
    have F150_ := F5_.keep K76q nin0
    obtain ⟨_, T145, L145, X145, hQ145, st145⟩ := own_cb 2 5 1 1 3 6 (X76.specialBack hx (y := Y2_) rfl hown (mvT hZ (w9_ hw)) (mvT hZ (w10_ hw)) (mvT hZ (w11_ hw)) (by decide) (StrChars.Road.backV (s := s.setVm s.vm) (W := 1) hZ (own_ws hw) (kI := 4) (w2_ hw) (cs := ([(ab3_ p1)] : List Int32)) (bs := ([(ab3_ p1)] : List Int32).map (fun c => c.toInt8.toInt32)) (n := 1) g_b1 (Nat.le_trans (Nat.le_of_eq O147.1.symm) O147.2.1) E148_ F149_ F150_ w81 (O2.ext O147.2) P5 rfl rfl (lE rfl) (lE rfl) hp146 rfl (lE rfl) (lE rfl)) (g := (mkF m 53 #[iv p1, iv p2, iv p3, iv p4, iv p5, iv (ab3_ p1), iv (ab1_ p1), iv (ab4_ p2), iv (ab2_ p2), iv (ab7_ p3), .unset, .unset, .unset, .unset] [.ref b78, .ref b1, .ref b1])) rfl hml.symm (Steps.refl _) (a := b1) (argsL := [.ref b78]) (rest := [.ref b1]) (lenOf pd2 rfl) rfl (own_hw rfl) (hb hby at_53) (fun _ _ => ⟨rfl, rfl, (lE rfl : 2 + 1 ≤ _), (lE rfl : 5 + 1 ≤ _)⟩)) rfl rfl
    obtain ⟨rfl, N145q, K145q, E145q, C145q, b151, c151_, u151, g151, ne151, V151_, A151_⟩ := hQ145
    have N145 := Fr.app N76 N145q
    have sz_b1 : h0.size ≤ b1 := (Nat.le_of_eq g1.symm)
    have K152 := K82.trans K145q (allS (Or.inr sz_b1) all0)
    have f154 : Safe Z consts_1 s.vm h1 b1 := Safe.ext E1 hC0 (Safe.new (Nat.le_of_eq g1.symm))
    have f155 : Safe Z consts_1 s.vm T76.heap b1 := Safe.keep K76q sf0 C3 f154
    have C153 : CHv Z consts_1 s.vm T145.heap := CHv.keep K145q (sfS f155 sf0) C83
    have R156 : CHr Z consts_1 s.vm h0 s.vm T145.heap := R84.trans (CHr.keep K145q (sfS f155 sf0) C83)
    have pr157 : Pr p e below T145 m 61 #[iv p1, iv p2, iv p3, iv p4, iv p5, iv (ab3_ p1), iv (ab1_ p1), iv (ab4_ p2), iv (ab2_ p2), iv (ab7_ p3), rv b1, .unset, .unset, .unset] [.int p5, .int p4] s₁ en := fun t k => pr86 t (by
     show Sx p e below T76 m 53 #[iv p1, iv p2, iv p3, iv p4, iv p5, iv (ab3_ p1), iv (ab1_ p1), iv (ab4_ p2), iv (ab2_ p2), iv (ab7_ p3), .unset, .unset, .unset, .unset] [.ref b78, .ref b1, .ref b1] _
     refine st145.trans ?_
     refine XS.astore X145.here hx rfl (hb hby at_56) rfl rfl (l' := #[iv p1, iv p2, iv p3, iv p4, iv p5, iv (ab3_ p1), iv (ab1_ p1), iv (ab4_ p2), iv (ab2_ p2), iv (ab7_ p3), rv b1, .unset, .unset, .unset]) rfl ?_
     refine zj X145 Bd at_58 rfl ?_
     refine zi X145 Bd at_59 rfl ?_
     exact k)
    by_cases hc158 : p4 < p5
    ·
     skip
     have pr159 : Pr p e below T145 m 104 #[iv p1, iv p2, iv p3, iv p4, iv p5, iv (ab3_ p1), iv (ab1_ p1), iv (ab4_ p2), iv (ab2_ p2), iv (ab7_ p3), rv b1, iv (ab5_ p3 p4), iv (ab6_ p3 p5), .unset] [] s₁ en := fun t k => pr157 t (by
      show Sx p e below T145 m 61 #[iv p1, iv p2, iv p3, iv p4, iv p5, iv (ab3_ p1), iv (ab1_ p1), iv (ab4_ p2), iv (ab2_ p2), iv (ab7_ p3), rv b1, .unset, .unset, .unset] [.int p5, .int p4] _
      refine zy (pc' := 81) X145 Bd at_61 (XT.ii_lt_t (hc158 : p4 < p5)) rfl ?_
      refine zj X145 Bd at_81 rfl ?_
      refine X145.ldcInt hx hown (mvT hZ (w61_ hw)) (g := (mkF m 82 #[iv p1, iv p2, iv p3, iv p4, iv p5, iv (ab3_ p1), iv (ab1_ p1), iv (ab4_ p2), iv (ab2_ p2), iv (ab7_ p3), rv b1, .unset, .unset, .unset] [.int p4])) rfl (hb hby at_82) _ ?_
      refine XS.iand X145.here hx rfl (hb hby at_84) rfl ?_
      refine zi X145 Bd at_85 rfl ?_
      refine zc X145 Bd at_87 ?_
      refine XS.iadd X145.here hx rfl (hb hby at_88) rfl ?_
      refine iremM X145 hx (g := (mkF m 89 #[iv p1, iv p2, iv p3, iv p4, iv p5, iv (ab3_ p1), iv (ab1_ p1), iv (ab4_ p2), iv (ab2_ p2), iv (ab7_ p3), rv b1, .unset, .unset, .unset] [(.int (ab0_ p3)), (.int (p4 &&& (2147483647 : Int32)))])) rfl (hb hby at_89) rfl (own_sub (p := fun z_ => ¬ ((z_ + (1 : Int32)) = (0 : Int32))) hc75 (by decide)) ?_
      refine zs X145 Bd at_90 (l' := #[iv p1, iv p2, iv p3, iv p4, iv p5, iv (ab3_ p1), iv (ab1_ p1), iv (ab4_ p2), iv (ab2_ p2), iv (ab7_ p3), rv b1, iv (ab5_ p3 p4), .unset, .unset]) rfl ?_
      refine zi X145 Bd at_92 rfl ?_
      refine X145.ldcInt hx hown (mvT hZ (w61_ hw)) (g := (mkF m 94 #[iv p1, iv p2, iv p3, iv p4, iv p5, iv (ab3_ p1), iv (ab1_ p1), iv (ab4_ p2), iv (ab2_ p2), iv (ab7_ p3), rv b1, iv (ab5_ p3 p4), .unset, .unset] [.int p5])) rfl (hb hby at_94) _ ?_
      refine XS.iand X145.here hx rfl (hb hby at_96) rfl ?_
      refine zi X145 Bd at_97 rfl ?_
      refine zc X145 Bd at_99 ?_
      refine XS.iadd X145.here hx rfl (hb hby at_100) rfl ?_
      refine iremM X145 hx (g := (mkF m 101 #[iv p1, iv p2, iv p3, iv p4, iv p5, iv (ab3_ p1), iv (ab1_ p1), iv (ab4_ p2), iv (ab2_ p2), iv (ab7_ p3), rv b1, iv (ab5_ p3 p4), .unset, .unset] [(.int (ab0_ p3)), (.int (p5 &&& (2147483647 : Int32)))])) rfl (hb hby at_101) rfl (own_sub (p := fun z_ => ¬ ((z_ + (1 : Int32)) = (0 : Int32))) hc75 (by decide)) ?_
      refine zs X145 Bd at_102 (l' := #[iv p1, iv p2, iv p3, iv p4, iv p5, iv (ab3_ p1), iv (ab1_ p1), iv (ab4_ p2), iv (ab2_ p2), iv (ab7_ p3), rv b1, iv (ab5_ p3 p4), iv (ab6_ p3 p5), .unset]) rfl ?_
      exact k)
     refine cps (A := ∃ T160 : State, ∃ L160 : List Loc, ∃ h160 : Heap, ∃ ex_ : Int32, Stand p l e room_1 (s.setVm s.vm) m #[.int p1, .int p2, .int p3, .int p4, .int p5] below meth c T160 L160 3 6 ∧ T160.heap = h160 ∧ Fr n0 L160 ∧ Keep T145.heap h160 [] ∧ (ex_ = own_ex (ab5_ p3 p4) (ab6_ p3 p5) (ab3_ p1) (ab1_ p1) (ab4_ p2) (ab2_ p2)) ∧ Pr p e below T160 m 170 #[iv p1, iv p2, iv p3, iv p4, iv p5, iv (ab3_ p1), iv (ab1_ p1), iv (ab4_ p2), iv (ab2_ p2), iv (ab7_ p3), rv b1, iv (ab5_ p3 p4), iv (ab6_ p3 p5), iv ex_] [] s₁ en) (fun kont160 => ?_) (fun hA160 => ?_)
     ·
      skip
      have pr161 : Pr p e below T145 m 108 #[iv p1, iv p2, iv p3, iv p4, iv p5, iv (ab3_ p1), iv (ab1_ p1), iv (ab4_ p2), iv (ab2_ p2), iv (ab7_ p3), rv b1, iv (ab5_ p3 p4), iv (ab6_ p3 p5), .unset] [(.int (ab6_ p3 p5)), (.int (ab5_ p3 p4))] s₁ en := fun t k => pr159 t (by
       show Sx p e below T145 m 104 #[iv p1, iv p2, iv p3, iv p4, iv p5, iv (ab3_ p1), iv (ab1_ p1), iv (ab4_ p2), iv (ab2_ p2), iv (ab7_ p3), rv b1, iv (ab5_ p3 p4), iv (ab6_ p3 p5), .unset] [] _
       refine zi X145 Bd at_104 rfl ?_
       refine zi X145 Bd at_106 rfl ?_
       exact k)
      by_cases hc162 : (ab5_ p3 p4) < (ab6_ p3 p5)
      ·
       skip
       have O164 := O147.keep K145q (allS g_b1 all0)
       obtain ⟨_, T163, L163, X163, hQ163, st163⟩ := own_cS 3 6 [] 118 #[iv p1, iv p2, iv p3, iv p4, iv p5, iv (ab3_ p1), iv (ab1_ p1), iv (ab4_ p2), iv (ab2_ p2), iv (ab7_ p3), rv b1, iv (ab5_ p3 p4), iv (ab6_ p3 p5), .unset] X145 hx hZ hown (w62_ hw) (w63_ hw) (w6_ hw) (w64_ hw) (rm4 l Z a0 hw  (ab5_ p3 p4) (ab6_ p3 p5) (ab3_ p1) T145.heap n0 O164 ) pd3 hml.symm (hb hby at_118) rfl rfl rfl rfl rfl (by decide)
       obtain ⟨rfl, N163q, e163q⟩ := hQ163
       have N163 := Fr.app N145 N163q
       have pr165 : Pr p e below T163 m 121 #[iv p1, iv p2, iv p3, iv p4, iv p5, iv (ab3_ p1), iv (ab1_ p1), iv (ab4_ p2), iv (ab2_ p2), iv (ab7_ p3), rv b1, iv (ab5_ p3 p4), iv (ab6_ p3 p5), .unset] [(.int (own_fine (0 : Int32) (ab5_ p3 p4) (ab6_ p3 p5) (ab3_ p1)))] s₁ en := fun t k => pr161 t (by
        show Sx p e below T145 m 108 #[iv p1, iv p2, iv p3, iv p4, iv p5, iv (ab3_ p1), iv (ab1_ p1), iv (ab4_ p2), iv (ab2_ p2), iv (ab7_ p3), rv b1, iv (ab5_ p3 p4), iv (ab6_ p3 p5), .unset] [(.int (ab6_ p3 p5)), (.int (ab5_ p3 p4))] _
        refine zn X145 Bd at_108 (XT.ii_ge_f (hc162 : (ab5_ p3 p4) < (ab6_ p3 p5))) ?_
        refine zc X145 Bd at_111 ?_
        refine zi X145 Bd at_112 rfl ?_
        refine zi X145 Bd at_114 rfl ?_
        refine zi X145 Bd at_116 rfl ?_
        refine st163 _ ?_
        exact k)
       by_cases hc166 : (own_fine (0 : Int32) (ab5_ p3 p4) (ab6_ p3 p5) (ab3_ p1)) = (0 : Int32)
       ·
        skip
        have pr167 : Pr p e below T163 m 170 #[iv p1, iv p2, iv p3, iv p4, iv p5, iv (ab3_ p1), iv (ab1_ p1), iv (ab4_ p2), iv (ab2_ p2), iv (ab7_ p3), rv b1, iv (ab5_ p3 p4), iv (ab6_ p3 p5), iv 0] [] s₁ en := fun t k => pr165 t (by
         show Sx p e below T163 m 121 #[iv p1, iv p2, iv p3, iv p4, iv p5, iv (ab3_ p1), iv (ab1_ p1), iv (ab4_ p2), iv (ab2_ p2), iv (ab7_ p3), rv b1, iv (ab5_ p3 p4), iv (ab6_ p3 p5), .unset] [(.int (own_fine (0 : Int32) (ab5_ p3 p4) (ab6_ p3 p5) (ab3_ p1)))] _
         refine zp (pc' := 167) X163 Bd at_121 (XT.i0_eq_t (hc166 : (own_fine (0 : Int32) (ab5_ p3 p4) (ab6_ p3 p5) (ab3_ p1)) = (0 : Int32))) rfl ?_
         refine zc X163 Bd at_167 ?_
         refine zs X163 Bd at_168 (l' := #[iv p1, iv p2, iv p3, iv p4, iv p5, iv (ab3_ p1), iv (ab1_ p1), iv (ab4_ p2), iv (ab2_ p2), iv (ab7_ p3), rv b1, iv (ab5_ p3 p4), iv (ab6_ p3 p5), iv 0]) rfl ?_
         exact k)
        exact kont160 ⟨T163, _, T145.heap, (0 : Int32), (X163.mono (lE rfl) (lE rfl)), e163q, N163, (Keep.refl T145.heap []), (by rw [own_ex, if_pos hc162, if_pos hc166]), (fun t k => pr167 t k)⟩
       ·
        skip
        obtain ⟨_, T168, L168, X168, hQ168, st168⟩ := own_cS 3 6 [] 131 #[iv p1, iv p2, iv p3, iv p4, iv p5, iv (ab3_ p1), iv (ab1_ p1), iv (ab4_ p2), iv (ab2_ p2), iv (ab7_ p3), rv b1, iv (ab5_ p3 p4), iv (ab6_ p3 p5), .unset] X163 hx hZ hown (w62_ hw) (w63_ hw) (w6_ hw) (w64_ hw) (rm5 l Z a0 hw  (ab5_ p3 p4) (ab6_ p3 p5) (ab1_ p1) T145.heap n0 O164 ) pd3 hml.symm (hb hby at_131) e163q rfl rfl rfl rfl (by decide)
        obtain ⟨rfl, N168q, e168q⟩ := hQ168
        have N168 := Fr.app N163 N168q
        have pr169 : Pr p e below T168 m 134 #[iv p1, iv p2, iv p3, iv p4, iv p5, iv (ab3_ p1), iv (ab1_ p1), iv (ab4_ p2), iv (ab2_ p2), iv (ab7_ p3), rv b1, iv (ab5_ p3 p4), iv (ab6_ p3 p5), .unset] [(.int (own_fine (1 : Int32) (ab5_ p3 p4) (ab6_ p3 p5) (ab1_ p1)))] s₁ en := fun t k => pr165 t (by
         show Sx p e below T163 m 121 #[iv p1, iv p2, iv p3, iv p4, iv p5, iv (ab3_ p1), iv (ab1_ p1), iv (ab4_ p2), iv (ab2_ p2), iv (ab7_ p3), rv b1, iv (ab5_ p3 p4), iv (ab6_ p3 p5), .unset] [(.int (own_fine (0 : Int32) (ab5_ p3 p4) (ab6_ p3 p5) (ab3_ p1)))] _
         refine zo X163 Bd at_121 (XT.i0_eq_f (hc166 : ¬ ((own_fine (0 : Int32) (ab5_ p3 p4) (ab6_ p3 p5) (ab3_ p1)) = (0 : Int32)))) ?_
         refine zc X163 Bd at_124 ?_
         refine zi X163 Bd at_125 rfl ?_
         refine zi X163 Bd at_127 rfl ?_
         refine zi X163 Bd at_129 rfl ?_
         refine st168 _ ?_
         exact k)
        by_cases hc170 : (own_fine (1 : Int32) (ab5_ p3 p4) (ab6_ p3 p5) (ab1_ p1)) = (0 : Int32)
        ·
         skip
         have pr171 : Pr p e below T168 m 170 #[iv p1, iv p2, iv p3, iv p4, iv p5, iv (ab3_ p1), iv (ab1_ p1), iv (ab4_ p2), iv (ab2_ p2), iv (ab7_ p3), rv b1, iv (ab5_ p3 p4), iv (ab6_ p3 p5), iv 0] [] s₁ en := fun t k => pr169 t (by
          show Sx p e below T168 m 134 #[iv p1, iv p2, iv p3, iv p4, iv p5, iv (ab3_ p1), iv (ab1_ p1), iv (ab4_ p2), iv (ab2_ p2), iv (ab7_ p3), rv b1, iv (ab5_ p3 p4), iv (ab6_ p3 p5), .unset] [(.int (own_fine (1 : Int32) (ab5_ p3 p4) (ab6_ p3 p5) (ab1_ p1)))] _
          refine zp (pc' := 167) X168 Bd at_134 (XT.i0_eq_t (hc170 : (own_fine (1 : Int32) (ab5_ p3 p4) (ab6_ p3 p5) (ab1_ p1)) = (0 : Int32))) rfl ?_
          refine zc X168 Bd at_167 ?_
          refine zs X168 Bd at_168 (l' := #[iv p1, iv p2, iv p3, iv p4, iv p5, iv (ab3_ p1), iv (ab1_ p1), iv (ab4_ p2), iv (ab2_ p2), iv (ab7_ p3), rv b1, iv (ab5_ p3 p4), iv (ab6_ p3 p5), iv 0]) rfl ?_
          exact k)
         exact kont160 ⟨T168, _, T145.heap, (0 : Int32), (X168.mono (lE rfl) (lE rfl)), e168q, N168, (Keep.refl T145.heap []), (by rw [own_ex, if_pos hc162, if_neg hc166, if_pos hc170]), (fun t k => pr171 t k)⟩
        ·
         skip
         obtain ⟨_, T172, L172, X172, hQ172, st172⟩ := own_cS 3 6 [] 144 #[iv p1, iv p2, iv p3, iv p4, iv p5, iv (ab3_ p1), iv (ab1_ p1), iv (ab4_ p2), iv (ab2_ p2), iv (ab7_ p3), rv b1, iv (ab5_ p3 p4), iv (ab6_ p3 p5), .unset] X168 hx hZ hown (w62_ hw) (w63_ hw) (w6_ hw) (w64_ hw) (rm6 l Z a0 hw  (ab5_ p3 p4) (ab6_ p3 p5) (ab4_ p2) T145.heap n0 O164 ) pd3 hml.symm (hb hby at_144) e168q rfl rfl rfl rfl (by decide)
         obtain ⟨rfl, N172q, e172q⟩ := hQ172
         have N172 := Fr.app N168 N172q
         have pr173 : Pr p e below T172 m 147 #[iv p1, iv p2, iv p3, iv p4, iv p5, iv (ab3_ p1), iv (ab1_ p1), iv (ab4_ p2), iv (ab2_ p2), iv (ab7_ p3), rv b1, iv (ab5_ p3 p4), iv (ab6_ p3 p5), .unset] [(.int (own_fine (2 : Int32) (ab5_ p3 p4) (ab6_ p3 p5) (ab4_ p2)))] s₁ en := fun t k => pr169 t (by
          show Sx p e below T168 m 134 #[iv p1, iv p2, iv p3, iv p4, iv p5, iv (ab3_ p1), iv (ab1_ p1), iv (ab4_ p2), iv (ab2_ p2), iv (ab7_ p3), rv b1, iv (ab5_ p3 p4), iv (ab6_ p3 p5), .unset] [(.int (own_fine (1 : Int32) (ab5_ p3 p4) (ab6_ p3 p5) (ab1_ p1)))] _
          refine zo X168 Bd at_134 (XT.i0_eq_f (hc170 : ¬ ((own_fine (1 : Int32) (ab5_ p3 p4) (ab6_ p3 p5) (ab1_ p1)) = (0 : Int32)))) ?_
          refine zc X168 Bd at_137 ?_
          refine zi X168 Bd at_138 rfl ?_
          refine zi X168 Bd at_140 rfl ?_
          refine zi X168 Bd at_142 rfl ?_
          refine st172 _ ?_
          exact k)
         by_cases hc174 : (own_fine (2 : Int32) (ab5_ p3 p4) (ab6_ p3 p5) (ab4_ p2)) = (0 : Int32)
         ·
          skip
          have pr175 : Pr p e below T172 m 170 #[iv p1, iv p2, iv p3, iv p4, iv p5, iv (ab3_ p1), iv (ab1_ p1), iv (ab4_ p2), iv (ab2_ p2), iv (ab7_ p3), rv b1, iv (ab5_ p3 p4), iv (ab6_ p3 p5), iv 0] [] s₁ en := fun t k => pr173 t (by
           show Sx p e below T172 m 147 #[iv p1, iv p2, iv p3, iv p4, iv p5, iv (ab3_ p1), iv (ab1_ p1), iv (ab4_ p2), iv (ab2_ p2), iv (ab7_ p3), rv b1, iv (ab5_ p3 p4), iv (ab6_ p3 p5), .unset] [(.int (own_fine (2 : Int32) (ab5_ p3 p4) (ab6_ p3 p5) (ab4_ p2)))] _
           refine zp (pc' := 167) X172 Bd at_147 (XT.i0_eq_t (hc174 : (own_fine (2 : Int32) (ab5_ p3 p4) (ab6_ p3 p5) (ab4_ p2)) = (0 : Int32))) rfl ?_
           refine zc X172 Bd at_167 ?_
           refine zs X172 Bd at_168 (l' := #[iv p1, iv p2, iv p3, iv p4, iv p5, iv (ab3_ p1), iv (ab1_ p1), iv (ab4_ p2), iv (ab2_ p2), iv (ab7_ p3), rv b1, iv (ab5_ p3 p4), iv (ab6_ p3 p5), iv 0]) rfl ?_
           exact k)
          exact kont160 ⟨T172, _, T145.heap, (0 : Int32), (X172.mono (lE rfl) (lE rfl)), e172q, N172, (Keep.refl T145.heap []), (by rw [own_ex, if_pos hc162, if_neg hc166, if_neg hc170, if_pos hc174]), (fun t k => pr175 t k)⟩
         ·
          skip
          obtain ⟨_, T176, L176, X176, hQ176, st176⟩ := own_cS 3 6 [] 157 #[iv p1, iv p2, iv p3, iv p4, iv p5, iv (ab3_ p1), iv (ab1_ p1), iv (ab4_ p2), iv (ab2_ p2), iv (ab7_ p3), rv b1, iv (ab5_ p3 p4), iv (ab6_ p3 p5), .unset] X172 hx hZ hown (w62_ hw) (w63_ hw) (w6_ hw) (w64_ hw) (rm7 l Z a0 hw  (ab5_ p3 p4) (ab6_ p3 p5) (ab2_ p2) T145.heap n0 O164 ) pd3 hml.symm (hb hby at_157) e172q rfl rfl rfl rfl (by decide)
          obtain ⟨rfl, N176q, e176q⟩ := hQ176
          have N176 := Fr.app N172 N176q
          have pr177 : Pr p e below T176 m 160 #[iv p1, iv p2, iv p3, iv p4, iv p5, iv (ab3_ p1), iv (ab1_ p1), iv (ab4_ p2), iv (ab2_ p2), iv (ab7_ p3), rv b1, iv (ab5_ p3 p4), iv (ab6_ p3 p5), .unset] [(.int (own_fine (3 : Int32) (ab5_ p3 p4) (ab6_ p3 p5) (ab2_ p2)))] s₁ en := fun t k => pr173 t (by
           show Sx p e below T172 m 147 #[iv p1, iv p2, iv p3, iv p4, iv p5, iv (ab3_ p1), iv (ab1_ p1), iv (ab4_ p2), iv (ab2_ p2), iv (ab7_ p3), rv b1, iv (ab5_ p3 p4), iv (ab6_ p3 p5), .unset] [(.int (own_fine (2 : Int32) (ab5_ p3 p4) (ab6_ p3 p5) (ab4_ p2)))] _
           refine zo X172 Bd at_147 (XT.i0_eq_f (hc174 : ¬ ((own_fine (2 : Int32) (ab5_ p3 p4) (ab6_ p3 p5) (ab4_ p2)) = (0 : Int32)))) ?_
           refine zc X172 Bd at_150 ?_
           refine zi X172 Bd at_151 rfl ?_
           refine zi X172 Bd at_153 rfl ?_
           refine zi X172 Bd at_155 rfl ?_
           refine st176 _ ?_
           exact k)
          by_cases hc178 : (own_fine (3 : Int32) (ab5_ p3 p4) (ab6_ p3 p5) (ab2_ p2)) = (0 : Int32)
          ·
           skip
           have pr179 : Pr p e below T176 m 170 #[iv p1, iv p2, iv p3, iv p4, iv p5, iv (ab3_ p1), iv (ab1_ p1), iv (ab4_ p2), iv (ab2_ p2), iv (ab7_ p3), rv b1, iv (ab5_ p3 p4), iv (ab6_ p3 p5), iv 0] [] s₁ en := fun t k => pr177 t (by
            show Sx p e below T176 m 160 #[iv p1, iv p2, iv p3, iv p4, iv p5, iv (ab3_ p1), iv (ab1_ p1), iv (ab4_ p2), iv (ab2_ p2), iv (ab7_ p3), rv b1, iv (ab5_ p3 p4), iv (ab6_ p3 p5), .unset] [(.int (own_fine (3 : Int32) (ab5_ p3 p4) (ab6_ p3 p5) (ab2_ p2)))] _
            refine zp (pc' := 167) X176 Bd at_160 (XT.i0_eq_t (hc178 : (own_fine (3 : Int32) (ab5_ p3 p4) (ab6_ p3 p5) (ab2_ p2)) = (0 : Int32))) rfl ?_
            refine zc X176 Bd at_167 ?_
            refine zs X176 Bd at_168 (l' := #[iv p1, iv p2, iv p3, iv p4, iv p5, iv (ab3_ p1), iv (ab1_ p1), iv (ab4_ p2), iv (ab2_ p2), iv (ab7_ p3), rv b1, iv (ab5_ p3 p4), iv (ab6_ p3 p5), iv 0]) rfl ?_
            exact k)
           exact kont160 ⟨T176, _, T145.heap, (0 : Int32), (X176.mono (lE rfl) (lE rfl)), e176q, N176, (Keep.refl T145.heap []), (by rw [own_ex, if_pos hc162, if_neg hc166, if_neg hc170, if_neg hc174, if_pos hc178]), (fun t k => pr179 t k)⟩
          ·
           skip
           have pr180 : Pr p e below T176 m 170 #[iv p1, iv p2, iv p3, iv p4, iv p5, iv (ab3_ p1), iv (ab1_ p1), iv (ab4_ p2), iv (ab2_ p2), iv (ab7_ p3), rv b1, iv (ab5_ p3 p4), iv (ab6_ p3 p5), iv 1] [] s₁ en := fun t k => pr177 t (by
            show Sx p e below T176 m 160 #[iv p1, iv p2, iv p3, iv p4, iv p5, iv (ab3_ p1), iv (ab1_ p1), iv (ab4_ p2), iv (ab2_ p2), iv (ab7_ p3), rv b1, iv (ab5_ p3 p4), iv (ab6_ p3 p5), .unset] [(.int (own_fine (3 : Int32) (ab5_ p3 p4) (ab6_ p3 p5) (ab2_ p2)))] _
            refine zo X176 Bd at_160 (XT.i0_eq_f (hc178 : ¬ ((own_fine (3 : Int32) (ab5_ p3 p4) (ab6_ p3 p5) (ab2_ p2)) = (0 : Int32)))) ?_
            refine zc X176 Bd at_163 ?_
            refine zg (pc' := 168) X176 Bd at_164 rfl ?_
            refine zs X176 Bd at_168 (l' := #[iv p1, iv p2, iv p3, iv p4, iv p5, iv (ab3_ p1), iv (ab1_ p1), iv (ab4_ p2), iv (ab2_ p2), iv (ab7_ p3), rv b1, iv (ab5_ p3 p4), iv (ab6_ p3 p5), iv 1]) rfl ?_
            exact k)
           exact kont160 ⟨T176, _, T145.heap, (1 : Int32), (X176.mono (lE rfl) (lE rfl)), e176q, N176, (Keep.refl T145.heap []), (by rw [own_ex, if_pos hc162, if_neg hc166, if_neg hc170, if_neg hc174, if_neg hc178]), (fun t k => pr180 t k)⟩
      ·
       skip
       have pr181 : Pr p e below T145 m 170 #[iv p1, iv p2, iv p3, iv p4, iv p5, iv (ab3_ p1), iv (ab1_ p1), iv (ab4_ p2), iv (ab2_ p2), iv (ab7_ p3), rv b1, iv (ab5_ p3 p4), iv (ab6_ p3 p5), iv 0] [] s₁ en := fun t k => pr161 t (by
        show Sx p e below T145 m 108 #[iv p1, iv p2, iv p3, iv p4, iv p5, iv (ab3_ p1), iv (ab1_ p1), iv (ab4_ p2), iv (ab2_ p2), iv (ab7_ p3), rv b1, iv (ab5_ p3 p4), iv (ab6_ p3 p5), .unset] [(.int (ab6_ p3 p5)), (.int (ab5_ p3 p4))] _
        refine zy (pc' := 167) X145 Bd at_108 (XT.ii_ge_t (hc162 : ¬ ((ab5_ p3 p4) < (ab6_ p3 p5)))) rfl ?_
        refine zc X145 Bd at_167 ?_
        refine zs X145 Bd at_168 (l' := #[iv p1, iv p2, iv p3, iv p4, iv p5, iv (ab3_ p1), iv (ab1_ p1), iv (ab4_ p2), iv (ab2_ p2), iv (ab7_ p3), rv b1, iv (ab5_ p3 p4), iv (ab6_ p3 p5), iv 0]) rfl ?_
        exact k)
       exact kont160 ⟨T145, _, T145.heap, (0 : Int32), (X145.mono (lE rfl) (lE rfl)), rfl, N145, (Keep.refl T145.heap []), (by rw [own_ex, if_neg hc162]), (fun t k => pr181 t k)⟩
     ·
      obtain ⟨T160, L160, h160, ex_, X160, e160, N160, K160j, hp160_0, pr160⟩ := hA160
      have K182 := K152.trans K160j (fun x q => nomatch q)
      have C183 : CHv Z consts_1 s.vm h160 := CHv.keep K160j sf0 C153
      have R184 : CHr Z consts_1 s.vm h0 s.vm h160 := R156.trans (CHr.keep K160j sf0 C153)
      have F186_ := V151_.keep K160j nin0
      have F187_ := C145q.keep K160j nin0
      have A188_ := A151_.keep K160j nin0
      have E189_ := E148_.keep K145q
      have E190_ := E189_.keep K160j
      have O191 := O147.keep K145q (allS g_b1 all0)
      have O192 := O191.keep K160j all0
      obtain ⟨_, T185, L185, X185, hQ185, st185⟩ := own_cS 3 6 [] 176 #[iv p1, iv p2, iv p3, iv p4, iv p5, iv (ab3_ p1), iv (ab1_ p1), iv (ab4_ p2), iv (ab2_ p2), iv (ab7_ p3), rv b1, iv (ab5_ p3 p4), iv (ab6_ p3 p5), iv ex_] X160 hx hZ hown (w35_ hw) (w36_ hw) (w37_ hw) (w38_ hw) (rm29 l Z a0 hw G3 G1 b1 (ab5_ p3 p4) (ab6_ p3 p5) b151 c151_ (ab3_ p1) h160 n0 O192 O4 rG3 O2 P5 F186_ F187_ A188_ hp146 E190_ (own_rb p4 hc75 (k := 1) (by decide)).1 (own_rb p5 hc75 (k := 1) (by decide)).2) pd5 hml.symm (hb hby at_176) e160 rfl rfl rfl rfl (by decide)
      obtain ⟨rfl, N185q, e185q⟩ := hQ185
      have N185 := Fr.app N160 N185q
      have hk193' : _ ≤ h160.size := (Nat.le_trans (Nat.le_trans (Nat.le_trans (Nat.le_trans hk0 E1.1) K76q.1) K145q.1) K160j.1)
      refine own_lvW X185 Bd.notSynchronized hS0 hk193' (v := (some (.int 1))) (fun h => by rw [Bd.returns] at h; cases h) e185q hh ⟨rfl, N185⟩ (R184.trans (CHv.at X185 hZ hEL C183)) (lE rfl) (lE rfl) (fun fs hr => pr160 _ (by
       show Sx p e below T160 m 170 #[iv p1, iv p2, iv p3, iv p4, iv p5, iv (ab3_ p1), iv (ab1_ p1), iv (ab4_ p2), iv (ab2_ p2), iv (ab7_ p3), rv b1, iv (ab5_ p3 p4), iv (ab6_ p3 p5), iv ex_] [] _
       refine za X160 Bd at_170 rfl rfl ?_
       refine zi X160 Bd at_172 rfl ?_
       refine zi X160 Bd at_174 rfl ?_
       refine st185 _ ?_
       refine zi X185 Bd at_179 rfl ?_
       refine zn X185 Bd at_181 (XT.ii_ne_f (((own_fin1 (ab5_ p3 p4) (ab6_ p3 p5) (ab3_ p1) (ab1_ p1) (ab4_ p2) (ab2_ p2) (own_rb p4 hc75 (k := 1) (by decide)).1 (own_rb p4 hc75 (k := 1) (by decide)).2 (own_rb p5 hc75 (k := 1) (by decide)).1 (own_rb p5 hc75 (k := 1) (by decide)).2).trans hp160_0.symm) : (own_isd ([(ab3_ p1)] : List Int32) (ab5_ p3 p4) (ab6_ p3 p5)) = ex_)) ?_
       refine zc X185 Bd at_184 ?_
       refine zg (pc' := 189) X185 Bd at_185 rfl ?_
       exact retN X185 hx (t := .boolean) Bd.returns (by simp) (hb hby at_189) hr))
    ·
     skip
     have O195 := O147.keep K145q (allS g_b1 all0)
     obtain ⟨_, T194, L194, X194, hQ194, st194⟩ := own_cS 3 6 [] 69 #[iv p1, iv p2, iv p3, iv p4, iv p5, iv (ab3_ p1), iv (ab1_ p1), iv (ab4_ p2), iv (ab2_ p2), iv (ab7_ p3), rv b1, .unset, .unset, .unset] X145 hx hZ hown (w35_ hw) (w36_ hw) (w37_ hw) (w38_ hw) (rm9 l Z a0 hw  b1 p4 p5 T145.heap n0 O195 hc158) pd5 hml.symm (hb hby at_69) rfl rfl rfl rfl rfl (by decide)
     obtain ⟨rfl, N194q, e194q⟩ := hQ194
     have N194 := Fr.app N145 N194q
     have hk196' : _ ≤ T145.heap.size := (Nat.le_trans (Nat.le_trans (Nat.le_trans hk0 E1.1) K76q.1) K145q.1)
     refine own_lvW X194 Bd.notSynchronized hS0 hk196' (v := (some (.int 1))) (fun h => by rw [Bd.returns] at h; cases h) e194q hh ⟨rfl, N194⟩ (R156.trans (CHv.at X194 hZ hEL C153)) (lE rfl) (lE rfl) (fun fs hr => pr157 _ (by
      show Sx p e below T145 m 61 #[iv p1, iv p2, iv p3, iv p4, iv p5, iv (ab3_ p1), iv (ab1_ p1), iv (ab4_ p2), iv (ab2_ p2), iv (ab7_ p3), rv b1, .unset, .unset, .unset] [.int p5, .int p4] _
      refine zn X145 Bd at_61 (XT.ii_lt_f (hc158 : ¬ (p4 < p5))) ?_
      refine za X145 Bd at_64 rfl rfl ?_
      refine zj X145 Bd at_66 rfl ?_
      refine zi X145 Bd at_67 rfl ?_
      refine st194 _ ?_
      refine zo X194 Bd at_72 (XT.i0_ne_f ((by decide) : (0 : Int32) = (0 : Int32))) ?_
      refine zc X194 Bd at_75 ?_
      refine zg (pc' := 80) X194 Bd at_76 rfl ?_
      exact retN X194 hx (t := .boolean) Bd.returns (by simp) (hb hby at_80) hr))
  ·
   skip
   by_cases hc198 : (ab7_ p3) = (2 : Int32)
   ·
    skip
    have O200 := X00.ext E1
    obtain ⟨_, T199, L199, X199, hQ199, st199⟩ := own_cS 2 6 [.ref b1, .ref b1] 50 #[iv p1, iv p2, iv p3, iv p4, iv p5, iv (ab3_ p1), iv (ab1_ p1), iv (ab4_ p2), iv (ab2_ p2), iv (ab7_ p3), .unset, .unset, .unset, .unset] X1 hx hZ hown (w4_ hw) (w5_ hw) (w6_ hw) (w7_ hw) (rm30 l Z a0 hw  (ab7_ p3) (ab3_ p1) (ab1_ p1) (ab4_ p2) (ab2_ p2) h1 n0 O200 hc9 hc75 hc198 (own_nar_i2c _) (own_nar_i2c _)) pd0 hml.symm (hb hby at_50) e1 rfl rfl rfl rfl (by decide)
    obtain ⟨b201, c202_, rfl, N199q, K199q, w203, w204⟩ := hQ199
    have N199 := Fr.app N0 N199q
    have K205 := K2.trans K199q (fun x q => nomatch q)
    have C206 : CHv Z consts_1 s.vm T199.heap := CHv.keep K199q sf0 C3
    have R207 : CHr Z consts_1 s.vm h0 s.vm T199.heap := R4.trans (CHr.keep K199q sf0 C3)
    have pr209 : Pr p e below T199 m 53 #[iv p1, iv p2, iv p3, iv p4, iv p5, iv (ab3_ p1), iv (ab1_ p1), iv (ab4_ p2), iv (ab2_ p2), iv (ab7_ p3), .unset, .unset, .unset, .unset] [.ref b201, .ref b1, .ref b1] s₁ en := fun t k => pr8 t (by
     show Sx p e below T1 m 50 #[iv p1, iv p2, iv p3, iv p4, iv p5, iv (ab3_ p1), iv (ab1_ p1), iv (ab4_ p2), iv (ab2_ p2), iv (ab7_ p3), .unset, .unset, .unset, .unset] [(.int (ab2_ p2)), (.int (ab4_ p2)), (.int (ab1_ p1)), (.int (ab3_ p1)), (.int (ab7_ p3)), .ref b1, .ref b1] _
     refine st199 _ ?_
     exact k)
    by_cases hc210 : (255 : Int32) < (own_max ([(ab3_ p1), (ab1_ p1)] : List Int32))
    ·
     skip
     have E212_ := A1.keep K199q
     have F213_ := F5_.keep K199q nin0
     have g_b1 : n0 ≤ b1 := Nat.le_trans (Nat.le_trans (Nat.le_of_eq X00.1.symm) X00.2.1) (Nat.le_of_eq g1.symm)
     have F214_ := F6_.keep K199q nin0
     have O215 := O200.keep K199q all0
     obtain ⟨_, T211, L211, X211, hQ211, st211⟩ := own_cI 4 12 [.ref b1] 53 #[iv p1, iv p2, iv p3, iv p4, iv p5, iv (ab3_ p1), iv (ab1_ p1), iv (ab4_ p2), iv (ab2_ p2), iv (ab7_ p3), .unset, .unset, .unset, .unset] X199 hx hZ hown (w9_ hw) (w10_ hw) (w3_ hw) (w11_ hw) (rm41 l Z a0 hw G1 b1 b201 c202_ (ab3_ p1) (ab1_ p1) T199.heap n0 O215 O2 P5 uS12 uS15 uS18 w204 hc210 (own_nar_i2c _) (own_nar_i2c _) E212_ F213_ g_b1 F214_) pd2 hml.symm (hb hby at_53) rfl rfl rfl rfl rfl rfl (by decide)
     obtain ⟨b216, c217_, rfl, N211q, K211q, w218, w219, w220, w221, w222⟩ := hQ211
     have N211 := Fr.app N199 N211q
     have sz_b1 : h0.size ≤ b1 := (Nat.le_of_eq g1.symm)
     have K223 := K205.trans K211q (allS (Or.inr sz_b1) all0)
     have f225 : Safe Z consts_1 s.vm h1 b1 := Safe.ext E1 hC0 (Safe.new (Nat.le_of_eq g1.symm))
     have f226 : Safe Z consts_1 s.vm T199.heap b1 := Safe.keep K199q sf0 C3 f225
     have C224 : CHv Z consts_1 s.vm T211.heap := CHv.keep K211q (sfS f226 sf0) C206
     have R227 : CHr Z consts_1 s.vm h0 s.vm T211.heap := R207.trans (CHr.keep K211q (sfS f226 sf0) C206)
     have pr228 : Pr p e below T211 m 61 #[iv p1, iv p2, iv p3, iv p4, iv p5, iv (ab3_ p1), iv (ab1_ p1), iv (ab4_ p2), iv (ab2_ p2), iv (ab7_ p3), rv b1, .unset, .unset, .unset] [.int p5, .int p4] s₁ en := fun t k => pr209 t (by
      show Sx p e below T199 m 53 #[iv p1, iv p2, iv p3, iv p4, iv p5, iv (ab3_ p1), iv (ab1_ p1), iv (ab4_ p2), iv (ab2_ p2), iv (ab7_ p3), .unset, .unset, .unset, .unset] [.ref b201, .ref b1, .ref b1] _
      refine st211 _ ?_
      refine XS.astore X211.here hx rfl (hb hby at_56) rfl rfl (l' := #[iv p1, iv p2, iv p3, iv p4, iv p5, iv (ab3_ p1), iv (ab1_ p1), iv (ab4_ p2), iv (ab2_ p2), iv (ab7_ p3), rv b1, .unset, .unset, .unset]) rfl ?_
      refine zj X211 Bd at_58 rfl ?_
      refine zi X211 Bd at_59 rfl ?_
      exact k)
     by_cases hc229 : p4 < p5
     ·
      skip
      have pr230 : Pr p e below T211 m 104 #[iv p1, iv p2, iv p3, iv p4, iv p5, iv (ab3_ p1), iv (ab1_ p1), iv (ab4_ p2), iv (ab2_ p2), iv (ab7_ p3), rv b1, iv (ab5_ p3 p4), iv (ab6_ p3 p5), .unset] [] s₁ en := fun t k => pr228 t (by
       show Sx p e below T211 m 61 #[iv p1, iv p2, iv p3, iv p4, iv p5, iv (ab3_ p1), iv (ab1_ p1), iv (ab4_ p2), iv (ab2_ p2), iv (ab7_ p3), rv b1, .unset, .unset, .unset] [.int p5, .int p4] _
       refine zy (pc' := 81) X211 Bd at_61 (XT.ii_lt_t (hc229 : p4 < p5)) rfl ?_
       refine zj X211 Bd at_81 rfl ?_
       refine X211.ldcInt hx hown (mvT hZ (w61_ hw)) (g := (mkF m 82 #[iv p1, iv p2, iv p3, iv p4, iv p5, iv (ab3_ p1), iv (ab1_ p1), iv (ab4_ p2), iv (ab2_ p2), iv (ab7_ p3), rv b1, .unset, .unset, .unset] [.int p4])) rfl (hb hby at_82) _ ?_
       refine XS.iand X211.here hx rfl (hb hby at_84) rfl ?_
       refine zi X211 Bd at_85 rfl ?_
       refine zc X211 Bd at_87 ?_
       refine XS.iadd X211.here hx rfl (hb hby at_88) rfl ?_
       refine iremM X211 hx (g := (mkF m 89 #[iv p1, iv p2, iv p3, iv p4, iv p5, iv (ab3_ p1), iv (ab1_ p1), iv (ab4_ p2), iv (ab2_ p2), iv (ab7_ p3), rv b1, .unset, .unset, .unset] [(.int (ab0_ p3)), (.int (p4 &&& (2147483647 : Int32)))])) rfl (hb hby at_89) rfl (own_sub (p := fun z_ => ¬ ((z_ + (1 : Int32)) = (0 : Int32))) hc198 (by decide)) ?_
       refine zs X211 Bd at_90 (l' := #[iv p1, iv p2, iv p3, iv p4, iv p5, iv (ab3_ p1), iv (ab1_ p1), iv (ab4_ p2), iv (ab2_ p2), iv (ab7_ p3), rv b1, iv (ab5_ p3 p4), .unset, .unset]) rfl ?_
       refine zi X211 Bd at_92 rfl ?_
       refine X211.ldcInt hx hown (mvT hZ (w61_ hw)) (g := (mkF m 94 #[iv p1, iv p2, iv p3, iv p4, iv p5, iv (ab3_ p1), iv (ab1_ p1), iv (ab4_ p2), iv (ab2_ p2), iv (ab7_ p3), rv b1, iv (ab5_ p3 p4), .unset, .unset] [.int p5])) rfl (hb hby at_94) _ ?_
       refine XS.iand X211.here hx rfl (hb hby at_96) rfl ?_
       refine zi X211 Bd at_97 rfl ?_
       refine zc X211 Bd at_99 ?_
       refine XS.iadd X211.here hx rfl (hb hby at_100) rfl ?_
       refine iremM X211 hx (g := (mkF m 101 #[iv p1, iv p2, iv p3, iv p4, iv p5, iv (ab3_ p1), iv (ab1_ p1), iv (ab4_ p2), iv (ab2_ p2), iv (ab7_ p3), rv b1, iv (ab5_ p3 p4), .unset, .unset] [(.int (ab0_ p3)), (.int (p5 &&& (2147483647 : Int32)))])) rfl (hb hby at_101) rfl (own_sub (p := fun z_ => ¬ ((z_ + (1 : Int32)) = (0 : Int32))) hc198 (by decide)) ?_
       refine zs X211 Bd at_102 (l' := #[iv p1, iv p2, iv p3, iv p4, iv p5, iv (ab3_ p1), iv (ab1_ p1), iv (ab4_ p2), iv (ab2_ p2), iv (ab7_ p3), rv b1, iv (ab5_ p3 p4), iv (ab6_ p3 p5), .unset]) rfl ?_
       exact k)
      refine cps (A := ∃ T231 : State, ∃ L231 : List Loc, ∃ h231 : Heap, ∃ ex_ : Int32, Stand p l e room_1 (s.setVm s.vm) m #[.int p1, .int p2, .int p3, .int p4, .int p5] below meth c T231 L231 4 12 ∧ T231.heap = h231 ∧ Fr n0 L231 ∧ Keep T211.heap h231 [] ∧ (ex_ = own_ex (ab5_ p3 p4) (ab6_ p3 p5) (ab3_ p1) (ab1_ p1) (ab4_ p2) (ab2_ p2)) ∧ Pr p e below T231 m 170 #[iv p1, iv p2, iv p3, iv p4, iv p5, iv (ab3_ p1), iv (ab1_ p1), iv (ab4_ p2), iv (ab2_ p2), iv (ab7_ p3), rv b1, iv (ab5_ p3 p4), iv (ab6_ p3 p5), iv ex_] [] s₁ en) (fun kont231 => ?_) (fun hA231 => ?_)
      ·
       skip
       have pr232 : Pr p e below T211 m 108 #[iv p1, iv p2, iv p3, iv p4, iv p5, iv (ab3_ p1), iv (ab1_ p1), iv (ab4_ p2), iv (ab2_ p2), iv (ab7_ p3), rv b1, iv (ab5_ p3 p4), iv (ab6_ p3 p5), .unset] [(.int (ab6_ p3 p5)), (.int (ab5_ p3 p4))] s₁ en := fun t k => pr230 t (by
        show Sx p e below T211 m 104 #[iv p1, iv p2, iv p3, iv p4, iv p5, iv (ab3_ p1), iv (ab1_ p1), iv (ab4_ p2), iv (ab2_ p2), iv (ab7_ p3), rv b1, iv (ab5_ p3 p4), iv (ab6_ p3 p5), .unset] [] _
        refine zi X211 Bd at_104 rfl ?_
        refine zi X211 Bd at_106 rfl ?_
        exact k)
       by_cases hc233 : (ab5_ p3 p4) < (ab6_ p3 p5)
       ·
        skip
        have O235 := O215.keep K211q (allS g_b1 all0)
        obtain ⟨_, T234, L234, X234, hQ234, st234⟩ := own_cS 4 12 [] 118 #[iv p1, iv p2, iv p3, iv p4, iv p5, iv (ab3_ p1), iv (ab1_ p1), iv (ab4_ p2), iv (ab2_ p2), iv (ab7_ p3), rv b1, iv (ab5_ p3 p4), iv (ab6_ p3 p5), .unset] X211 hx hZ hown (w62_ hw) (w63_ hw) (w6_ hw) (w64_ hw) (rm4 l Z a0 hw  (ab5_ p3 p4) (ab6_ p3 p5) (ab3_ p1) T211.heap n0 O235 ) pd3 hml.symm (hb hby at_118) rfl rfl rfl rfl rfl (by decide)
        obtain ⟨rfl, N234q, e234q⟩ := hQ234
        have N234 := Fr.app N211 N234q
        have pr236 : Pr p e below T234 m 121 #[iv p1, iv p2, iv p3, iv p4, iv p5, iv (ab3_ p1), iv (ab1_ p1), iv (ab4_ p2), iv (ab2_ p2), iv (ab7_ p3), rv b1, iv (ab5_ p3 p4), iv (ab6_ p3 p5), .unset] [(.int (own_fine (0 : Int32) (ab5_ p3 p4) (ab6_ p3 p5) (ab3_ p1)))] s₁ en := fun t k => pr232 t (by
         show Sx p e below T211 m 108 #[iv p1, iv p2, iv p3, iv p4, iv p5, iv (ab3_ p1), iv (ab1_ p1), iv (ab4_ p2), iv (ab2_ p2), iv (ab7_ p3), rv b1, iv (ab5_ p3 p4), iv (ab6_ p3 p5), .unset] [(.int (ab6_ p3 p5)), (.int (ab5_ p3 p4))] _
         refine zn X211 Bd at_108 (XT.ii_ge_f (hc233 : (ab5_ p3 p4) < (ab6_ p3 p5))) ?_
         refine zc X211 Bd at_111 ?_
         refine zi X211 Bd at_112 rfl ?_
         refine zi X211 Bd at_114 rfl ?_
         refine zi X211 Bd at_116 rfl ?_
         refine st234 _ ?_
         exact k)
        by_cases hc237 : (own_fine (0 : Int32) (ab5_ p3 p4) (ab6_ p3 p5) (ab3_ p1)) = (0 : Int32)
        ·
         skip
         have pr238 : Pr p e below T234 m 170 #[iv p1, iv p2, iv p3, iv p4, iv p5, iv (ab3_ p1), iv (ab1_ p1), iv (ab4_ p2), iv (ab2_ p2), iv (ab7_ p3), rv b1, iv (ab5_ p3 p4), iv (ab6_ p3 p5), iv 0] [] s₁ en := fun t k => pr236 t (by
          show Sx p e below T234 m 121 #[iv p1, iv p2, iv p3, iv p4, iv p5, iv (ab3_ p1), iv (ab1_ p1), iv (ab4_ p2), iv (ab2_ p2), iv (ab7_ p3), rv b1, iv (ab5_ p3 p4), iv (ab6_ p3 p5), .unset] [(.int (own_fine (0 : Int32) (ab5_ p3 p4) (ab6_ p3 p5) (ab3_ p1)))] _
          refine zp (pc' := 167) X234 Bd at_121 (XT.i0_eq_t (hc237 : (own_fine (0 : Int32) (ab5_ p3 p4) (ab6_ p3 p5) (ab3_ p1)) = (0 : Int32))) rfl ?_
          refine zc X234 Bd at_167 ?_
          refine zs X234 Bd at_168 (l' := #[iv p1, iv p2, iv p3, iv p4, iv p5, iv (ab3_ p1), iv (ab1_ p1), iv (ab4_ p2), iv (ab2_ p2), iv (ab7_ p3), rv b1, iv (ab5_ p3 p4), iv (ab6_ p3 p5), iv 0]) rfl ?_
          exact k)
         exact kont231 ⟨T234, _, T211.heap, (0 : Int32), (X234.mono (lE rfl) (lE rfl)), e234q, N234, (Keep.refl T211.heap []), (by rw [own_ex, if_pos hc233, if_pos hc237]), (fun t k => pr238 t k)⟩
        ·
         skip
         obtain ⟨_, T239, L239, X239, hQ239, st239⟩ := own_cS 4 12 [] 131 #[iv p1, iv p2, iv p3, iv p4, iv p5, iv (ab3_ p1), iv (ab1_ p1), iv (ab4_ p2), iv (ab2_ p2), iv (ab7_ p3), rv b1, iv (ab5_ p3 p4), iv (ab6_ p3 p5), .unset] X234 hx hZ hown (w62_ hw) (w63_ hw) (w6_ hw) (w64_ hw) (rm5 l Z a0 hw  (ab5_ p3 p4) (ab6_ p3 p5) (ab1_ p1) T211.heap n0 O235 ) pd3 hml.symm (hb hby at_131) e234q rfl rfl rfl rfl (by decide)
         obtain ⟨rfl, N239q, e239q⟩ := hQ239
         have N239 := Fr.app N234 N239q
         have pr240 : Pr p e below T239 m 134 #[iv p1, iv p2, iv p3, iv p4, iv p5, iv (ab3_ p1), iv (ab1_ p1), iv (ab4_ p2), iv (ab2_ p2), iv (ab7_ p3), rv b1, iv (ab5_ p3 p4), iv (ab6_ p3 p5), .unset] [(.int (own_fine (1 : Int32) (ab5_ p3 p4) (ab6_ p3 p5) (ab1_ p1)))] s₁ en := fun t k => pr236 t (by
          show Sx p e below T234 m 121 #[iv p1, iv p2, iv p3, iv p4, iv p5, iv (ab3_ p1), iv (ab1_ p1), iv (ab4_ p2), iv (ab2_ p2), iv (ab7_ p3), rv b1, iv (ab5_ p3 p4), iv (ab6_ p3 p5), .unset] [(.int (own_fine (0 : Int32) (ab5_ p3 p4) (ab6_ p3 p5) (ab3_ p1)))] _
          refine zo X234 Bd at_121 (XT.i0_eq_f (hc237 : ¬ ((own_fine (0 : Int32) (ab5_ p3 p4) (ab6_ p3 p5) (ab3_ p1)) = (0 : Int32)))) ?_
          refine zc X234 Bd at_124 ?_
          refine zi X234 Bd at_125 rfl ?_
          refine zi X234 Bd at_127 rfl ?_
          refine zi X234 Bd at_129 rfl ?_
          refine st239 _ ?_
          exact k)
         by_cases hc241 : (own_fine (1 : Int32) (ab5_ p3 p4) (ab6_ p3 p5) (ab1_ p1)) = (0 : Int32)
         ·
          skip
          have pr242 : Pr p e below T239 m 170 #[iv p1, iv p2, iv p3, iv p4, iv p5, iv (ab3_ p1), iv (ab1_ p1), iv (ab4_ p2), iv (ab2_ p2), iv (ab7_ p3), rv b1, iv (ab5_ p3 p4), iv (ab6_ p3 p5), iv 0] [] s₁ en := fun t k => pr240 t (by
           show Sx p e below T239 m 134 #[iv p1, iv p2, iv p3, iv p4, iv p5, iv (ab3_ p1), iv (ab1_ p1), iv (ab4_ p2), iv (ab2_ p2), iv (ab7_ p3), rv b1, iv (ab5_ p3 p4), iv (ab6_ p3 p5), .unset] [(.int (own_fine (1 : Int32) (ab5_ p3 p4) (ab6_ p3 p5) (ab1_ p1)))] _
           refine zp (pc' := 167) X239 Bd at_134 (XT.i0_eq_t (hc241 : (own_fine (1 : Int32) (ab5_ p3 p4) (ab6_ p3 p5) (ab1_ p1)) = (0 : Int32))) rfl ?_
           refine zc X239 Bd at_167 ?_
           refine zs X239 Bd at_168 (l' := #[iv p1, iv p2, iv p3, iv p4, iv p5, iv (ab3_ p1), iv (ab1_ p1), iv (ab4_ p2), iv (ab2_ p2), iv (ab7_ p3), rv b1, iv (ab5_ p3 p4), iv (ab6_ p3 p5), iv 0]) rfl ?_
           exact k)
          exact kont231 ⟨T239, _, T211.heap, (0 : Int32), (X239.mono (lE rfl) (lE rfl)), e239q, N239, (Keep.refl T211.heap []), (by rw [own_ex, if_pos hc233, if_neg hc237, if_pos hc241]), (fun t k => pr242 t k)⟩
         ·
          skip
          obtain ⟨_, T243, L243, X243, hQ243, st243⟩ := own_cS 4 12 [] 144 #[iv p1, iv p2, iv p3, iv p4, iv p5, iv (ab3_ p1), iv (ab1_ p1), iv (ab4_ p2), iv (ab2_ p2), iv (ab7_ p3), rv b1, iv (ab5_ p3 p4), iv (ab6_ p3 p5), .unset] X239 hx hZ hown (w62_ hw) (w63_ hw) (w6_ hw) (w64_ hw) (rm6 l Z a0 hw  (ab5_ p3 p4) (ab6_ p3 p5) (ab4_ p2) T211.heap n0 O235 ) pd3 hml.symm (hb hby at_144) e239q rfl rfl rfl rfl (by decide)
          obtain ⟨rfl, N243q, e243q⟩ := hQ243
          have N243 := Fr.app N239 N243q
          have pr244 : Pr p e below T243 m 147 #[iv p1, iv p2, iv p3, iv p4, iv p5, iv (ab3_ p1), iv (ab1_ p1), iv (ab4_ p2), iv (ab2_ p2), iv (ab7_ p3), rv b1, iv (ab5_ p3 p4), iv (ab6_ p3 p5), .unset] [(.int (own_fine (2 : Int32) (ab5_ p3 p4) (ab6_ p3 p5) (ab4_ p2)))] s₁ en := fun t k => pr240 t (by
           show Sx p e below T239 m 134 #[iv p1, iv p2, iv p3, iv p4, iv p5, iv (ab3_ p1), iv (ab1_ p1), iv (ab4_ p2), iv (ab2_ p2), iv (ab7_ p3), rv b1, iv (ab5_ p3 p4), iv (ab6_ p3 p5), .unset] [(.int (own_fine (1 : Int32) (ab5_ p3 p4) (ab6_ p3 p5) (ab1_ p1)))] _
           refine zo X239 Bd at_134 (XT.i0_eq_f (hc241 : ¬ ((own_fine (1 : Int32) (ab5_ p3 p4) (ab6_ p3 p5) (ab1_ p1)) = (0 : Int32)))) ?_
           refine zc X239 Bd at_137 ?_
           refine zi X239 Bd at_138 rfl ?_
           refine zi X239 Bd at_140 rfl ?_
           refine zi X239 Bd at_142 rfl ?_
           refine st243 _ ?_
           exact k)
          by_cases hc245 : (own_fine (2 : Int32) (ab5_ p3 p4) (ab6_ p3 p5) (ab4_ p2)) = (0 : Int32)
          ·
           skip
           have pr246 : Pr p e below T243 m 170 #[iv p1, iv p2, iv p3, iv p4, iv p5, iv (ab3_ p1), iv (ab1_ p1), iv (ab4_ p2), iv (ab2_ p2), iv (ab7_ p3), rv b1, iv (ab5_ p3 p4), iv (ab6_ p3 p5), iv 0] [] s₁ en := fun t k => pr244 t (by
            show Sx p e below T243 m 147 #[iv p1, iv p2, iv p3, iv p4, iv p5, iv (ab3_ p1), iv (ab1_ p1), iv (ab4_ p2), iv (ab2_ p2), iv (ab7_ p3), rv b1, iv (ab5_ p3 p4), iv (ab6_ p3 p5), .unset] [(.int (own_fine (2 : Int32) (ab5_ p3 p4) (ab6_ p3 p5) (ab4_ p2)))] _
            refine zp (pc' := 167) X243 Bd at_147 (XT.i0_eq_t (hc245 : (own_fine (2 : Int32) (ab5_ p3 p4) (ab6_ p3 p5) (ab4_ p2)) = (0 : Int32))) rfl ?_
            refine zc X243 Bd at_167 ?_
            refine zs X243 Bd at_168 (l' := #[iv p1, iv p2, iv p3, iv p4, iv p5, iv (ab3_ p1), iv (ab1_ p1), iv (ab4_ p2), iv (ab2_ p2), iv (ab7_ p3), rv b1, iv (ab5_ p3 p4), iv (ab6_ p3 p5), iv 0]) rfl ?_
            exact k)
           exact kont231 ⟨T243, _, T211.heap, (0 : Int32), (X243.mono (lE rfl) (lE rfl)), e243q, N243, (Keep.refl T211.heap []), (by rw [own_ex, if_pos hc233, if_neg hc237, if_neg hc241, if_pos hc245]), (fun t k => pr246 t k)⟩
          ·
           skip
           obtain ⟨_, T247, L247, X247, hQ247, st247⟩ := own_cS 4 12 [] 157 #[iv p1, iv p2, iv p3, iv p4, iv p5, iv (ab3_ p1), iv (ab1_ p1), iv (ab4_ p2), iv (ab2_ p2), iv (ab7_ p3), rv b1, iv (ab5_ p3 p4), iv (ab6_ p3 p5), .unset] X243 hx hZ hown (w62_ hw) (w63_ hw) (w6_ hw) (w64_ hw) (rm7 l Z a0 hw  (ab5_ p3 p4) (ab6_ p3 p5) (ab2_ p2) T211.heap n0 O235 ) pd3 hml.symm (hb hby at_157) e243q rfl rfl rfl rfl (by decide)
           obtain ⟨rfl, N247q, e247q⟩ := hQ247
           have N247 := Fr.app N243 N247q
           have pr248 : Pr p e below T247 m 160 #[iv p1, iv p2, iv p3, iv p4, iv p5, iv (ab3_ p1), iv (ab1_ p1), iv (ab4_ p2), iv (ab2_ p2), iv (ab7_ p3), rv b1, iv (ab5_ p3 p4), iv (ab6_ p3 p5), .unset] [(.int (own_fine (3 : Int32) (ab5_ p3 p4) (ab6_ p3 p5) (ab2_ p2)))] s₁ en := fun t k => pr244 t (by
            show Sx p e below T243 m 147 #[iv p1, iv p2, iv p3, iv p4, iv p5, iv (ab3_ p1), iv (ab1_ p1), iv (ab4_ p2), iv (ab2_ p2), iv (ab7_ p3), rv b1, iv (ab5_ p3 p4), iv (ab6_ p3 p5), .unset] [(.int (own_fine (2 : Int32) (ab5_ p3 p4) (ab6_ p3 p5) (ab4_ p2)))] _
            refine zo X243 Bd at_147 (XT.i0_eq_f (hc245 : ¬ ((own_fine (2 : Int32) (ab5_ p3 p4) (ab6_ p3 p5) (ab4_ p2)) = (0 : Int32)))) ?_
            refine zc X243 Bd at_150 ?_
            refine zi X243 Bd at_151 rfl ?_
            refine zi X243 Bd at_153 rfl ?_
            refine zi X243 Bd at_155 rfl ?_
            refine st247 _ ?_
            exact k)
           by_cases hc249 : (own_fine (3 : Int32) (ab5_ p3 p4) (ab6_ p3 p5) (ab2_ p2)) = (0 : Int32)
           ·
            skip
            have pr250 : Pr p e below T247 m 170 #[iv p1, iv p2, iv p3, iv p4, iv p5, iv (ab3_ p1), iv (ab1_ p1), iv (ab4_ p2), iv (ab2_ p2), iv (ab7_ p3), rv b1, iv (ab5_ p3 p4), iv (ab6_ p3 p5), iv 0] [] s₁ en := fun t k => pr248 t (by
             show Sx p e below T247 m 160 #[iv p1, iv p2, iv p3, iv p4, iv p5, iv (ab3_ p1), iv (ab1_ p1), iv (ab4_ p2), iv (ab2_ p2), iv (ab7_ p3), rv b1, iv (ab5_ p3 p4), iv (ab6_ p3 p5), .unset] [(.int (own_fine (3 : Int32) (ab5_ p3 p4) (ab6_ p3 p5) (ab2_ p2)))] _
             refine zp (pc' := 167) X247 Bd at_160 (XT.i0_eq_t (hc249 : (own_fine (3 : Int32) (ab5_ p3 p4) (ab6_ p3 p5) (ab2_ p2)) = (0 : Int32))) rfl ?_
             refine zc X247 Bd at_167 ?_
             refine zs X247 Bd at_168 (l' := #[iv p1, iv p2, iv p3, iv p4, iv p5, iv (ab3_ p1), iv (ab1_ p1), iv (ab4_ p2), iv (ab2_ p2), iv (ab7_ p3), rv b1, iv (ab5_ p3 p4), iv (ab6_ p3 p5), iv 0]) rfl ?_
             exact k)
            exact kont231 ⟨T247, _, T211.heap, (0 : Int32), (X247.mono (lE rfl) (lE rfl)), e247q, N247, (Keep.refl T211.heap []), (by rw [own_ex, if_pos hc233, if_neg hc237, if_neg hc241, if_neg hc245, if_pos hc249]), (fun t k => pr250 t k)⟩
           ·
            skip
            have pr251 : Pr p e below T247 m 170 #[iv p1, iv p2, iv p3, iv p4, iv p5, iv (ab3_ p1), iv (ab1_ p1), iv (ab4_ p2), iv (ab2_ p2), iv (ab7_ p3), rv b1, iv (ab5_ p3 p4), iv (ab6_ p3 p5), iv 1] [] s₁ en := fun t k => pr248 t (by
             show Sx p e below T247 m 160 #[iv p1, iv p2, iv p3, iv p4, iv p5, iv (ab3_ p1), iv (ab1_ p1), iv (ab4_ p2), iv (ab2_ p2), iv (ab7_ p3), rv b1, iv (ab5_ p3 p4), iv (ab6_ p3 p5), .unset] [(.int (own_fine (3 : Int32) (ab5_ p3 p4) (ab6_ p3 p5) (ab2_ p2)))] _
             refine zo X247 Bd at_160 (XT.i0_eq_f (hc249 : ¬ ((own_fine (3 : Int32) (ab5_ p3 p4) (ab6_ p3 p5) (ab2_ p2)) = (0 : Int32)))) ?_
             refine zc X247 Bd at_163 ?_
             refine zg (pc' := 168) X247 Bd at_164 rfl ?_
             refine zs X247 Bd at_168 (l' := #[iv p1, iv p2, iv p3, iv p4, iv p5, iv (ab3_ p1), iv (ab1_ p1), iv (ab4_ p2), iv (ab2_ p2), iv (ab7_ p3), rv b1, iv (ab5_ p3 p4), iv (ab6_ p3 p5), iv 1]) rfl ?_
             exact k)
            exact kont231 ⟨T247, _, T211.heap, (1 : Int32), (X247.mono (lE rfl) (lE rfl)), e247q, N247, (Keep.refl T211.heap []), (by rw [own_ex, if_pos hc233, if_neg hc237, if_neg hc241, if_neg hc245, if_neg hc249]), (fun t k => pr251 t k)⟩
       ·
        skip
        have pr252 : Pr p e below T211 m 170 #[iv p1, iv p2, iv p3, iv p4, iv p5, iv (ab3_ p1), iv (ab1_ p1), iv (ab4_ p2), iv (ab2_ p2), iv (ab7_ p3), rv b1, iv (ab5_ p3 p4), iv (ab6_ p3 p5), iv 0] [] s₁ en := fun t k => pr232 t (by
         show Sx p e below T211 m 108 #[iv p1, iv p2, iv p3, iv p4, iv p5, iv (ab3_ p1), iv (ab1_ p1), iv (ab4_ p2), iv (ab2_ p2), iv (ab7_ p3), rv b1, iv (ab5_ p3 p4), iv (ab6_ p3 p5), .unset] [(.int (ab6_ p3 p5)), (.int (ab5_ p3 p4))] _
         refine zy (pc' := 167) X211 Bd at_108 (XT.ii_ge_t (hc233 : ¬ ((ab5_ p3 p4) < (ab6_ p3 p5)))) rfl ?_
         refine zc X211 Bd at_167 ?_
         refine zs X211 Bd at_168 (l' := #[iv p1, iv p2, iv p3, iv p4, iv p5, iv (ab3_ p1), iv (ab1_ p1), iv (ab4_ p2), iv (ab2_ p2), iv (ab7_ p3), rv b1, iv (ab5_ p3 p4), iv (ab6_ p3 p5), iv 0]) rfl ?_
         exact k)
        exact kont231 ⟨T211, _, T211.heap, (0 : Int32), (X211.mono (lE rfl) (lE rfl)), rfl, N211, (Keep.refl T211.heap []), (by rw [own_ex, if_neg hc233]), (fun t k => pr252 t k)⟩
      ·
       obtain ⟨T231, L231, h231, ex_, X231, e231, N231, K231j, hp231_0, pr231⟩ := hA231
       have K253 := K223.trans K231j (fun x q => nomatch q)
       have C254 : CHv Z consts_1 s.vm h231 := CHv.keep K231j sf0 C224
       have R255 : CHr Z consts_1 s.vm h0 s.vm h231 := R227.trans (CHr.keep K231j sf0 C224)
       have F257_ := w221.keep K231j nin0
       have F258_ := w220.keep K231j nin0
       have A259_ := w222.keep K231j nin0
       have E260_ := E212_.keep K211q
       have E261_ := E260_.keep K231j
       have O262 := O215.keep K211q (allS g_b1 all0)
       have O263 := O262.keep K231j all0
       obtain ⟨_, T256, L256, X256, hQ256, st256⟩ := own_cS 4 12 [] 176 #[iv p1, iv p2, iv p3, iv p4, iv p5, iv (ab3_ p1), iv (ab1_ p1), iv (ab4_ p2), iv (ab2_ p2), iv (ab7_ p3), rv b1, iv (ab5_ p3 p4), iv (ab6_ p3 p5), iv ex_] X231 hx hZ hown (w35_ hw) (w36_ hw) (w37_ hw) (w38_ hw) (rm48 l Z a0 hw G1 G3 b1 (ab5_ p3 p4) (ab6_ p3 p5) b216 c217_ (((((ab3_ p1) >>> ((0 : Int32) &&& 31)))).toInt8.toInt32) (((((ab3_ p1) >>> ((8 : Int32) &&& 31)))).toInt8.toInt32) (((((ab1_ p1) >>> ((0 : Int32) &&& 31)))).toInt8.toInt32) (((((ab1_ p1) >>> ((8 : Int32) &&& 31)))).toInt8.toInt32) h231 n0 O263 O2 P5 O4 rG3 uS12 uS15 uS18 F257_ F258_ A259_ (own_rb p4 hc198 (k := 2) (by decide)).1 (own_rb p5 hc198 (k := 2) (by decide)).2 E261_) pd5 hml.symm (hb hby at_176) e231 rfl rfl rfl rfl (by decide)
       obtain ⟨rfl, N256q, e256q⟩ := hQ256
       have N256 := Fr.app N231 N256q
       have hk264' : _ ≤ h231.size := (Nat.le_trans (Nat.le_trans (Nat.le_trans (Nat.le_trans hk0 E1.1) K199q.1) K211q.1) K231j.1)
       refine own_lvW X256 Bd.notSynchronized hS0 hk264' (v := (some (.int 1))) (fun h => by rw [Bd.returns] at h; cases h) e256q hh ⟨rfl, N256⟩ (R255.trans (CHv.at X256 hZ hEL C254)) (lE rfl) (lE rfl) (fun fs hr => pr231 _ (by
        show Sx p e below T231 m 170 #[iv p1, iv p2, iv p3, iv p4, iv p5, iv (ab3_ p1), iv (ab1_ p1), iv (ab4_ p2), iv (ab2_ p2), iv (ab7_ p3), rv b1, iv (ab5_ p3 p4), iv (ab6_ p3 p5), iv ex_] [] _
        refine za X231 Bd at_170 rfl rfl ?_
        refine zi X231 Bd at_172 rfl ?_
        refine zi X231 Bd at_174 rfl ?_
        refine st256 _ ?_
        refine zi X256 Bd at_179 rfl ?_
        refine zn X256 Bd at_181 (XT.ii_ne_f ((((congrArg (fun l => own_isd l (ab5_ p3 p4) (ab6_ p3 p5)) ((own_cons (own_get16 (own_nar_i2c _)) (own_cons (own_get16 (own_nar_i2c _)) rfl)) : (own_L2 (((((ab3_ p1) >>> ((0 : Int32) &&& 31)))).toInt8.toInt32) (((((ab3_ p1) >>> ((8 : Int32) &&& 31)))).toInt8.toInt32) (((((ab1_ p1) >>> ((0 : Int32) &&& 31)))).toInt8.toInt32) (((((ab1_ p1) >>> ((8 : Int32) &&& 31)))).toInt8.toInt32)) = ([(ab3_ p1), (ab1_ p1)] : List Int32))).trans (own_fin2 (ab5_ p3 p4) (ab6_ p3 p5) (ab3_ p1) (ab1_ p1) (ab4_ p2) (ab2_ p2) (own_rb p4 hc198 (k := 2) (by decide)).1 (own_rb p4 hc198 (k := 2) (by decide)).2 (own_rb p5 hc198 (k := 2) (by decide)).1 (own_rb p5 hc198 (k := 2) (by decide)).2)).trans hp231_0.symm) : (own_isd (own_L2 (((((ab3_ p1) >>> ((0 : Int32) &&& 31)))).toInt8.toInt32) (((((ab3_ p1) >>> ((8 : Int32) &&& 31)))).toInt8.toInt32) (((((ab1_ p1) >>> ((0 : Int32) &&& 31)))).toInt8.toInt32) (((((ab1_ p1) >>> ((8 : Int32) &&& 31)))).toInt8.toInt32)) (ab5_ p3 p4) (ab6_ p3 p5)) = ex_)) ?_
        refine zc X256 Bd at_184 ?_
        refine zg (pc' := 189) X256 Bd at_185 rfl ?_
        exact retN X256 hx (t := .boolean) Bd.returns (by simp) (hb hby at_189) hr))
     ·
      skip
      have O266 := O215.keep K211q (allS g_b1 all0)
      obtain ⟨_, T265, L265, X265, hQ265, st265⟩ := own_cS 4 12 [] 69 #[iv p1, iv p2, iv p3, iv p4, iv p5, iv (ab3_ p1), iv (ab1_ p1), iv (ab4_ p2), iv (ab2_ p2), iv (ab7_ p3), rv b1, .unset, .unset, .unset] X211 hx hZ hown (w35_ hw) (w36_ hw) (w37_ hw) (w38_ hw) (rm9 l Z a0 hw  b1 p4 p5 T211.heap n0 O266 hc229) pd5 hml.symm (hb hby at_69) rfl rfl rfl rfl rfl (by decide)
      obtain ⟨rfl, N265q, e265q⟩ := hQ265
      have N265 := Fr.app N211 N265q
      have hk267' : _ ≤ T211.heap.size := (Nat.le_trans (Nat.le_trans (Nat.le_trans hk0 E1.1) K199q.1) K211q.1)
      refine own_lvW X265 Bd.notSynchronized hS0 hk267' (v := (some (.int 1))) (fun h => by rw [Bd.returns] at h; cases h) e265q hh ⟨rfl, N265⟩ (R227.trans (CHv.at X265 hZ hEL C224)) (lE rfl) (lE rfl) (fun fs hr => pr228 _ (by
       show Sx p e below T211 m 61 #[iv p1, iv p2, iv p3, iv p4, iv p5, iv (ab3_ p1), iv (ab1_ p1), iv (ab4_ p2), iv (ab2_ p2), iv (ab7_ p3), rv b1, .unset, .unset, .unset] [.int p5, .int p4] _
       refine zn X211 Bd at_61 (XT.ii_lt_f (hc229 : ¬ (p4 < p5))) ?_
       refine za X211 Bd at_64 rfl rfl ?_
       refine zj X211 Bd at_66 rfl ?_
       refine zi X211 Bd at_67 rfl ?_
       refine st265 _ ?_
       refine zo X265 Bd at_72 (XT.i0_ne_f ((by decide) : (0 : Int32) = (0 : Int32))) ?_
       refine zc X265 Bd at_75 ?_
       refine zg (pc' := 80) X265 Bd at_76 rfl ?_
       exact retN X265 hx (t := .boolean) Bd.returns (by simp) (hb hby at_80) hr))
    ·
     skip
     have hp269 : ∀ c ∈ ([(ab3_ p1), (ab1_ p1)] : List Int32), ¬ c < 0 ∧ ¬ (255 : Int32) < c := (List.forall_mem_cons.mpr ⟨(And.intro (own_ch0 (own_nar_i2c _)) (own_maxle hc210 (mI 0 rfl))), (List.forall_mem_cons.mpr ⟨(And.intro (own_ch0 (own_nar_i2c _)) (own_maxle hc210 (mI 1 rfl))), (fun _ q => nomatch q)⟩)⟩)
     have g_b1 : n0 ≤ b1 := Nat.le_trans (Nat.le_trans (Nat.le_of_eq X00.1.symm) X00.2.1) (Nat.le_of_eq g1.symm)
     have O270 := O200.keep K199q all0
     have E271_ := A1.keep K199q
     have F272_ := F6_.keep K199q nin0
     have F273_ := F5_.keep K199q nin0
     obtain ⟨_, T268, L268, X268, hQ268, st268⟩ := own_cb 2 6 1 2 3 8 (X199.specialBack hx (y := Y2_) rfl hown (mvT hZ (w9_ hw)) (mvT hZ (w10_ hw)) (mvT hZ (w11_ hw)) (by decide) (StrChars.Road.backV (s := s.setVm s.vm) (W := 1) hZ (own_ws hw) (kI := 4) (w2_ hw) (cs := ([(ab3_ p1), (ab1_ p1)] : List Int32)) (bs := ([(ab3_ p1), (ab1_ p1)] : List Int32).map (fun c => c.toInt8.toInt32)) (n := 2) g_b1 (Nat.le_trans (Nat.le_of_eq O270.1.symm) O270.2.1) E271_ F272_ F273_ w204 (O2.ext O270.2) P5 rfl rfl (lE rfl) (lE rfl) hp269 rfl (lE rfl) (lE rfl)) (g := (mkF m 53 #[iv p1, iv p2, iv p3, iv p4, iv p5, iv (ab3_ p1), iv (ab1_ p1), iv (ab4_ p2), iv (ab2_ p2), iv (ab7_ p3), .unset, .unset, .unset, .unset] [.ref b201, .ref b1, .ref b1])) rfl hml.symm (Steps.refl _) (a := b1) (argsL := [.ref b201]) (rest := [.ref b1]) (lenOf pd2 rfl) rfl (own_hw rfl) (hb hby at_53) (fun _ _ => ⟨rfl, rfl, (lE rfl : 2 + 1 ≤ _), (lE rfl : 6 + 2 ≤ _)⟩)) rfl rfl
     obtain ⟨rfl, N268q, K268q, E268q, C268q, b274, c274_, u274, g274, ne274, V274_, A274_⟩ := hQ268
     have N268 := Fr.app N199 N268q
     have sz_b1 : h0.size ≤ b1 := (Nat.le_of_eq g1.symm)
     have K275 := K205.trans K268q (allS (Or.inr sz_b1) all0)
     have f277 : Safe Z consts_1 s.vm h1 b1 := Safe.ext E1 hC0 (Safe.new (Nat.le_of_eq g1.symm))
     have f278 : Safe Z consts_1 s.vm T199.heap b1 := Safe.keep K199q sf0 C3 f277
     have C276 : CHv Z consts_1 s.vm T268.heap := CHv.keep K268q (sfS f278 sf0) C206
     have R279 : CHr Z consts_1 s.vm h0 s.vm T268.heap := R207.trans (CHr.keep K268q (sfS f278 sf0) C206)
     have pr280 : Pr p e below T268 m 61 #[iv p1, iv p2, iv p3, iv p4, iv p5, iv (ab3_ p1), iv (ab1_ p1), iv (ab4_ p2), iv (ab2_ p2), iv (ab7_ p3), rv b1, .unset, .unset, .unset] [.int p5, .int p4] s₁ en := fun t k => pr209 t (by
      show Sx p e below T199 m 53 #[iv p1, iv p2, iv p3, iv p4, iv p5, iv (ab3_ p1), iv (ab1_ p1), iv (ab4_ p2), iv (ab2_ p2), iv (ab7_ p3), .unset, .unset, .unset, .unset] [.ref b201, .ref b1, .ref b1] _
      refine st268.trans ?_
      refine XS.astore X268.here hx rfl (hb hby at_56) rfl rfl (l' := #[iv p1, iv p2, iv p3, iv p4, iv p5, iv (ab3_ p1), iv (ab1_ p1), iv (ab4_ p2), iv (ab2_ p2), iv (ab7_ p3), rv b1, .unset, .unset, .unset]) rfl ?_
      refine zj X268 Bd at_58 rfl ?_
      refine zi X268 Bd at_59 rfl ?_
      exact k)
     by_cases hc281 : p4 < p5
     ·
      skip
      have pr282 : Pr p e below T268 m 104 #[iv p1, iv p2, iv p3, iv p4, iv p5, iv (ab3_ p1), iv (ab1_ p1), iv (ab4_ p2), iv (ab2_ p2), iv (ab7_ p3), rv b1, iv (ab5_ p3 p4), iv (ab6_ p3 p5), .unset] [] s₁ en := fun t k => pr280 t (by
       show Sx p e below T268 m 61 #[iv p1, iv p2, iv p3, iv p4, iv p5, iv (ab3_ p1), iv (ab1_ p1), iv (ab4_ p2), iv (ab2_ p2), iv (ab7_ p3), rv b1, .unset, .unset, .unset] [.int p5, .int p4] _
       refine zy (pc' := 81) X268 Bd at_61 (XT.ii_lt_t (hc281 : p4 < p5)) rfl ?_
       refine zj X268 Bd at_81 rfl ?_
       refine X268.ldcInt hx hown (mvT hZ (w61_ hw)) (g := (mkF m 82 #[iv p1, iv p2, iv p3, iv p4, iv p5, iv (ab3_ p1), iv (ab1_ p1), iv (ab4_ p2), iv (ab2_ p2), iv (ab7_ p3), rv b1, .unset, .unset, .unset] [.int p4])) rfl (hb hby at_82) _ ?_
       refine XS.iand X268.here hx rfl (hb hby at_84) rfl ?_
       refine zi X268 Bd at_85 rfl ?_
       refine zc X268 Bd at_87 ?_
       refine XS.iadd X268.here hx rfl (hb hby at_88) rfl ?_
       refine iremM X268 hx (g := (mkF m 89 #[iv p1, iv p2, iv p3, iv p4, iv p5, iv (ab3_ p1), iv (ab1_ p1), iv (ab4_ p2), iv (ab2_ p2), iv (ab7_ p3), rv b1, .unset, .unset, .unset] [(.int (ab0_ p3)), (.int (p4 &&& (2147483647 : Int32)))])) rfl (hb hby at_89) rfl (own_sub (p := fun z_ => ¬ ((z_ + (1 : Int32)) = (0 : Int32))) hc198 (by decide)) ?_
       refine zs X268 Bd at_90 (l' := #[iv p1, iv p2, iv p3, iv p4, iv p5, iv (ab3_ p1), iv (ab1_ p1), iv (ab4_ p2), iv (ab2_ p2), iv (ab7_ p3), rv b1, iv (ab5_ p3 p4), .unset, .unset]) rfl ?_
       refine zi X268 Bd at_92 rfl ?_
       refine X268.ldcInt hx hown (mvT hZ (w61_ hw)) (g := (mkF m 94 #[iv p1, iv p2, iv p3, iv p4, iv p5, iv (ab3_ p1), iv (ab1_ p1), iv (ab4_ p2), iv (ab2_ p2), iv (ab7_ p3), rv b1, iv (ab5_ p3 p4), .unset, .unset] [.int p5])) rfl (hb hby at_94) _ ?_
       refine XS.iand X268.here hx rfl (hb hby at_96) rfl ?_
       refine zi X268 Bd at_97 rfl ?_
       refine zc X268 Bd at_99 ?_
       refine XS.iadd X268.here hx rfl (hb hby at_100) rfl ?_
       refine iremM X268 hx (g := (mkF m 101 #[iv p1, iv p2, iv p3, iv p4, iv p5, iv (ab3_ p1), iv (ab1_ p1), iv (ab4_ p2), iv (ab2_ p2), iv (ab7_ p3), rv b1, iv (ab5_ p3 p4), .unset, .unset] [(.int (ab0_ p3)), (.int (p5 &&& (2147483647 : Int32)))])) rfl (hb hby at_101) rfl (own_sub (p := fun z_ => ¬ ((z_ + (1 : Int32)) = (0 : Int32))) hc198 (by decide)) ?_
       refine zs X268 Bd at_102 (l' := #[iv p1, iv p2, iv p3, iv p4, iv p5, iv (ab3_ p1), iv (ab1_ p1), iv (ab4_ p2), iv (ab2_ p2), iv (ab7_ p3), rv b1, iv (ab5_ p3 p4), iv (ab6_ p3 p5), .unset]) rfl ?_
       exact k)
      refine cps (A := ∃ T283 : State, ∃ L283 : List Loc, ∃ h283 : Heap, ∃ ex_ : Int32, Stand p l e room_1 (s.setVm s.vm) m #[.int p1, .int p2, .int p3, .int p4, .int p5] below meth c T283 L283 3 8 ∧ T283.heap = h283 ∧ Fr n0 L283 ∧ Keep T268.heap h283 [] ∧ (ex_ = own_ex (ab5_ p3 p4) (ab6_ p3 p5) (ab3_ p1) (ab1_ p1) (ab4_ p2) (ab2_ p2)) ∧ Pr p e below T283 m 170 #[iv p1, iv p2, iv p3, iv p4, iv p5, iv (ab3_ p1), iv (ab1_ p1), iv (ab4_ p2), iv (ab2_ p2), iv (ab7_ p3), rv b1, iv (ab5_ p3 p4), iv (ab6_ p3 p5), iv ex_] [] s₁ en) (fun kont283 => ?_) (fun hA283 => ?_)
      ·
       skip
       have pr284 : Pr p e below T268 m 108 #[iv p1, iv p2, iv p3, iv p4, iv p5, iv (ab3_ p1), iv (ab1_ p1), iv (ab4_ p2), iv (ab2_ p2), iv (ab7_ p3), rv b1, iv (ab5_ p3 p4), iv (ab6_ p3 p5), .unset] [(.int (ab6_ p3 p5)), (.int (ab5_ p3 p4))] s₁ en := fun t k => pr282 t (by
        show Sx p e below T268 m 104 #[iv p1, iv p2, iv p3, iv p4, iv p5, iv (ab3_ p1), iv (ab1_ p1), iv (ab4_ p2), iv (ab2_ p2), iv (ab7_ p3), rv b1, iv (ab5_ p3 p4), iv (ab6_ p3 p5), .unset] [] _
        refine zi X268 Bd at_104 rfl ?_
        refine zi X268 Bd at_106 rfl ?_
        exact k)
       by_cases hc285 : (ab5_ p3 p4) < (ab6_ p3 p5)
       ·
        skip
        have O287 := O270.keep K268q (allS g_b1 all0)
        obtain ⟨_, T286, L286, X286, hQ286, st286⟩ := own_cS 3 8 [] 118 #[iv p1, iv p2, iv p3, iv p4, iv p5, iv (ab3_ p1), iv (ab1_ p1), iv (ab4_ p2), iv (ab2_ p2), iv (ab7_ p3), rv b1, iv (ab5_ p3 p4), iv (ab6_ p3 p5), .unset] X268 hx hZ hown (w62_ hw) (w63_ hw) (w6_ hw) (w64_ hw) (rm4 l Z a0 hw  (ab5_ p3 p4) (ab6_ p3 p5) (ab3_ p1) T268.heap n0 O287 ) pd3 hml.symm (hb hby at_118) rfl rfl rfl rfl rfl (by decide)
        obtain ⟨rfl, N286q, e286q⟩ := hQ286
        have N286 := Fr.app N268 N286q
        have pr288 : Pr p e below T286 m 121 #[iv p1, iv p2, iv p3, iv p4, iv p5, iv (ab3_ p1), iv (ab1_ p1), iv (ab4_ p2), iv (ab2_ p2), iv (ab7_ p3), rv b1, iv (ab5_ p3 p4), iv (ab6_ p3 p5), .unset] [(.int (own_fine (0 : Int32) (ab5_ p3 p4) (ab6_ p3 p5) (ab3_ p1)))] s₁ en := fun t k => pr284 t (by
         show Sx p e below T268 m 108 #[iv p1, iv p2, iv p3, iv p4, iv p5, iv (ab3_ p1), iv (ab1_ p1), iv (ab4_ p2), iv (ab2_ p2), iv (ab7_ p3), rv b1, iv (ab5_ p3 p4), iv (ab6_ p3 p5), .unset] [(.int (ab6_ p3 p5)), (.int (ab5_ p3 p4))] _
         refine zn X268 Bd at_108 (XT.ii_ge_f (hc285 : (ab5_ p3 p4) < (ab6_ p3 p5))) ?_
         refine zc X268 Bd at_111 ?_
         refine zi X268 Bd at_112 rfl ?_
         refine zi X268 Bd at_114 rfl ?_
         refine zi X268 Bd at_116 rfl ?_
         refine st286 _ ?_
         exact k)
        by_cases hc289 : (own_fine (0 : Int32) (ab5_ p3 p4) (ab6_ p3 p5) (ab3_ p1)) = (0 : Int32)
        ·
         skip
         have pr290 : Pr p e below T286 m 170 #[iv p1, iv p2, iv p3, iv p4, iv p5, iv (ab3_ p1), iv (ab1_ p1), iv (ab4_ p2), iv (ab2_ p2), iv (ab7_ p3), rv b1, iv (ab5_ p3 p4), iv (ab6_ p3 p5), iv 0] [] s₁ en := fun t k => pr288 t (by
          show Sx p e below T286 m 121 #[iv p1, iv p2, iv p3, iv p4, iv p5, iv (ab3_ p1), iv (ab1_ p1), iv (ab4_ p2), iv (ab2_ p2), iv (ab7_ p3), rv b1, iv (ab5_ p3 p4), iv (ab6_ p3 p5), .unset] [(.int (own_fine (0 : Int32) (ab5_ p3 p4) (ab6_ p3 p5) (ab3_ p1)))] _
          refine zp (pc' := 167) X286 Bd at_121 (XT.i0_eq_t (hc289 : (own_fine (0 : Int32) (ab5_ p3 p4) (ab6_ p3 p5) (ab3_ p1)) = (0 : Int32))) rfl ?_
          refine zc X286 Bd at_167 ?_
          refine zs X286 Bd at_168 (l' := #[iv p1, iv p2, iv p3, iv p4, iv p5, iv (ab3_ p1), iv (ab1_ p1), iv (ab4_ p2), iv (ab2_ p2), iv (ab7_ p3), rv b1, iv (ab5_ p3 p4), iv (ab6_ p3 p5), iv 0]) rfl ?_
          exact k)
         exact kont283 ⟨T286, _, T268.heap, (0 : Int32), (X286.mono (lE rfl) (lE rfl)), e286q, N286, (Keep.refl T268.heap []), (by rw [own_ex, if_pos hc285, if_pos hc289]), (fun t k => pr290 t k)⟩
        ·
         skip
         obtain ⟨_, T291, L291, X291, hQ291, st291⟩ := own_cS 3 8 [] 131 #[iv p1, iv p2, iv p3, iv p4, iv p5, iv (ab3_ p1), iv (ab1_ p1), iv (ab4_ p2), iv (ab2_ p2), iv (ab7_ p3), rv b1, iv (ab5_ p3 p4), iv (ab6_ p3 p5), .unset] X286 hx hZ hown (w62_ hw) (w63_ hw) (w6_ hw) (w64_ hw) (rm5 l Z a0 hw  (ab5_ p3 p4) (ab6_ p3 p5) (ab1_ p1) T268.heap n0 O287 ) pd3 hml.symm (hb hby at_131) e286q rfl rfl rfl rfl (by decide)
         obtain ⟨rfl, N291q, e291q⟩ := hQ291
         have N291 := Fr.app N286 N291q
         have pr292 : Pr p e below T291 m 134 #[iv p1, iv p2, iv p3, iv p4, iv p5, iv (ab3_ p1), iv (ab1_ p1), iv (ab4_ p2), iv (ab2_ p2), iv (ab7_ p3), rv b1, iv (ab5_ p3 p4), iv (ab6_ p3 p5), .unset] [(.int (own_fine (1 : Int32) (ab5_ p3 p4) (ab6_ p3 p5) (ab1_ p1)))] s₁ en := fun t k => pr288 t (by
          show Sx p e below T286 m 121 #[iv p1, iv p2, iv p3, iv p4, iv p5, iv (ab3_ p1), iv (ab1_ p1), iv (ab4_ p2), iv (ab2_ p2), iv (ab7_ p3), rv b1, iv (ab5_ p3 p4), iv (ab6_ p3 p5), .unset] [(.int (own_fine (0 : Int32) (ab5_ p3 p4) (ab6_ p3 p5) (ab3_ p1)))] _
          refine zo X286 Bd at_121 (XT.i0_eq_f (hc289 : ¬ ((own_fine (0 : Int32) (ab5_ p3 p4) (ab6_ p3 p5) (ab3_ p1)) = (0 : Int32)))) ?_
          refine zc X286 Bd at_124 ?_
          refine zi X286 Bd at_125 rfl ?_
          refine zi X286 Bd at_127 rfl ?_
          refine zi X286 Bd at_129 rfl ?_
          refine st291 _ ?_
          exact k)
         by_cases hc293 : (own_fine (1 : Int32) (ab5_ p3 p4) (ab6_ p3 p5) (ab1_ p1)) = (0 : Int32)
         ·
          skip
          have pr294 : Pr p e below T291 m 170 #[iv p1, iv p2, iv p3, iv p4, iv p5, iv (ab3_ p1), iv (ab1_ p1), iv (ab4_ p2), iv (ab2_ p2), iv (ab7_ p3), rv b1, iv (ab5_ p3 p4), iv (ab6_ p3 p5), iv 0] [] s₁ en := fun t k => pr292 t (by
           show Sx p e below T291 m 134 #[iv p1, iv p2, iv p3, iv p4, iv p5, iv (ab3_ p1), iv (ab1_ p1), iv (ab4_ p2), iv (ab2_ p2), iv (ab7_ p3), rv b1, iv (ab5_ p3 p4), iv (ab6_ p3 p5), .unset] [(.int (own_fine (1 : Int32) (ab5_ p3 p4) (ab6_ p3 p5) (ab1_ p1)))] _
           refine zp (pc' := 167) X291 Bd at_134 (XT.i0_eq_t (hc293 : (own_fine (1 : Int32) (ab5_ p3 p4) (ab6_ p3 p5) (ab1_ p1)) = (0 : Int32))) rfl ?_
           refine zc X291 Bd at_167 ?_
           refine zs X291 Bd at_168 (l' := #[iv p1, iv p2, iv p3, iv p4, iv p5, iv (ab3_ p1), iv (ab1_ p1), iv (ab4_ p2), iv (ab2_ p2), iv (ab7_ p3), rv b1, iv (ab5_ p3 p4), iv (ab6_ p3 p5), iv 0]) rfl ?_
           exact k)
          exact kont283 ⟨T291, _, T268.heap, (0 : Int32), (X291.mono (lE rfl) (lE rfl)), e291q, N291, (Keep.refl T268.heap []), (by rw [own_ex, if_pos hc285, if_neg hc289, if_pos hc293]), (fun t k => pr294 t k)⟩
         ·
          skip
          obtain ⟨_, T295, L295, X295, hQ295, st295⟩ := own_cS 3 8 [] 144 #[iv p1, iv p2, iv p3, iv p4, iv p5, iv (ab3_ p1), iv (ab1_ p1), iv (ab4_ p2), iv (ab2_ p2), iv (ab7_ p3), rv b1, iv (ab5_ p3 p4), iv (ab6_ p3 p5), .unset] X291 hx hZ hown (w62_ hw) (w63_ hw) (w6_ hw) (w64_ hw) (rm6 l Z a0 hw  (ab5_ p3 p4) (ab6_ p3 p5) (ab4_ p2) T268.heap n0 O287 ) pd3 hml.symm (hb hby at_144) e291q rfl rfl rfl rfl (by decide)
          obtain ⟨rfl, N295q, e295q⟩ := hQ295
          have N295 := Fr.app N291 N295q
          have pr296 : Pr p e below T295 m 147 #[iv p1, iv p2, iv p3, iv p4, iv p5, iv (ab3_ p1), iv (ab1_ p1), iv (ab4_ p2), iv (ab2_ p2), iv (ab7_ p3), rv b1, iv (ab5_ p3 p4), iv (ab6_ p3 p5), .unset] [(.int (own_fine (2 : Int32) (ab5_ p3 p4) (ab6_ p3 p5) (ab4_ p2)))] s₁ en := fun t k => pr292 t (by
           show Sx p e below T291 m 134 #[iv p1, iv p2, iv p3, iv p4, iv p5, iv (ab3_ p1), iv (ab1_ p1), iv (ab4_ p2), iv (ab2_ p2), iv (ab7_ p3), rv b1, iv (ab5_ p3 p4), iv (ab6_ p3 p5), .unset] [(.int (own_fine (1 : Int32) (ab5_ p3 p4) (ab6_ p3 p5) (ab1_ p1)))] _
           refine zo X291 Bd at_134 (XT.i0_eq_f (hc293 : ¬ ((own_fine (1 : Int32) (ab5_ p3 p4) (ab6_ p3 p5) (ab1_ p1)) = (0 : Int32)))) ?_
           refine zc X291 Bd at_137 ?_
           refine zi X291 Bd at_138 rfl ?_
           refine zi X291 Bd at_140 rfl ?_
           refine zi X291 Bd at_142 rfl ?_
           refine st295 _ ?_
           exact k)
          by_cases hc297 : (own_fine (2 : Int32) (ab5_ p3 p4) (ab6_ p3 p5) (ab4_ p2)) = (0 : Int32)
          ·
           skip
           have pr298 : Pr p e below T295 m 170 #[iv p1, iv p2, iv p3, iv p4, iv p5, iv (ab3_ p1), iv (ab1_ p1), iv (ab4_ p2), iv (ab2_ p2), iv (ab7_ p3), rv b1, iv (ab5_ p3 p4), iv (ab6_ p3 p5), iv 0] [] s₁ en := fun t k => pr296 t (by
            show Sx p e below T295 m 147 #[iv p1, iv p2, iv p3, iv p4, iv p5, iv (ab3_ p1), iv (ab1_ p1), iv (ab4_ p2), iv (ab2_ p2), iv (ab7_ p3), rv b1, iv (ab5_ p3 p4), iv (ab6_ p3 p5), .unset] [(.int (own_fine (2 : Int32) (ab5_ p3 p4) (ab6_ p3 p5) (ab4_ p2)))] _
            refine zp (pc' := 167) X295 Bd at_147 (XT.i0_eq_t (hc297 : (own_fine (2 : Int32) (ab5_ p3 p4) (ab6_ p3 p5) (ab4_ p2)) = (0 : Int32))) rfl ?_
            refine zc X295 Bd at_167 ?_
            refine zs X295 Bd at_168 (l' := #[iv p1, iv p2, iv p3, iv p4, iv p5, iv (ab3_ p1), iv (ab1_ p1), iv (ab4_ p2), iv (ab2_ p2), iv (ab7_ p3), rv b1, iv (ab5_ p3 p4), iv (ab6_ p3 p5), iv 0]) rfl ?_
            exact k)
           exact kont283 ⟨T295, _, T268.heap, (0 : Int32), (X295.mono (lE rfl) (lE rfl)), e295q, N295, (Keep.refl T268.heap []), (by rw [own_ex, if_pos hc285, if_neg hc289, if_neg hc293, if_pos hc297]), (fun t k => pr298 t k)⟩
          ·
           skip
           obtain ⟨_, T299, L299, X299, hQ299, st299⟩ := own_cS 3 8 [] 157 #[iv p1, iv p2, iv p3, iv p4, iv p5, iv (ab3_ p1), iv (ab1_ p1), iv (ab4_ p2), iv (ab2_ p2), iv (ab7_ p3), rv b1, iv (ab5_ p3 p4), iv (ab6_ p3 p5), .unset] X295 hx hZ hown (w62_ hw) (w63_ hw) (w6_ hw) (w64_ hw) (rm7 l Z a0 hw  (ab5_ p3 p4) (ab6_ p3 p5) (ab2_ p2) T268.heap n0 O287 ) pd3 hml.symm (hb hby at_157) e295q rfl rfl rfl rfl (by decide)
           obtain ⟨rfl, N299q, e299q⟩ := hQ299
           have N299 := Fr.app N295 N299q
           have pr300 : Pr p e below T299 m 160 #[iv p1, iv p2, iv p3, iv p4, iv p5, iv (ab3_ p1), iv (ab1_ p1), iv (ab4_ p2), iv (ab2_ p2), iv (ab7_ p3), rv b1, iv (ab5_ p3 p4), iv (ab6_ p3 p5), .unset] [(.int (own_fine (3 : Int32) (ab5_ p3 p4) (ab6_ p3 p5) (ab2_ p2)))] s₁ en := fun t k => pr296 t (by
            show Sx p e below T295 m 147 #[iv p1, iv p2, iv p3, iv p4, iv p5, iv (ab3_ p1), iv (ab1_ p1), iv (ab4_ p2), iv (ab2_ p2), iv (ab7_ p3), rv b1, iv (ab5_ p3 p4), iv (ab6_ p3 p5), .unset] [(.int (own_fine (2 : Int32) (ab5_ p3 p4) (ab6_ p3 p5) (ab4_ p2)))] _
            refine zo X295 Bd at_147 (XT.i0_eq_f (hc297 : ¬ ((own_fine (2 : Int32) (ab5_ p3 p4) (ab6_ p3 p5) (ab4_ p2)) = (0 : Int32)))) ?_
            refine zc X295 Bd at_150 ?_
            refine zi X295 Bd at_151 rfl ?_
            refine zi X295 Bd at_153 rfl ?_
            refine zi X295 Bd at_155 rfl ?_
            refine st299 _ ?_
            exact k)
           by_cases hc301 : (own_fine (3 : Int32) (ab5_ p3 p4) (ab6_ p3 p5) (ab2_ p2)) = (0 : Int32)
           ·
            skip
            have pr302 : Pr p e below T299 m 170 #[iv p1, iv p2, iv p3, iv p4, iv p5, iv (ab3_ p1), iv (ab1_ p1), iv (ab4_ p2), iv (ab2_ p2), iv (ab7_ p3), rv b1, iv (ab5_ p3 p4), iv (ab6_ p3 p5), iv 0] [] s₁ en := fun t k => pr300 t (by
             show Sx p e below T299 m 160 #[iv p1, iv p2, iv p3, iv p4, iv p5, iv (ab3_ p1), iv (ab1_ p1), iv (ab4_ p2), iv (ab2_ p2), iv (ab7_ p3), rv b1, iv (ab5_ p3 p4), iv (ab6_ p3 p5), .unset] [(.int (own_fine (3 : Int32) (ab5_ p3 p4) (ab6_ p3 p5) (ab2_ p2)))] _
             refine zp (pc' := 167) X299 Bd at_160 (XT.i0_eq_t (hc301 : (own_fine (3 : Int32) (ab5_ p3 p4) (ab6_ p3 p5) (ab2_ p2)) = (0 : Int32))) rfl ?_
             refine zc X299 Bd at_167 ?_
             refine zs X299 Bd at_168 (l' := #[iv p1, iv p2, iv p3, iv p4, iv p5, iv (ab3_ p1), iv (ab1_ p1), iv (ab4_ p2), iv (ab2_ p2), iv (ab7_ p3), rv b1, iv (ab5_ p3 p4), iv (ab6_ p3 p5), iv 0]) rfl ?_
             exact k)
            exact kont283 ⟨T299, _, T268.heap, (0 : Int32), (X299.mono (lE rfl) (lE rfl)), e299q, N299, (Keep.refl T268.heap []), (by rw [own_ex, if_pos hc285, if_neg hc289, if_neg hc293, if_neg hc297, if_pos hc301]), (fun t k => pr302 t k)⟩
           ·
            skip
            have pr303 : Pr p e below T299 m 170 #[iv p1, iv p2, iv p3, iv p4, iv p5, iv (ab3_ p1), iv (ab1_ p1), iv (ab4_ p2), iv (ab2_ p2), iv (ab7_ p3), rv b1, iv (ab5_ p3 p4), iv (ab6_ p3 p5), iv 1] [] s₁ en := fun t k => pr300 t (by
             show Sx p e below T299 m 160 #[iv p1, iv p2, iv p3, iv p4, iv p5, iv (ab3_ p1), iv (ab1_ p1), iv (ab4_ p2), iv (ab2_ p2), iv (ab7_ p3), rv b1, iv (ab5_ p3 p4), iv (ab6_ p3 p5), .unset] [(.int (own_fine (3 : Int32) (ab5_ p3 p4) (ab6_ p3 p5) (ab2_ p2)))] _
             refine zo X299 Bd at_160 (XT.i0_eq_f (hc301 : ¬ ((own_fine (3 : Int32) (ab5_ p3 p4) (ab6_ p3 p5) (ab2_ p2)) = (0 : Int32)))) ?_
             refine zc X299 Bd at_163 ?_
             refine zg (pc' := 168) X299 Bd at_164 rfl ?_
             refine zs X299 Bd at_168 (l' := #[iv p1, iv p2, iv p3, iv p4, iv p5, iv (ab3_ p1), iv (ab1_ p1), iv (ab4_ p2), iv (ab2_ p2), iv (ab7_ p3), rv b1, iv (ab5_ p3 p4), iv (ab6_ p3 p5), iv 1]) rfl ?_
             exact k)
            exact kont283 ⟨T299, _, T268.heap, (1 : Int32), (X299.mono (lE rfl) (lE rfl)), e299q, N299, (Keep.refl T268.heap []), (by rw [own_ex, if_pos hc285, if_neg hc289, if_neg hc293, if_neg hc297, if_neg hc301]), (fun t k => pr303 t k)⟩
       ·
        skip
        have pr304 : Pr p e below T268 m 170 #[iv p1, iv p2, iv p3, iv p4, iv p5, iv (ab3_ p1), iv (ab1_ p1), iv (ab4_ p2), iv (ab2_ p2), iv (ab7_ p3), rv b1, iv (ab5_ p3 p4), iv (ab6_ p3 p5), iv 0] [] s₁ en := fun t k => pr284 t (by
         show Sx p e below T268 m 108 #[iv p1, iv p2, iv p3, iv p4, iv p5, iv (ab3_ p1), iv (ab1_ p1), iv (ab4_ p2), iv (ab2_ p2), iv (ab7_ p3), rv b1, iv (ab5_ p3 p4), iv (ab6_ p3 p5), .unset] [(.int (ab6_ p3 p5)), (.int (ab5_ p3 p4))] _
         refine zy (pc' := 167) X268 Bd at_108 (XT.ii_ge_t (hc285 : ¬ ((ab5_ p3 p4) < (ab6_ p3 p5)))) rfl ?_
         refine zc X268 Bd at_167 ?_
         refine zs X268 Bd at_168 (l' := #[iv p1, iv p2, iv p3, iv p4, iv p5, iv (ab3_ p1), iv (ab1_ p1), iv (ab4_ p2), iv (ab2_ p2), iv (ab7_ p3), rv b1, iv (ab5_ p3 p4), iv (ab6_ p3 p5), iv 0]) rfl ?_
         exact k)
        exact kont283 ⟨T268, _, T268.heap, (0 : Int32), (X268.mono (lE rfl) (lE rfl)), rfl, N268, (Keep.refl T268.heap []), (by rw [own_ex, if_neg hc285]), (fun t k => pr304 t k)⟩
      ·
       obtain ⟨T283, L283, h283, ex_, X283, e283, N283, K283j, hp283_0, pr283⟩ := hA283
       have K305 := K275.trans K283j (fun x q => nomatch q)
       have C306 : CHv Z consts_1 s.vm h283 := CHv.keep K283j sf0 C276
       have R307 : CHr Z consts_1 s.vm h0 s.vm h283 := R279.trans (CHr.keep K283j sf0 C276)
       have F309_ := V274_.keep K283j nin0
       have F310_ := C268q.keep K283j nin0
       have A311_ := A274_.keep K283j nin0
       have E312_ := E271_.keep K268q
       have E313_ := E312_.keep K283j
       have O314 := O270.keep K268q (allS g_b1 all0)
       have O315 := O314.keep K283j all0
       obtain ⟨_, T308, L308, X308, hQ308, st308⟩ := own_cS 3 8 [] 176 #[iv p1, iv p2, iv p3, iv p4, iv p5, iv (ab3_ p1), iv (ab1_ p1), iv (ab4_ p2), iv (ab2_ p2), iv (ab7_ p3), rv b1, iv (ab5_ p3 p4), iv (ab6_ p3 p5), iv ex_] X283 hx hZ hown (w35_ hw) (w36_ hw) (w37_ hw) (w38_ hw) (rm49 l Z a0 hw G3 G1 b1 (ab5_ p3 p4) (ab6_ p3 p5) b274 c274_ (ab3_ p1) (ab1_ p1) h283 n0 O315 O4 rG3 O2 P5 F309_ F310_ A311_ hp269 E313_ (own_rb p4 hc198 (k := 2) (by decide)).1 (own_rb p5 hc198 (k := 2) (by decide)).2) pd5 hml.symm (hb hby at_176) e283 rfl rfl rfl rfl (by decide)
       obtain ⟨rfl, N308q, e308q⟩ := hQ308
       have N308 := Fr.app N283 N308q
       have hk316' : _ ≤ h283.size := (Nat.le_trans (Nat.le_trans (Nat.le_trans (Nat.le_trans hk0 E1.1) K199q.1) K268q.1) K283j.1)
       refine own_lvW X308 Bd.notSynchronized hS0 hk316' (v := (some (.int 1))) (fun h => by rw [Bd.returns] at h; cases h) e308q hh ⟨rfl, N308⟩ (R307.trans (CHv.at X308 hZ hEL C306)) (lE rfl) (lE rfl) (fun fs hr => pr283 _ (by
        show Sx p e below T283 m 170 #[iv p1, iv p2, iv p3, iv p4, iv p5, iv (ab3_ p1), iv (ab1_ p1), iv (ab4_ p2), iv (ab2_ p2), iv (ab7_ p3), rv b1, iv (ab5_ p3 p4), iv (ab6_ p3 p5), iv ex_] [] _
        refine za X283 Bd at_170 rfl rfl ?_
        refine zi X283 Bd at_172 rfl ?_
        refine zi X283 Bd at_174 rfl ?_
        refine st308 _ ?_
        refine zi X308 Bd at_179 rfl ?_
        refine zn X308 Bd at_181 (XT.ii_ne_f (((own_fin2 (ab5_ p3 p4) (ab6_ p3 p5) (ab3_ p1) (ab1_ p1) (ab4_ p2) (ab2_ p2) (own_rb p4 hc198 (k := 2) (by decide)).1 (own_rb p4 hc198 (k := 2) (by decide)).2 (own_rb p5 hc198 (k := 2) (by decide)).1 (own_rb p5 hc198 (k := 2) (by decide)).2).trans hp283_0.symm) : (own_isd ([(ab3_ p1), (ab1_ p1)] : List Int32) (ab5_ p3 p4) (ab6_ p3 p5)) = ex_)) ?_
        refine zc X308 Bd at_184 ?_
        refine zg (pc' := 189) X308 Bd at_185 rfl ?_
        exact retN X308 hx (t := .boolean) Bd.returns (by simp) (hb hby at_189) hr))
     ·
      skip
      have O318 := O270.keep K268q (allS g_b1 all0)
      obtain ⟨_, T317, L317, X317, hQ317, st317⟩ := own_cS 3 8 [] 69 #[iv p1, iv p2, iv p3, iv p4, iv p5, iv (ab3_ p1), iv (ab1_ p1), iv (ab4_ p2), iv (ab2_ p2), iv (ab7_ p3), rv b1, .unset, .unset, .unset] X268 hx hZ hown (w35_ hw) (w36_ hw) (w37_ hw) (w38_ hw) (rm9 l Z a0 hw  b1 p4 p5 T268.heap n0 O318 hc281) pd5 hml.symm (hb hby at_69) rfl rfl rfl rfl rfl (by decide)
      obtain ⟨rfl, N317q, e317q⟩ := hQ317
      have N317 := Fr.app N268 N317q
      have hk319' : _ ≤ T268.heap.size := (Nat.le_trans (Nat.le_trans (Nat.le_trans hk0 E1.1) K199q.1) K268q.1)
      refine own_lvW X317 Bd.notSynchronized hS0 hk319' (v := (some (.int 1))) (fun h => by rw [Bd.returns] at h; cases h) e317q hh ⟨rfl, N317⟩ (R279.trans (CHv.at X317 hZ hEL C276)) (lE rfl) (lE rfl) (fun fs hr => pr280 _ (by
       show Sx p e below T268 m 61 #[iv p1, iv p2, iv p3, iv p4, iv p5, iv (ab3_ p1), iv (ab1_ p1), iv (ab4_ p2), iv (ab2_ p2), iv (ab7_ p3), rv b1, .unset, .unset, .unset] [.int p5, .int p4] _
       refine zn X268 Bd at_61 (XT.ii_lt_f (hc281 : ¬ (p4 < p5))) ?_
       refine za X268 Bd at_64 rfl rfl ?_
       refine zj X268 Bd at_66 rfl ?_
       refine zi X268 Bd at_67 rfl ?_
       refine st317 _ ?_
       refine zo X317 Bd at_72 (XT.i0_ne_f ((by decide) : (0 : Int32) = (0 : Int32))) ?_
       refine zc X317 Bd at_75 ?_
       refine zg (pc' := 80) X317 Bd at_76 rfl ?_
       exact retN X317 hx (t := .boolean) Bd.returns (by simp) (hb hby at_80) hr))
   ·
    skip
    by_cases hc321 : (ab7_ p3) = (3 : Int32)
    ·
     skip
     have O323 := X00.ext E1
     obtain ⟨_, T322, L322, X322, hQ322, st322⟩ := own_cS 2 7 [.ref b1, .ref b1] 50 #[iv p1, iv p2, iv p3, iv p4, iv p5, iv (ab3_ p1), iv (ab1_ p1), iv (ab4_ p2), iv (ab2_ p2), iv (ab7_ p3), .unset, .unset, .unset, .unset] X1 hx hZ hown (w4_ hw) (w5_ hw) (w6_ hw) (w7_ hw) (rm50 l Z a0 hw  (ab7_ p3) (ab3_ p1) (ab1_ p1) (ab4_ p2) (ab2_ p2) h1 n0 O323 hc9 hc75 hc198 hc321 (own_nar_i2c _) (own_nar_i2c _) (own_nar_i2c _)) pd0 hml.symm (hb hby at_50) e1 rfl rfl rfl rfl (by decide)
     obtain ⟨b324, c325_, rfl, N322q, K322q, w326, w327⟩ := hQ322
     have N322 := Fr.app N0 N322q
     have K328 := K2.trans K322q (fun x q => nomatch q)
     have C329 : CHv Z consts_1 s.vm T322.heap := CHv.keep K322q sf0 C3
     have R330 : CHr Z consts_1 s.vm h0 s.vm T322.heap := R4.trans (CHr.keep K322q sf0 C3)
     have pr332 : Pr p e below T322 m 53 #[iv p1, iv p2, iv p3, iv p4, iv p5, iv (ab3_ p1), iv (ab1_ p1), iv (ab4_ p2), iv (ab2_ p2), iv (ab7_ p3), .unset, .unset, .unset, .unset] [.ref b324, .ref b1, .ref b1] s₁ en := fun t k => pr8 t (by
      show Sx p e below T1 m 50 #[iv p1, iv p2, iv p3, iv p4, iv p5, iv (ab3_ p1), iv (ab1_ p1), iv (ab4_ p2), iv (ab2_ p2), iv (ab7_ p3), .unset, .unset, .unset, .unset] [(.int (ab2_ p2)), (.int (ab4_ p2)), (.int (ab1_ p1)), (.int (ab3_ p1)), (.int (ab7_ p3)), .ref b1, .ref b1] _
      refine st322 _ ?_
      exact k)
     by_cases hc333 : (255 : Int32) < (own_max ([(ab3_ p1), (ab1_ p1), (ab4_ p2)] : List Int32))
     ·
      skip
      have E335_ := A1.keep K322q
      have F336_ := F5_.keep K322q nin0
      have g_b1 : n0 ≤ b1 := Nat.le_trans (Nat.le_trans (Nat.le_of_eq X00.1.symm) X00.2.1) (Nat.le_of_eq g1.symm)
      have F337_ := F6_.keep K322q nin0
      have O338 := O323.keep K322q all0
      obtain ⟨_, T334, L334, X334, hQ334, st334⟩ := own_cI 4 16 [.ref b1] 53 #[iv p1, iv p2, iv p3, iv p4, iv p5, iv (ab3_ p1), iv (ab1_ p1), iv (ab4_ p2), iv (ab2_ p2), iv (ab7_ p3), .unset, .unset, .unset, .unset] X322 hx hZ hown (w9_ hw) (w10_ hw) (w3_ hw) (w11_ hw) (rm62 l Z a0 hw G1 b1 b324 c325_ (ab3_ p1) (ab1_ p1) (ab4_ p2) T322.heap n0 O338 O2 P5 uS12 uS15 uS18 w327 hc333 (own_nar_i2c _) (own_nar_i2c _) (own_nar_i2c _) E335_ F336_ g_b1 F337_) pd2 hml.symm (hb hby at_53) rfl rfl rfl rfl rfl rfl (by decide)
      obtain ⟨b339, c340_, rfl, N334q, K334q, w341, w342, w343, w344, w345⟩ := hQ334
      have N334 := Fr.app N322 N334q
      have sz_b1 : h0.size ≤ b1 := (Nat.le_of_eq g1.symm)
      have K346 := K328.trans K334q (allS (Or.inr sz_b1) all0)
      have f348 : Safe Z consts_1 s.vm h1 b1 := Safe.ext E1 hC0 (Safe.new (Nat.le_of_eq g1.symm))
      have f349 : Safe Z consts_1 s.vm T322.heap b1 := Safe.keep K322q sf0 C3 f348
      have C347 : CHv Z consts_1 s.vm T334.heap := CHv.keep K334q (sfS f349 sf0) C329
      have R350 : CHr Z consts_1 s.vm h0 s.vm T334.heap := R330.trans (CHr.keep K334q (sfS f349 sf0) C329)
      have pr351 : Pr p e below T334 m 61 #[iv p1, iv p2, iv p3, iv p4, iv p5, iv (ab3_ p1), iv (ab1_ p1), iv (ab4_ p2), iv (ab2_ p2), iv (ab7_ p3), rv b1, .unset, .unset, .unset] [.int p5, .int p4] s₁ en := fun t k => pr332 t (by
       show Sx p e below T322 m 53 #[iv p1, iv p2, iv p3, iv p4, iv p5, iv (ab3_ p1), iv (ab1_ p1), iv (ab4_ p2), iv (ab2_ p2), iv (ab7_ p3), .unset, .unset, .unset, .unset] [.ref b324, .ref b1, .ref b1] _
       refine st334 _ ?_
       refine XS.astore X334.here hx rfl (hb hby at_56) rfl rfl (l' := #[iv p1, iv p2, iv p3, iv p4, iv p5, iv (ab3_ p1), iv (ab1_ p1), iv (ab4_ p2), iv (ab2_ p2), iv (ab7_ p3), rv b1, .unset, .unset, .unset]) rfl ?_
       refine zj X334 Bd at_58 rfl ?_
       refine zi X334 Bd at_59 rfl ?_
       exact k)
      by_cases hc352 : p4 < p5
      ·
       skip
       have pr353 : Pr p e below T334 m 104 #[iv p1, iv p2, iv p3, iv p4, iv p5, iv (ab3_ p1), iv (ab1_ p1), iv (ab4_ p2), iv (ab2_ p2), iv (ab7_ p3), rv b1, iv (ab5_ p3 p4), iv (ab6_ p3 p5), .unset] [] s₁ en := fun t k => pr351 t (by
        show Sx p e below T334 m 61 #[iv p1, iv p2, iv p3, iv p4, iv p5, iv (ab3_ p1), iv (ab1_ p1), iv (ab4_ p2), iv (ab2_ p2), iv (ab7_ p3), rv b1, .unset, .unset, .unset] [.int p5, .int p4] _
        refine zy (pc' := 81) X334 Bd at_61 (XT.ii_lt_t (hc352 : p4 < p5)) rfl ?_
        refine zj X334 Bd at_81 rfl ?_
        refine X334.ldcInt hx hown (mvT hZ (w61_ hw)) (g := (mkF m 82 #[iv p1, iv p2, iv p3, iv p4, iv p5, iv (ab3_ p1), iv (ab1_ p1), iv (ab4_ p2), iv (ab2_ p2), iv (ab7_ p3), rv b1, .unset, .unset, .unset] [.int p4])) rfl (hb hby at_82) _ ?_
        refine XS.iand X334.here hx rfl (hb hby at_84) rfl ?_
        refine zi X334 Bd at_85 rfl ?_
        refine zc X334 Bd at_87 ?_
        refine XS.iadd X334.here hx rfl (hb hby at_88) rfl ?_
        refine iremM X334 hx (g := (mkF m 89 #[iv p1, iv p2, iv p3, iv p4, iv p5, iv (ab3_ p1), iv (ab1_ p1), iv (ab4_ p2), iv (ab2_ p2), iv (ab7_ p3), rv b1, .unset, .unset, .unset] [(.int (ab0_ p3)), (.int (p4 &&& (2147483647 : Int32)))])) rfl (hb hby at_89) rfl (own_sub (p := fun z_ => ¬ ((z_ + (1 : Int32)) = (0 : Int32))) hc321 (by decide)) ?_
        refine zs X334 Bd at_90 (l' := #[iv p1, iv p2, iv p3, iv p4, iv p5, iv (ab3_ p1), iv (ab1_ p1), iv (ab4_ p2), iv (ab2_ p2), iv (ab7_ p3), rv b1, iv (ab5_ p3 p4), .unset, .unset]) rfl ?_
        refine zi X334 Bd at_92 rfl ?_
        refine X334.ldcInt hx hown (mvT hZ (w61_ hw)) (g := (mkF m 94 #[iv p1, iv p2, iv p3, iv p4, iv p5, iv (ab3_ p1), iv (ab1_ p1), iv (ab4_ p2), iv (ab2_ p2), iv (ab7_ p3), rv b1, iv (ab5_ p3 p4), .unset, .unset] [.int p5])) rfl (hb hby at_94) _ ?_
        refine XS.iand X334.here hx rfl (hb hby at_96) rfl ?_
        refine zi X334 Bd at_97 rfl ?_
        refine zc X334 Bd at_99 ?_
        refine XS.iadd X334.here hx rfl (hb hby at_100) rfl ?_
        refine iremM X334 hx (g := (mkF m 101 #[iv p1, iv p2, iv p3, iv p4, iv p5, iv (ab3_ p1), iv (ab1_ p1), iv (ab4_ p2), iv (ab2_ p2), iv (ab7_ p3), rv b1, iv (ab5_ p3 p4), .unset, .unset] [(.int (ab0_ p3)), (.int (p5 &&& (2147483647 : Int32)))])) rfl (hb hby at_101) rfl (own_sub (p := fun z_ => ¬ ((z_ + (1 : Int32)) = (0 : Int32))) hc321 (by decide)) ?_
        refine zs X334 Bd at_102 (l' := #[iv p1, iv p2, iv p3, iv p4, iv p5, iv (ab3_ p1), iv (ab1_ p1), iv (ab4_ p2), iv (ab2_ p2), iv (ab7_ p3), rv b1, iv (ab5_ p3 p4), iv (ab6_ p3 p5), .unset]) rfl ?_
        exact k)
       refine cps (A := ∃ T354 : State, ∃ L354 : List Loc, ∃ h354 : Heap, ∃ ex_ : Int32, Stand p l e room_1 (s.setVm s.vm) m #[.int p1, .int p2, .int p3, .int p4, .int p5] below meth c T354 L354 4 16 ∧ T354.heap = h354 ∧ Fr n0 L354 ∧ Keep T334.heap h354 [] ∧ (ex_ = own_ex (ab5_ p3 p4) (ab6_ p3 p5) (ab3_ p1) (ab1_ p1) (ab4_ p2) (ab2_ p2)) ∧ Pr p e below T354 m 170 #[iv p1, iv p2, iv p3, iv p4, iv p5, iv (ab3_ p1), iv (ab1_ p1), iv (ab4_ p2), iv (ab2_ p2), iv (ab7_ p3), rv b1, iv (ab5_ p3 p4), iv (ab6_ p3 p5), iv ex_] [] s₁ en) (fun kont354 => ?_) (fun hA354 => ?_)
       ·
        skip
        have pr355 : Pr p e below T334 m 108 #[iv p1, iv p2, iv p3, iv p4, iv p5, iv (ab3_ p1), iv (ab1_ p1), iv (ab4_ p2), iv (ab2_ p2), iv (ab7_ p3), rv b1, iv (ab5_ p3 p4), iv (ab6_ p3 p5), .unset] [(.int (ab6_ p3 p5)), (.int (ab5_ p3 p4))] s₁ en := fun t k => pr353 t (by
         show Sx p e below T334 m 104 #[iv p1, iv p2, iv p3, iv p4, iv p5, iv (ab3_ p1), iv (ab1_ p1), iv (ab4_ p2), iv (ab2_ p2), iv (ab7_ p3), rv b1, iv (ab5_ p3 p4), iv (ab6_ p3 p5), .unset] [] _
         refine zi X334 Bd at_104 rfl ?_
         refine zi X334 Bd at_106 rfl ?_
         exact k)
        by_cases hc356 : (ab5_ p3 p4) < (ab6_ p3 p5)
        ·
         skip
         have O358 := O338.keep K334q (allS g_b1 all0)
         obtain ⟨_, T357, L357, X357, hQ357, st357⟩ := own_cS 4 16 [] 118 #[iv p1, iv p2, iv p3, iv p4, iv p5, iv (ab3_ p1), iv (ab1_ p1), iv (ab4_ p2), iv (ab2_ p2), iv (ab7_ p3), rv b1, iv (ab5_ p3 p4), iv (ab6_ p3 p5), .unset] X334 hx hZ hown (w62_ hw) (w63_ hw) (w6_ hw) (w64_ hw) (rm4 l Z a0 hw  (ab5_ p3 p4) (ab6_ p3 p5) (ab3_ p1) T334.heap n0 O358 ) pd3 hml.symm (hb hby at_118) rfl rfl rfl rfl rfl (by decide)
         obtain ⟨rfl, N357q, e357q⟩ := hQ357
         have N357 := Fr.app N334 N357q
         have pr359 : Pr p e below T357 m 121 #[iv p1, iv p2, iv p3, iv p4, iv p5, iv (ab3_ p1), iv (ab1_ p1), iv (ab4_ p2), iv (ab2_ p2), iv (ab7_ p3), rv b1, iv (ab5_ p3 p4), iv (ab6_ p3 p5), .unset] [(.int (own_fine (0 : Int32) (ab5_ p3 p4) (ab6_ p3 p5) (ab3_ p1)))] s₁ en := fun t k => pr355 t (by
          show Sx p e below T334 m 108 #[iv p1, iv p2, iv p3, iv p4, iv p5, iv (ab3_ p1), iv (ab1_ p1), iv (ab4_ p2), iv (ab2_ p2), iv (ab7_ p3), rv b1, iv (ab5_ p3 p4), iv (ab6_ p3 p5), .unset] [(.int (ab6_ p3 p5)), (.int (ab5_ p3 p4))] _
          refine zn X334 Bd at_108 (XT.ii_ge_f (hc356 : (ab5_ p3 p4) < (ab6_ p3 p5))) ?_
          refine zc X334 Bd at_111 ?_
          refine zi X334 Bd at_112 rfl ?_
          refine zi X334 Bd at_114 rfl ?_
          refine zi X334 Bd at_116 rfl ?_
          refine st357 _ ?_
          exact k)
         by_cases hc360 : (own_fine (0 : Int32) (ab5_ p3 p4) (ab6_ p3 p5) (ab3_ p1)) = (0 : Int32)
         ·
          skip
          have pr361 : Pr p e below T357 m 170 #[iv p1, iv p2, iv p3, iv p4, iv p5, iv (ab3_ p1), iv (ab1_ p1), iv (ab4_ p2), iv (ab2_ p2), iv (ab7_ p3), rv b1, iv (ab5_ p3 p4), iv (ab6_ p3 p5), iv 0] [] s₁ en := fun t k => pr359 t (by
           show Sx p e below T357 m 121 #[iv p1, iv p2, iv p3, iv p4, iv p5, iv (ab3_ p1), iv (ab1_ p1), iv (ab4_ p2), iv (ab2_ p2), iv (ab7_ p3), rv b1, iv (ab5_ p3 p4), iv (ab6_ p3 p5), .unset] [(.int (own_fine (0 : Int32) (ab5_ p3 p4) (ab6_ p3 p5) (ab3_ p1)))] _
           refine zp (pc' := 167) X357 Bd at_121 (XT.i0_eq_t (hc360 : (own_fine (0 : Int32) (ab5_ p3 p4) (ab6_ p3 p5) (ab3_ p1)) = (0 : Int32))) rfl ?_
           refine zc X357 Bd at_167 ?_
           refine zs X357 Bd at_168 (l' := #[iv p1, iv p2, iv p3, iv p4, iv p5, iv (ab3_ p1), iv (ab1_ p1), iv (ab4_ p2), iv (ab2_ p2), iv (ab7_ p3), rv b1, iv (ab5_ p3 p4), iv (ab6_ p3 p5), iv 0]) rfl ?_
           exact k)
          exact kont354 ⟨T357, _, T334.heap, (0 : Int32), (X357.mono (lE rfl) (lE rfl)), e357q, N357, (Keep.refl T334.heap []), (by rw [own_ex, if_pos hc356, if_pos hc360]), (fun t k => pr361 t k)⟩
         ·
          skip
          obtain ⟨_, T362, L362, X362, hQ362, st362⟩ := own_cS 4 16 [] 131 #[iv p1, iv p2, iv p3, iv p4, iv p5, iv (ab3_ p1), iv (ab1_ p1), iv (ab4_ p2), iv (ab2_ p2), iv (ab7_ p3), rv b1, iv (ab5_ p3 p4), iv (ab6_ p3 p5), .unset] X357 hx hZ hown (w62_ hw) (w63_ hw) (w6_ hw) (w64_ hw) (rm5 l Z a0 hw  (ab5_ p3 p4) (ab6_ p3 p5) (ab1_ p1) T334.heap n0 O358 ) pd3 hml.symm (hb hby at_131) e357q rfl rfl rfl rfl (by decide)
          obtain ⟨rfl, N362q, e362q⟩ := hQ362
          have N362 := Fr.app N357 N362q
          have pr363 : Pr p e below T362 m 134 #[iv p1, iv p2, iv p3, iv p4, iv p5, iv (ab3_ p1), iv (ab1_ p1), iv (ab4_ p2), iv (ab2_ p2), iv (ab7_ p3), rv b1, iv (ab5_ p3 p4), iv (ab6_ p3 p5), .unset] [(.int (own_fine (1 : Int32) (ab5_ p3 p4) (ab6_ p3 p5) (ab1_ p1)))] s₁ en := fun t k => pr359 t (by
           show Sx p e below T357 m 121 #[iv p1, iv p2, iv p3, iv p4, iv p5, iv (ab3_ p1), iv (ab1_ p1), iv (ab4_ p2), iv (ab2_ p2), iv (ab7_ p3), rv b1, iv (ab5_ p3 p4), iv (ab6_ p3 p5), .unset] [(.int (own_fine (0 : Int32) (ab5_ p3 p4) (ab6_ p3 p5) (ab3_ p1)))] _
           refine zo X357 Bd at_121 (XT.i0_eq_f (hc360 : ¬ ((own_fine (0 : Int32) (ab5_ p3 p4) (ab6_ p3 p5) (ab3_ p1)) = (0 : Int32)))) ?_
           refine zc X357 Bd at_124 ?_
           refine zi X357 Bd at_125 rfl ?_
           refine zi X357 Bd at_127 rfl ?_
           refine zi X357 Bd at_129 rfl ?_
           refine st362 _ ?_
           exact k)
          by_cases hc364 : (own_fine (1 : Int32) (ab5_ p3 p4) (ab6_ p3 p5) (ab1_ p1)) = (0 : Int32)
          ·
           skip
           have pr365 : Pr p e below T362 m 170 #[iv p1, iv p2, iv p3, iv p4, iv p5, iv (ab3_ p1), iv (ab1_ p1), iv (ab4_ p2), iv (ab2_ p2), iv (ab7_ p3), rv b1, iv (ab5_ p3 p4), iv (ab6_ p3 p5), iv 0] [] s₁ en := fun t k => pr363 t (by
            show Sx p e below T362 m 134 #[iv p1, iv p2, iv p3, iv p4, iv p5, iv (ab3_ p1), iv (ab1_ p1), iv (ab4_ p2), iv (ab2_ p2), iv (ab7_ p3), rv b1, iv (ab5_ p3 p4), iv (ab6_ p3 p5), .unset] [(.int (own_fine (1 : Int32) (ab5_ p3 p4) (ab6_ p3 p5) (ab1_ p1)))] _
            refine zp (pc' := 167) X362 Bd at_134 (XT.i0_eq_t (hc364 : (own_fine (1 : Int32) (ab5_ p3 p4) (ab6_ p3 p5) (ab1_ p1)) = (0 : Int32))) rfl ?_
            refine zc X362 Bd at_167 ?_
            refine zs X362 Bd at_168 (l' := #[iv p1, iv p2, iv p3, iv p4, iv p5, iv (ab3_ p1), iv (ab1_ p1), iv (ab4_ p2), iv (ab2_ p2), iv (ab7_ p3), rv b1, iv (ab5_ p3 p4), iv (ab6_ p3 p5), iv 0]) rfl ?_
            exact k)
           exact kont354 ⟨T362, _, T334.heap, (0 : Int32), (X362.mono (lE rfl) (lE rfl)), e362q, N362, (Keep.refl T334.heap []), (by rw [own_ex, if_pos hc356, if_neg hc360, if_pos hc364]), (fun t k => pr365 t k)⟩
          ·
           skip
           obtain ⟨_, T366, L366, X366, hQ366, st366⟩ := own_cS 4 16 [] 144 #[iv p1, iv p2, iv p3, iv p4, iv p5, iv (ab3_ p1), iv (ab1_ p1), iv (ab4_ p2), iv (ab2_ p2), iv (ab7_ p3), rv b1, iv (ab5_ p3 p4), iv (ab6_ p3 p5), .unset] X362 hx hZ hown (w62_ hw) (w63_ hw) (w6_ hw) (w64_ hw) (rm6 l Z a0 hw  (ab5_ p3 p4) (ab6_ p3 p5) (ab4_ p2) T334.heap n0 O358 ) pd3 hml.symm (hb hby at_144) e362q rfl rfl rfl rfl (by decide)
           obtain ⟨rfl, N366q, e366q⟩ := hQ366
           have N366 := Fr.app N362 N366q
           have pr367 : Pr p e below T366 m 147 #[iv p1, iv p2, iv p3, iv p4, iv p5, iv (ab3_ p1), iv (ab1_ p1), iv (ab4_ p2), iv (ab2_ p2), iv (ab7_ p3), rv b1, iv (ab5_ p3 p4), iv (ab6_ p3 p5), .unset] [(.int (own_fine (2 : Int32) (ab5_ p3 p4) (ab6_ p3 p5) (ab4_ p2)))] s₁ en := fun t k => pr363 t (by
            show Sx p e below T362 m 134 #[iv p1, iv p2, iv p3, iv p4, iv p5, iv (ab3_ p1), iv (ab1_ p1), iv (ab4_ p2), iv (ab2_ p2), iv (ab7_ p3), rv b1, iv (ab5_ p3 p4), iv (ab6_ p3 p5), .unset] [(.int (own_fine (1 : Int32) (ab5_ p3 p4) (ab6_ p3 p5) (ab1_ p1)))] _
            refine zo X362 Bd at_134 (XT.i0_eq_f (hc364 : ¬ ((own_fine (1 : Int32) (ab5_ p3 p4) (ab6_ p3 p5) (ab1_ p1)) = (0 : Int32)))) ?_
            refine zc X362 Bd at_137 ?_
            refine zi X362 Bd at_138 rfl ?_
            refine zi X362 Bd at_140 rfl ?_
            refine zi X362 Bd at_142 rfl ?_
            refine st366 _ ?_
            exact k)
           by_cases hc368 : (own_fine (2 : Int32) (ab5_ p3 p4) (ab6_ p3 p5) (ab4_ p2)) = (0 : Int32)
           ·
            skip
            have pr369 : Pr p e below T366 m 170 #[iv p1, iv p2, iv p3, iv p4, iv p5, iv (ab3_ p1), iv (ab1_ p1), iv (ab4_ p2), iv (ab2_ p2), iv (ab7_ p3), rv b1, iv (ab5_ p3 p4), iv (ab6_ p3 p5), iv 0] [] s₁ en := fun t k => pr367 t (by
             show Sx p e below T366 m 147 #[iv p1, iv p2, iv p3, iv p4, iv p5, iv (ab3_ p1), iv (ab1_ p1), iv (ab4_ p2), iv (ab2_ p2), iv (ab7_ p3), rv b1, iv (ab5_ p3 p4), iv (ab6_ p3 p5), .unset] [(.int (own_fine (2 : Int32) (ab5_ p3 p4) (ab6_ p3 p5) (ab4_ p2)))] _
             refine zp (pc' := 167) X366 Bd at_147 (XT.i0_eq_t (hc368 : (own_fine (2 : Int32) (ab5_ p3 p4) (ab6_ p3 p5) (ab4_ p2)) = (0 : Int32))) rfl ?_
             refine zc X366 Bd at_167 ?_
             refine zs X366 Bd at_168 (l' := #[iv p1, iv p2, iv p3, iv p4, iv p5, iv (ab3_ p1), iv (ab1_ p1), iv (ab4_ p2), iv (ab2_ p2), iv (ab7_ p3), rv b1, iv (ab5_ p3 p4), iv (ab6_ p3 p5), iv 0]) rfl ?_
             exact k)
            exact kont354 ⟨T366, _, T334.heap, (0 : Int32), (X366.mono (lE rfl) (lE rfl)), e366q, N366, (Keep.refl T334.heap []), (by rw [own_ex, if_pos hc356, if_neg hc360, if_neg hc364, if_pos hc368]), (fun t k => pr369 t k)⟩
           ·
            skip
            obtain ⟨_, T370, L370, X370, hQ370, st370⟩ := own_cS 4 16 [] 157 #[iv p1, iv p2, iv p3, iv p4, iv p5, iv (ab3_ p1), iv (ab1_ p1), iv (ab4_ p2), iv (ab2_ p2), iv (ab7_ p3), rv b1, iv (ab5_ p3 p4), iv (ab6_ p3 p5), .unset] X366 hx hZ hown (w62_ hw) (w63_ hw) (w6_ hw) (w64_ hw) (rm7 l Z a0 hw  (ab5_ p3 p4) (ab6_ p3 p5) (ab2_ p2) T334.heap n0 O358 ) pd3 hml.symm (hb hby at_157) e366q rfl rfl rfl rfl (by decide)
            obtain ⟨rfl, N370q, e370q⟩ := hQ370
            have N370 := Fr.app N366 N370q
            have pr371 : Pr p e below T370 m 160 #[iv p1, iv p2, iv p3, iv p4, iv p5, iv (ab3_ p1), iv (ab1_ p1), iv (ab4_ p2), iv (ab2_ p2), iv (ab7_ p3), rv b1, iv (ab5_ p3 p4), iv (ab6_ p3 p5), .unset] [(.int (own_fine (3 : Int32) (ab5_ p3 p4) (ab6_ p3 p5) (ab2_ p2)))] s₁ en := fun t k => pr367 t (by
             show Sx p e below T366 m 147 #[iv p1, iv p2, iv p3, iv p4, iv p5, iv (ab3_ p1), iv (ab1_ p1), iv (ab4_ p2), iv (ab2_ p2), iv (ab7_ p3), rv b1, iv (ab5_ p3 p4), iv (ab6_ p3 p5), .unset] [(.int (own_fine (2 : Int32) (ab5_ p3 p4) (ab6_ p3 p5) (ab4_ p2)))] _
             refine zo X366 Bd at_147 (XT.i0_eq_f (hc368 : ¬ ((own_fine (2 : Int32) (ab5_ p3 p4) (ab6_ p3 p5) (ab4_ p2)) = (0 : Int32)))) ?_
             refine zc X366 Bd at_150 ?_
             refine zi X366 Bd at_151 rfl ?_
             refine zi X366 Bd at_153 rfl ?_
             refine zi X366 Bd at_155 rfl ?_
             refine st370 _ ?_
             exact k)
            by_cases hc372 : (own_fine (3 : Int32) (ab5_ p3 p4) (ab6_ p3 p5) (ab2_ p2)) = (0 : Int32)
            ·
             skip
             have pr373 : Pr p e below T370 m 170 #[iv p1, iv p2, iv p3, iv p4, iv p5, iv (ab3_ p1), iv (ab1_ p1), iv (ab4_ p2), iv (ab2_ p2), iv (ab7_ p3), rv b1, iv (ab5_ p3 p4), iv (ab6_ p3 p5), iv 0] [] s₁ en := fun t k => pr371 t (by
              show Sx p e below T370 m 160 #[iv p1, iv p2, iv p3, iv p4, iv p5, iv (ab3_ p1), iv (ab1_ p1), iv (ab4_ p2), iv (ab2_ p2), iv (ab7_ p3), rv b1, iv (ab5_ p3 p4), iv (ab6_ p3 p5), .unset] [(.int (own_fine (3 : Int32) (ab5_ p3 p4) (ab6_ p3 p5) (ab2_ p2)))] _
              refine zp (pc' := 167) X370 Bd at_160 (XT.i0_eq_t (hc372 : (own_fine (3 : Int32) (ab5_ p3 p4) (ab6_ p3 p5) (ab2_ p2)) = (0 : Int32))) rfl ?_
              refine zc X370 Bd at_167 ?_
              refine zs X370 Bd at_168 (l' := #[iv p1, iv p2, iv p3, iv p4, iv p5, iv (ab3_ p1), iv (ab1_ p1), iv (ab4_ p2), iv (ab2_ p2), iv (ab7_ p3), rv b1, iv (ab5_ p3 p4), iv (ab6_ p3 p5), iv 0]) rfl ?_
              exact k)
             exact kont354 ⟨T370, _, T334.heap, (0 : Int32), (X370.mono (lE rfl) (lE rfl)), e370q, N370, (Keep.refl T334.heap []), (by rw [own_ex, if_pos hc356, if_neg hc360, if_neg hc364, if_neg hc368, if_pos hc372]), (fun t k => pr373 t k)⟩
            ·
             skip
             have pr374 : Pr p e below T370 m 170 #[iv p1, iv p2, iv p3, iv p4, iv p5, iv (ab3_ p1), iv (ab1_ p1), iv (ab4_ p2), iv (ab2_ p2), iv (ab7_ p3), rv b1, iv (ab5_ p3 p4), iv (ab6_ p3 p5), iv 1] [] s₁ en := fun t k => pr371 t (by
              show Sx p e below T370 m 160 #[iv p1, iv p2, iv p3, iv p4, iv p5, iv (ab3_ p1), iv (ab1_ p1), iv (ab4_ p2), iv (ab2_ p2), iv (ab7_ p3), rv b1, iv (ab5_ p3 p4), iv (ab6_ p3 p5), .unset] [(.int (own_fine (3 : Int32) (ab5_ p3 p4) (ab6_ p3 p5) (ab2_ p2)))] _
              refine zo X370 Bd at_160 (XT.i0_eq_f (hc372 : ¬ ((own_fine (3 : Int32) (ab5_ p3 p4) (ab6_ p3 p5) (ab2_ p2)) = (0 : Int32)))) ?_
              refine zc X370 Bd at_163 ?_
              refine zg (pc' := 168) X370 Bd at_164 rfl ?_
              refine zs X370 Bd at_168 (l' := #[iv p1, iv p2, iv p3, iv p4, iv p5, iv (ab3_ p1), iv (ab1_ p1), iv (ab4_ p2), iv (ab2_ p2), iv (ab7_ p3), rv b1, iv (ab5_ p3 p4), iv (ab6_ p3 p5), iv 1]) rfl ?_
              exact k)
             exact kont354 ⟨T370, _, T334.heap, (1 : Int32), (X370.mono (lE rfl) (lE rfl)), e370q, N370, (Keep.refl T334.heap []), (by rw [own_ex, if_pos hc356, if_neg hc360, if_neg hc364, if_neg hc368, if_neg hc372]), (fun t k => pr374 t k)⟩
        ·
         skip
         have pr375 : Pr p e below T334 m 170 #[iv p1, iv p2, iv p3, iv p4, iv p5, iv (ab3_ p1), iv (ab1_ p1), iv (ab4_ p2), iv (ab2_ p2), iv (ab7_ p3), rv b1, iv (ab5_ p3 p4), iv (ab6_ p3 p5), iv 0] [] s₁ en := fun t k => pr355 t (by
          show Sx p e below T334 m 108 #[iv p1, iv p2, iv p3, iv p4, iv p5, iv (ab3_ p1), iv (ab1_ p1), iv (ab4_ p2), iv (ab2_ p2), iv (ab7_ p3), rv b1, iv (ab5_ p3 p4), iv (ab6_ p3 p5), .unset] [(.int (ab6_ p3 p5)), (.int (ab5_ p3 p4))] _
          refine zy (pc' := 167) X334 Bd at_108 (XT.ii_ge_t (hc356 : ¬ ((ab5_ p3 p4) < (ab6_ p3 p5)))) rfl ?_
          refine zc X334 Bd at_167 ?_
          refine zs X334 Bd at_168 (l' := #[iv p1, iv p2, iv p3, iv p4, iv p5, iv (ab3_ p1), iv (ab1_ p1), iv (ab4_ p2), iv (ab2_ p2), iv (ab7_ p3), rv b1, iv (ab5_ p3 p4), iv (ab6_ p3 p5), iv 0]) rfl ?_
          exact k)
         exact kont354 ⟨T334, _, T334.heap, (0 : Int32), (X334.mono (lE rfl) (lE rfl)), rfl, N334, (Keep.refl T334.heap []), (by rw [own_ex, if_neg hc356]), (fun t k => pr375 t k)⟩
       ·
        obtain ⟨T354, L354, h354, ex_, X354, e354, N354, K354j, hp354_0, pr354⟩ := hA354
        have K376 := K346.trans K354j (fun x q => nomatch q)
        have C377 : CHv Z consts_1 s.vm h354 := CHv.keep K354j sf0 C347
        have R378 : CHr Z consts_1 s.vm h0 s.vm h354 := R350.trans (CHr.keep K354j sf0 C347)
        have F380_ := w344.keep K354j nin0
        have F381_ := w343.keep K354j nin0
        have A382_ := w345.keep K354j nin0
        have E383_ := E335_.keep K334q
        have E384_ := E383_.keep K354j
        have O385 := O338.keep K334q (allS g_b1 all0)
        have O386 := O385.keep K354j all0
        obtain ⟨_, T379, L379, X379, hQ379, st379⟩ := own_cS 4 16 [] 176 #[iv p1, iv p2, iv p3, iv p4, iv p5, iv (ab3_ p1), iv (ab1_ p1), iv (ab4_ p2), iv (ab2_ p2), iv (ab7_ p3), rv b1, iv (ab5_ p3 p4), iv (ab6_ p3 p5), iv ex_] X354 hx hZ hown (w35_ hw) (w36_ hw) (w37_ hw) (w38_ hw) (rm69 l Z a0 hw G1 G3 b1 (ab5_ p3 p4) (ab6_ p3 p5) b339 c340_ (((((ab3_ p1) >>> ((0 : Int32) &&& 31)))).toInt8.toInt32) (((((ab3_ p1) >>> ((8 : Int32) &&& 31)))).toInt8.toInt32) (((((ab1_ p1) >>> ((0 : Int32) &&& 31)))).toInt8.toInt32) (((((ab1_ p1) >>> ((8 : Int32) &&& 31)))).toInt8.toInt32) (((((ab4_ p2) >>> ((0 : Int32) &&& 31)))).toInt8.toInt32) (((((ab4_ p2) >>> ((8 : Int32) &&& 31)))).toInt8.toInt32) h354 n0 O386 O2 P5 O4 rG3 uS12 uS15 uS18 F380_ F381_ A382_ (own_rb p4 hc321 (k := 3) (by decide)).1 (own_rb p5 hc321 (k := 3) (by decide)).2 E384_) pd5 hml.symm (hb hby at_176) e354 rfl rfl rfl rfl (by decide)
        obtain ⟨rfl, N379q, e379q⟩ := hQ379
        have N379 := Fr.app N354 N379q
        have hk387' : _ ≤ h354.size := (Nat.le_trans (Nat.le_trans (Nat.le_trans (Nat.le_trans hk0 E1.1) K322q.1) K334q.1) K354j.1)
        refine own_lvW X379 Bd.notSynchronized hS0 hk387' (v := (some (.int 1))) (fun h => by rw [Bd.returns] at h; cases h) e379q hh ⟨rfl, N379⟩ (R378.trans (CHv.at X379 hZ hEL C377)) (lE rfl) (lE rfl) (fun fs hr => pr354 _ (by
         show Sx p e below T354 m 170 #[iv p1, iv p2, iv p3, iv p4, iv p5, iv (ab3_ p1), iv (ab1_ p1), iv (ab4_ p2), iv (ab2_ p2), iv (ab7_ p3), rv b1, iv (ab5_ p3 p4), iv (ab6_ p3 p5), iv ex_] [] _
         refine za X354 Bd at_170 rfl rfl ?_
         refine zi X354 Bd at_172 rfl ?_
         refine zi X354 Bd at_174 rfl ?_
         refine st379 _ ?_
         refine zi X379 Bd at_179 rfl ?_
         refine zn X379 Bd at_181 (XT.ii_ne_f ((((congrArg (fun l => own_isd l (ab5_ p3 p4) (ab6_ p3 p5)) ((own_cons (own_get16 (own_nar_i2c _)) (own_cons (own_get16 (own_nar_i2c _)) (own_cons (own_get16 (own_nar_i2c _)) rfl))) : (own_L3 (((((ab3_ p1) >>> ((0 : Int32) &&& 31)))).toInt8.toInt32) (((((ab3_ p1) >>> ((8 : Int32) &&& 31)))).toInt8.toInt32) (((((ab1_ p1) >>> ((0 : Int32) &&& 31)))).toInt8.toInt32) (((((ab1_ p1) >>> ((8 : Int32) &&& 31)))).toInt8.toInt32) (((((ab4_ p2) >>> ((0 : Int32) &&& 31)))).toInt8.toInt32) (((((ab4_ p2) >>> ((8 : Int32) &&& 31)))).toInt8.toInt32)) = ([(ab3_ p1), (ab1_ p1), (ab4_ p2)] : List Int32))).trans (own_fin3 (ab5_ p3 p4) (ab6_ p3 p5) (ab3_ p1) (ab1_ p1) (ab4_ p2) (ab2_ p2) (own_rb p4 hc321 (k := 3) (by decide)).1 (own_rb p4 hc321 (k := 3) (by decide)).2 (own_rb p5 hc321 (k := 3) (by decide)).1 (own_rb p5 hc321 (k := 3) (by decide)).2)).trans hp354_0.symm) : (own_isd (own_L3 (((((ab3_ p1) >>> ((0 : Int32) &&& 31)))).toInt8.toInt32) (((((ab3_ p1) >>> ((8 : Int32) &&& 31)))).toInt8.toInt32) (((((ab1_ p1) >>> ((0 : Int32) &&& 31)))).toInt8.toInt32) (((((ab1_ p1) >>> ((8 : Int32) &&& 31)))).toInt8.toInt32) (((((ab4_ p2) >>> ((0 : Int32) &&& 31)))).toInt8.toInt32) (((((ab4_ p2) >>> ((8 : Int32) &&& 31)))).toInt8.toInt32)) (ab5_ p3 p4) (ab6_ p3 p5)) = ex_)) ?_
         refine zc X379 Bd at_184 ?_
         refine zg (pc' := 189) X379 Bd at_185 rfl ?_
         exact retN X379 hx (t := .boolean) Bd.returns (by simp) (hb hby at_189) hr))
      ·
       skip
       have O389 := O338.keep K334q (allS g_b1 all0)
       obtain ⟨_, T388, L388, X388, hQ388, st388⟩ := own_cS 4 16 [] 69 #[iv p1, iv p2, iv p3, iv p4, iv p5, iv (ab3_ p1), iv (ab1_ p1), iv (ab4_ p2), iv (ab2_ p2), iv (ab7_ p3), rv b1, .unset, .unset, .unset] X334 hx hZ hown (w35_ hw) (w36_ hw) (w37_ hw) (w38_ hw) (rm9 l Z a0 hw  b1 p4 p5 T334.heap n0 O389 hc352) pd5 hml.symm (hb hby at_69) rfl rfl rfl rfl rfl (by decide)
       obtain ⟨rfl, N388q, e388q⟩ := hQ388
       have N388 := Fr.app N334 N388q
       have hk390' : _ ≤ T334.heap.size := (Nat.le_trans (Nat.le_trans (Nat.le_trans hk0 E1.1) K322q.1) K334q.1)
       refine own_lvW X388 Bd.notSynchronized hS0 hk390' (v := (some (.int 1))) (fun h => by rw [Bd.returns] at h; cases h) e388q hh ⟨rfl, N388⟩ (R350.trans (CHv.at X388 hZ hEL C347)) (lE rfl) (lE rfl) (fun fs hr => pr351 _ (by
        show Sx p e below T334 m 61 #[iv p1, iv p2, iv p3, iv p4, iv p5, iv (ab3_ p1), iv (ab1_ p1), iv (ab4_ p2), iv (ab2_ p2), iv (ab7_ p3), rv b1, .unset, .unset, .unset] [.int p5, .int p4] _
        refine zn X334 Bd at_61 (XT.ii_lt_f (hc352 : ¬ (p4 < p5))) ?_
        refine za X334 Bd at_64 rfl rfl ?_
        refine zj X334 Bd at_66 rfl ?_
        refine zi X334 Bd at_67 rfl ?_
        refine st388 _ ?_
        refine zo X388 Bd at_72 (XT.i0_ne_f ((by decide) : (0 : Int32) = (0 : Int32))) ?_
        refine zc X388 Bd at_75 ?_
        refine zg (pc' := 80) X388 Bd at_76 rfl ?_
        exact retN X388 hx (t := .boolean) Bd.returns (by simp) (hb hby at_80) hr))
     ·
      skip
      have hp392 : ∀ c ∈ ([(ab3_ p1), (ab1_ p1), (ab4_ p2)] : List Int32), ¬ c < 0 ∧ ¬ (255 : Int32) < c := (List.forall_mem_cons.mpr ⟨(And.intro (own_ch0 (own_nar_i2c _)) (own_maxle hc333 (mI 0 rfl))), (List.forall_mem_cons.mpr ⟨(And.intro (own_ch0 (own_nar_i2c _)) (own_maxle hc333 (mI 1 rfl))), (List.forall_mem_cons.mpr ⟨(And.intro (own_ch0 (own_nar_i2c _)) (own_maxle hc333 (mI 2 rfl))), (fun _ q => nomatch q)⟩)⟩)⟩)
      have g_b1 : n0 ≤ b1 := Nat.le_trans (Nat.le_trans (Nat.le_of_eq X00.1.symm) X00.2.1) (Nat.le_of_eq g1.symm)
      have O393 := O323.keep K322q all0
      have E394_ := A1.keep K322q
      have F395_ := F6_.keep K322q nin0
      have F396_ := F5_.keep K322q nin0
      obtain ⟨_, T391, L391, X391, hQ391, st391⟩ := own_cb 2 7 1 3 3 10 (X322.specialBack hx (y := Y2_) rfl hown (mvT hZ (w9_ hw)) (mvT hZ (w10_ hw)) (mvT hZ (w11_ hw)) (by decide) (StrChars.Road.backV (s := s.setVm s.vm) (W := 1) hZ (own_ws hw) (kI := 4) (w2_ hw) (cs := ([(ab3_ p1), (ab1_ p1), (ab4_ p2)] : List Int32)) (bs := ([(ab3_ p1), (ab1_ p1), (ab4_ p2)] : List Int32).map (fun c => c.toInt8.toInt32)) (n := 3) g_b1 (Nat.le_trans (Nat.le_of_eq O393.1.symm) O393.2.1) E394_ F395_ F396_ w327 (O2.ext O393.2) P5 rfl rfl (lE rfl) (lE rfl) hp392 rfl (lE rfl) (lE rfl)) (g := (mkF m 53 #[iv p1, iv p2, iv p3, iv p4, iv p5, iv (ab3_ p1), iv (ab1_ p1), iv (ab4_ p2), iv (ab2_ p2), iv (ab7_ p3), .unset, .unset, .unset, .unset] [.ref b324, .ref b1, .ref b1])) rfl hml.symm (Steps.refl _) (a := b1) (argsL := [.ref b324]) (rest := [.ref b1]) (lenOf pd2 rfl) rfl (own_hw rfl) (hb hby at_53) (fun _ _ => ⟨rfl, rfl, (lE rfl : 2 + 1 ≤ _), (lE rfl : 7 + 3 ≤ _)⟩)) rfl rfl
      obtain ⟨rfl, N391q, K391q, E391q, C391q, b397, c397_, u397, g397, ne397, V397_, A397_⟩ := hQ391
      have N391 := Fr.app N322 N391q
      have sz_b1 : h0.size ≤ b1 := (Nat.le_of_eq g1.symm)
      have K398 := K328.trans K391q (allS (Or.inr sz_b1) all0)
      have f400 : Safe Z consts_1 s.vm h1 b1 := Safe.ext E1 hC0 (Safe.new (Nat.le_of_eq g1.symm))
      have f401 : Safe Z consts_1 s.vm T322.heap b1 := Safe.keep K322q sf0 C3 f400
      have C399 : CHv Z consts_1 s.vm T391.heap := CHv.keep K391q (sfS f401 sf0) C329
      have R402 : CHr Z consts_1 s.vm h0 s.vm T391.heap := R330.trans (CHr.keep K391q (sfS f401 sf0) C329)
      have pr403 : Pr p e below T391 m 61 #[iv p1, iv p2, iv p3, iv p4, iv p5, iv (ab3_ p1), iv (ab1_ p1), iv (ab4_ p2), iv (ab2_ p2), iv (ab7_ p3), rv b1, .unset, .unset, .unset] [.int p5, .int p4] s₁ en := fun t k => pr332 t (by
       show Sx p e below T322 m 53 #[iv p1, iv p2, iv p3, iv p4, iv p5, iv (ab3_ p1), iv (ab1_ p1), iv (ab4_ p2), iv (ab2_ p2), iv (ab7_ p3), .unset, .unset, .unset, .unset] [.ref b324, .ref b1, .ref b1] _
       refine st391.trans ?_
       refine XS.astore X391.here hx rfl (hb hby at_56) rfl rfl (l' := #[iv p1, iv p2, iv p3, iv p4, iv p5, iv (ab3_ p1), iv (ab1_ p1), iv (ab4_ p2), iv (ab2_ p2), iv (ab7_ p3), rv b1, .unset, .unset, .unset]) rfl ?_
       refine zj X391 Bd at_58 rfl ?_
       refine zi X391 Bd at_59 rfl ?_
       exact k)
      by_cases hc404 : p4 < p5
      ·
       skip
       have pr405 : Pr p e below T391 m 104 #[iv p1, iv p2, iv p3, iv p4, iv p5, iv (ab3_ p1), iv (ab1_ p1), iv (ab4_ p2), iv (ab2_ p2), iv (ab7_ p3), rv b1, iv (ab5_ p3 p4), iv (ab6_ p3 p5), .unset] [] s₁ en := fun t k => pr403 t (by
        show Sx p e below T391 m 61 #[iv p1, iv p2, iv p3, iv p4, iv p5, iv (ab3_ p1), iv (ab1_ p1), iv (ab4_ p2), iv (ab2_ p2), iv (ab7_ p3), rv b1, .unset, .unset, .unset] [.int p5, .int p4] _
        refine zy (pc' := 81) X391 Bd at_61 (XT.ii_lt_t (hc404 : p4 < p5)) rfl ?_
        refine zj X391 Bd at_81 rfl ?_
        refine X391.ldcInt hx hown (mvT hZ (w61_ hw)) (g := (mkF m 82 #[iv p1, iv p2, iv p3, iv p4, iv p5, iv (ab3_ p1), iv (ab1_ p1), iv (ab4_ p2), iv (ab2_ p2), iv (ab7_ p3), rv b1, .unset, .unset, .unset] [.int p4])) rfl (hb hby at_82) _ ?_
        refine XS.iand X391.here hx rfl (hb hby at_84) rfl ?_
        refine zi X391 Bd at_85 rfl ?_
        refine zc X391 Bd at_87 ?_
        refine XS.iadd X391.here hx rfl (hb hby at_88) rfl ?_
        refine iremM X391 hx (g := (mkF m 89 #[iv p1, iv p2, iv p3, iv p4, iv p5, iv (ab3_ p1), iv (ab1_ p1), iv (ab4_ p2), iv (ab2_ p2), iv (ab7_ p3), rv b1, .unset, .unset, .unset] [(.int (ab0_ p3)), (.int (p4 &&& (2147483647 : Int32)))])) rfl (hb hby at_89) rfl (own_sub (p := fun z_ => ¬ ((z_ + (1 : Int32)) = (0 : Int32))) hc321 (by decide)) ?_
        refine zs X391 Bd at_90 (l' := #[iv p1, iv p2, iv p3, iv p4, iv p5, iv (ab3_ p1), iv (ab1_ p1), iv (ab4_ p2), iv (ab2_ p2), iv (ab7_ p3), rv b1, iv (ab5_ p3 p4), .unset, .unset]) rfl ?_
        refine zi X391 Bd at_92 rfl ?_
        refine X391.ldcInt hx hown (mvT hZ (w61_ hw)) (g := (mkF m 94 #[iv p1, iv p2, iv p3, iv p4, iv p5, iv (ab3_ p1), iv (ab1_ p1), iv (ab4_ p2), iv (ab2_ p2), iv (ab7_ p3), rv b1, iv (ab5_ p3 p4), .unset, .unset] [.int p5])) rfl (hb hby at_94) _ ?_
        refine XS.iand X391.here hx rfl (hb hby at_96) rfl ?_
        refine zi X391 Bd at_97 rfl ?_
        refine zc X391 Bd at_99 ?_
        refine XS.iadd X391.here hx rfl (hb hby at_100) rfl ?_
        refine iremM X391 hx (g := (mkF m 101 #[iv p1, iv p2, iv p3, iv p4, iv p5, iv (ab3_ p1), iv (ab1_ p1), iv (ab4_ p2), iv (ab2_ p2), iv (ab7_ p3), rv b1, iv (ab5_ p3 p4), .unset, .unset] [(.int (ab0_ p3)), (.int (p5 &&& (2147483647 : Int32)))])) rfl (hb hby at_101) rfl (own_sub (p := fun z_ => ¬ ((z_ + (1 : Int32)) = (0 : Int32))) hc321 (by decide)) ?_
        refine zs X391 Bd at_102 (l' := #[iv p1, iv p2, iv p3, iv p4, iv p5, iv (ab3_ p1), iv (ab1_ p1), iv (ab4_ p2), iv (ab2_ p2), iv (ab7_ p3), rv b1, iv (ab5_ p3 p4), iv (ab6_ p3 p5), .unset]) rfl ?_
        exact k)
       refine cps (A := ∃ T406 : State, ∃ L406 : List Loc, ∃ h406 : Heap, ∃ ex_ : Int32, Stand p l e room_1 (s.setVm s.vm) m #[.int p1, .int p2, .int p3, .int p4, .int p5] below meth c T406 L406 3 10 ∧ T406.heap = h406 ∧ Fr n0 L406 ∧ Keep T391.heap h406 [] ∧ (ex_ = own_ex (ab5_ p3 p4) (ab6_ p3 p5) (ab3_ p1) (ab1_ p1) (ab4_ p2) (ab2_ p2)) ∧ Pr p e below T406 m 170 #[iv p1, iv p2, iv p3, iv p4, iv p5, iv (ab3_ p1), iv (ab1_ p1), iv (ab4_ p2), iv (ab2_ p2), iv (ab7_ p3), rv b1, iv (ab5_ p3 p4), iv (ab6_ p3 p5), iv ex_] [] s₁ en) (fun kont406 => ?_) (fun hA406 => ?_)
       ·
        skip
        have pr407 : Pr p e below T391 m 108 #[iv p1, iv p2, iv p3, iv p4, iv p5, iv (ab3_ p1), iv (ab1_ p1), iv (ab4_ p2), iv (ab2_ p2), iv (ab7_ p3), rv b1, iv (ab5_ p3 p4), iv (ab6_ p3 p5), .unset] [(.int (ab6_ p3 p5)), (.int (ab5_ p3 p4))] s₁ en := fun t k => pr405 t (by
         show Sx p e below T391 m 104 #[iv p1, iv p2, iv p3, iv p4, iv p5, iv (ab3_ p1), iv (ab1_ p1), iv (ab4_ p2), iv (ab2_ p2), iv (ab7_ p3), rv b1, iv (ab5_ p3 p4), iv (ab6_ p3 p5), .unset] [] _
         refine zi X391 Bd at_104 rfl ?_
         refine zi X391 Bd at_106 rfl ?_
         exact k)
        by_cases hc408 : (ab5_ p3 p4) < (ab6_ p3 p5)
        ·
         skip
         have O410 := O393.keep K391q (allS g_b1 all0)
         obtain ⟨_, T409, L409, X409, hQ409, st409⟩ := own_cS 3 10 [] 118 #[iv p1, iv p2, iv p3, iv p4, iv p5, iv (ab3_ p1), iv (ab1_ p1), iv (ab4_ p2), iv (ab2_ p2), iv (ab7_ p3), rv b1, iv (ab5_ p3 p4), iv (ab6_ p3 p5), .unset] X391 hx hZ hown (w62_ hw) (w63_ hw) (w6_ hw) (w64_ hw) (rm4 l Z a0 hw  (ab5_ p3 p4) (ab6_ p3 p5) (ab3_ p1) T391.heap n0 O410 ) pd3 hml.symm (hb hby at_118) rfl rfl rfl rfl rfl (by decide)
         obtain ⟨rfl, N409q, e409q⟩ := hQ409
         have N409 := Fr.app N391 N409q
         have pr411 : Pr p e below T409 m 121 #[iv p1, iv p2, iv p3, iv p4, iv p5, iv (ab3_ p1), iv (ab1_ p1), iv (ab4_ p2), iv (ab2_ p2), iv (ab7_ p3), rv b1, iv (ab5_ p3 p4), iv (ab6_ p3 p5), .unset] [(.int (own_fine (0 : Int32) (ab5_ p3 p4) (ab6_ p3 p5) (ab3_ p1)))] s₁ en := fun t k => pr407 t (by
          show Sx p e below T391 m 108 #[iv p1, iv p2, iv p3, iv p4, iv p5, iv (ab3_ p1), iv (ab1_ p1), iv (ab4_ p2), iv (ab2_ p2), iv (ab7_ p3), rv b1, iv (ab5_ p3 p4), iv (ab6_ p3 p5), .unset] [(.int (ab6_ p3 p5)), (.int (ab5_ p3 p4))] _
          refine zn X391 Bd at_108 (XT.ii_ge_f (hc408 : (ab5_ p3 p4) < (ab6_ p3 p5))) ?_
          refine zc X391 Bd at_111 ?_
          refine zi X391 Bd at_112 rfl ?_
          refine zi X391 Bd at_114 rfl ?_
          refine zi X391 Bd at_116 rfl ?_
          refine st409 _ ?_
          exact k)
         by_cases hc412 : (own_fine (0 : Int32) (ab5_ p3 p4) (ab6_ p3 p5) (ab3_ p1)) = (0 : Int32)
         ·
          skip
          have pr413 : Pr p e below T409 m 170 #[iv p1, iv p2, iv p3, iv p4, iv p5, iv (ab3_ p1), iv (ab1_ p1), iv (ab4_ p2), iv (ab2_ p2), iv (ab7_ p3), rv b1, iv (ab5_ p3 p4), iv (ab6_ p3 p5), iv 0] [] s₁ en := fun t k => pr411 t (by
           show Sx p e below T409 m 121 #[iv p1, iv p2, iv p3, iv p4, iv p5, iv (ab3_ p1), iv (ab1_ p1), iv (ab4_ p2), iv (ab2_ p2), iv (ab7_ p3), rv b1, iv (ab5_ p3 p4), iv (ab6_ p3 p5), .unset] [(.int (own_fine (0 : Int32) (ab5_ p3 p4) (ab6_ p3 p5) (ab3_ p1)))] _
           refine zp (pc' := 167) X409 Bd at_121 (XT.i0_eq_t (hc412 : (own_fine (0 : Int32) (ab5_ p3 p4) (ab6_ p3 p5) (ab3_ p1)) = (0 : Int32))) rfl ?_
           refine zc X409 Bd at_167 ?_
           refine zs X409 Bd at_168 (l' := #[iv p1, iv p2, iv p3, iv p4, iv p5, iv (ab3_ p1), iv (ab1_ p1), iv (ab4_ p2), iv (ab2_ p2), iv (ab7_ p3), rv b1, iv (ab5_ p3 p4), iv (ab6_ p3 p5), iv 0]) rfl ?_
           exact k)
          exact kont406 ⟨T409, _, T391.heap, (0 : Int32), (X409.mono (lE rfl) (lE rfl)), e409q, N409, (Keep.refl T391.heap []), (by rw [own_ex, if_pos hc408, if_pos hc412]), (fun t k => pr413 t k)⟩
         ·
          skip
          obtain ⟨_, T414, L414, X414, hQ414, st414⟩ := own_cS 3 10 [] 131 #[iv p1, iv p2, iv p3, iv p4, iv p5, iv (ab3_ p1), iv (ab1_ p1), iv (ab4_ p2), iv (ab2_ p2), iv (ab7_ p3), rv b1, iv (ab5_ p3 p4), iv (ab6_ p3 p5), .unset] X409 hx hZ hown (w62_ hw) (w63_ hw) (w6_ hw) (w64_ hw) (rm5 l Z a0 hw  (ab5_ p3 p4) (ab6_ p3 p5) (ab1_ p1) T391.heap n0 O410 ) pd3 hml.symm (hb hby at_131) e409q rfl rfl rfl rfl (by decide)
          obtain ⟨rfl, N414q, e414q⟩ := hQ414
          have N414 := Fr.app N409 N414q
          have pr415 : Pr p e below T414 m 134 #[iv p1, iv p2, iv p3, iv p4, iv p5, iv (ab3_ p1), iv (ab1_ p1), iv (ab4_ p2), iv (ab2_ p2), iv (ab7_ p3), rv b1, iv (ab5_ p3 p4), iv (ab6_ p3 p5), .unset] [(.int (own_fine (1 : Int32) (ab5_ p3 p4) (ab6_ p3 p5) (ab1_ p1)))] s₁ en := fun t k => pr411 t (by
           show Sx p e below T409 m 121 #[iv p1, iv p2, iv p3, iv p4, iv p5, iv (ab3_ p1), iv (ab1_ p1), iv (ab4_ p2), iv (ab2_ p2), iv (ab7_ p3), rv b1, iv (ab5_ p3 p4), iv (ab6_ p3 p5), .unset] [(.int (own_fine (0 : Int32) (ab5_ p3 p4) (ab6_ p3 p5) (ab3_ p1)))] _
           refine zo X409 Bd at_121 (XT.i0_eq_f (hc412 : ¬ ((own_fine (0 : Int32) (ab5_ p3 p4) (ab6_ p3 p5) (ab3_ p1)) = (0 : Int32)))) ?_
           refine zc X409 Bd at_124 ?_
           refine zi X409 Bd at_125 rfl ?_
           refine zi X409 Bd at_127 rfl ?_
           refine zi X409 Bd at_129 rfl ?_
           refine st414 _ ?_
           exact k)
          by_cases hc416 : (own_fine (1 : Int32) (ab5_ p3 p4) (ab6_ p3 p5) (ab1_ p1)) = (0 : Int32)
          ·
           skip
           have pr417 : Pr p e below T414 m 170 #[iv p1, iv p2, iv p3, iv p4, iv p5, iv (ab3_ p1), iv (ab1_ p1), iv (ab4_ p2), iv (ab2_ p2), iv (ab7_ p3), rv b1, iv (ab5_ p3 p4), iv (ab6_ p3 p5), iv 0] [] s₁ en := fun t k => pr415 t (by
            show Sx p e below T414 m 134 #[iv p1, iv p2, iv p3, iv p4, iv p5, iv (ab3_ p1), iv (ab1_ p1), iv (ab4_ p2), iv (ab2_ p2), iv (ab7_ p3), rv b1, iv (ab5_ p3 p4), iv (ab6_ p3 p5), .unset] [(.int (own_fine (1 : Int32) (ab5_ p3 p4) (ab6_ p3 p5) (ab1_ p1)))] _
            refine zp (pc' := 167) X414 Bd at_134 (XT.i0_eq_t (hc416 : (own_fine (1 : Int32) (ab5_ p3 p4) (ab6_ p3 p5) (ab1_ p1)) = (0 : Int32))) rfl ?_
            refine zc X414 Bd at_167 ?_
            refine zs X414 Bd at_168 (l' := #[iv p1, iv p2, iv p3, iv p4, iv p5, iv (ab3_ p1), iv (ab1_ p1), iv (ab4_ p2), iv (ab2_ p2), iv (ab7_ p3), rv b1, iv (ab5_ p3 p4), iv (ab6_ p3 p5), iv 0]) rfl ?_
            exact k)
           exact kont406 ⟨T414, _, T391.heap, (0 : Int32), (X414.mono (lE rfl) (lE rfl)), e414q, N414, (Keep.refl T391.heap []), (by rw [own_ex, if_pos hc408, if_neg hc412, if_pos hc416]), (fun t k => pr417 t k)⟩
          ·
           skip
           obtain ⟨_, T418, L418, X418, hQ418, st418⟩ := own_cS 3 10 [] 144 #[iv p1, iv p2, iv p3, iv p4, iv p5, iv (ab3_ p1), iv (ab1_ p1), iv (ab4_ p2), iv (ab2_ p2), iv (ab7_ p3), rv b1, iv (ab5_ p3 p4), iv (ab6_ p3 p5), .unset] X414 hx hZ hown (w62_ hw) (w63_ hw) (w6_ hw) (w64_ hw) (rm6 l Z a0 hw  (ab5_ p3 p4) (ab6_ p3 p5) (ab4_ p2) T391.heap n0 O410 ) pd3 hml.symm (hb hby at_144) e414q rfl rfl rfl rfl (by decide)
           obtain ⟨rfl, N418q, e418q⟩ := hQ418
           have N418 := Fr.app N414 N418q
           have pr419 : Pr p e below T418 m 147 #[iv p1, iv p2, iv p3, iv p4, iv p5, iv (ab3_ p1), iv (ab1_ p1), iv (ab4_ p2), iv (ab2_ p2), iv (ab7_ p3), rv b1, iv (ab5_ p3 p4), iv (ab6_ p3 p5), .unset] [(.int (own_fine (2 : Int32) (ab5_ p3 p4) (ab6_ p3 p5) (ab4_ p2)))] s₁ en := fun t k => pr415 t (by
            show Sx p e below T414 m 134 #[iv p1, iv p2, iv p3, iv p4, iv p5, iv (ab3_ p1), iv (ab1_ p1), iv (ab4_ p2), iv (ab2_ p2), iv (ab7_ p3), rv b1, iv (ab5_ p3 p4), iv (ab6_ p3 p5), .unset] [(.int (own_fine (1 : Int32) (ab5_ p3 p4) (ab6_ p3 p5) (ab1_ p1)))] _
            refine zo X414 Bd at_134 (XT.i0_eq_f (hc416 : ¬ ((own_fine (1 : Int32) (ab5_ p3 p4) (ab6_ p3 p5) (ab1_ p1)) = (0 : Int32)))) ?_
            refine zc X414 Bd at_137 ?_
            refine zi X414 Bd at_138 rfl ?_
            refine zi X414 Bd at_140 rfl ?_
            refine zi X414 Bd at_142 rfl ?_
            refine st418 _ ?_
            exact k)
           by_cases hc420 : (own_fine (2 : Int32) (ab5_ p3 p4) (ab6_ p3 p5) (ab4_ p2)) = (0 : Int32)
           ·
            skip
            have pr421 : Pr p e below T418 m 170 #[iv p1, iv p2, iv p3, iv p4, iv p5, iv (ab3_ p1), iv (ab1_ p1), iv (ab4_ p2), iv (ab2_ p2), iv (ab7_ p3), rv b1, iv (ab5_ p3 p4), iv (ab6_ p3 p5), iv 0] [] s₁ en := fun t k => pr419 t (by
             show Sx p e below T418 m 147 #[iv p1, iv p2, iv p3, iv p4, iv p5, iv (ab3_ p1), iv (ab1_ p1), iv (ab4_ p2), iv (ab2_ p2), iv (ab7_ p3), rv b1, iv (ab5_ p3 p4), iv (ab6_ p3 p5), .unset] [(.int (own_fine (2 : Int32) (ab5_ p3 p4) (ab6_ p3 p5) (ab4_ p2)))] _
             refine zp (pc' := 167) X418 Bd at_147 (XT.i0_eq_t (hc420 : (own_fine (2 : Int32) (ab5_ p3 p4) (ab6_ p3 p5) (ab4_ p2)) = (0 : Int32))) rfl ?_
             refine zc X418 Bd at_167 ?_
             refine zs X418 Bd at_168 (l' := #[iv p1, iv p2, iv p3, iv p4, iv p5, iv (ab3_ p1), iv (ab1_ p1), iv (ab4_ p2), iv (ab2_ p2), iv (ab7_ p3), rv b1, iv (ab5_ p3 p4), iv (ab6_ p3 p5), iv 0]) rfl ?_
             exact k)
            exact kont406 ⟨T418, _, T391.heap, (0 : Int32), (X418.mono (lE rfl) (lE rfl)), e418q, N418, (Keep.refl T391.heap []), (by rw [own_ex, if_pos hc408, if_neg hc412, if_neg hc416, if_pos hc420]), (fun t k => pr421 t k)⟩
           ·
            skip
            obtain ⟨_, T422, L422, X422, hQ422, st422⟩ := own_cS 3 10 [] 157 #[iv p1, iv p2, iv p3, iv p4, iv p5, iv (ab3_ p1), iv (ab1_ p1), iv (ab4_ p2), iv (ab2_ p2), iv (ab7_ p3), rv b1, iv (ab5_ p3 p4), iv (ab6_ p3 p5), .unset] X418 hx hZ hown (w62_ hw) (w63_ hw) (w6_ hw) (w64_ hw) (rm7 l Z a0 hw  (ab5_ p3 p4) (ab6_ p3 p5) (ab2_ p2) T391.heap n0 O410 ) pd3 hml.symm (hb hby at_157) e418q rfl rfl rfl rfl (by decide)
            obtain ⟨rfl, N422q, e422q⟩ := hQ422
            have N422 := Fr.app N418 N422q
            have pr423 : Pr p e below T422 m 160 #[iv p1, iv p2, iv p3, iv p4, iv p5, iv (ab3_ p1), iv (ab1_ p1), iv (ab4_ p2), iv (ab2_ p2), iv (ab7_ p3), rv b1, iv (ab5_ p3 p4), iv (ab6_ p3 p5), .unset] [(.int (own_fine (3 : Int32) (ab5_ p3 p4) (ab6_ p3 p5) (ab2_ p2)))] s₁ en := fun t k => pr419 t (by
             show Sx p e below T418 m 147 #[iv p1, iv p2, iv p3, iv p4, iv p5, iv (ab3_ p1), iv (ab1_ p1), iv (ab4_ p2), iv (ab2_ p2), iv (ab7_ p3), rv b1, iv (ab5_ p3 p4), iv (ab6_ p3 p5), .unset] [(.int (own_fine (2 : Int32) (ab5_ p3 p4) (ab6_ p3 p5) (ab4_ p2)))] _
             refine zo X418 Bd at_147 (XT.i0_eq_f (hc420 : ¬ ((own_fine (2 : Int32) (ab5_ p3 p4) (ab6_ p3 p5) (ab4_ p2)) = (0 : Int32)))) ?_
             refine zc X418 Bd at_150 ?_
             refine zi X418 Bd at_151 rfl ?_
             refine zi X418 Bd at_153 rfl ?_
             refine zi X418 Bd at_155 rfl ?_
             refine st422 _ ?_
             exact k)
            by_cases hc424 : (own_fine (3 : Int32) (ab5_ p3 p4) (ab6_ p3 p5) (ab2_ p2)) = (0 : Int32)
            ·
             skip
             have pr425 : Pr p e below T422 m 170 #[iv p1, iv p2, iv p3, iv p4, iv p5, iv (ab3_ p1), iv (ab1_ p1), iv (ab4_ p2), iv (ab2_ p2), iv (ab7_ p3), rv b1, iv (ab5_ p3 p4), iv (ab6_ p3 p5), iv 0] [] s₁ en := fun t k => pr423 t (by
              show Sx p e below T422 m 160 #[iv p1, iv p2, iv p3, iv p4, iv p5, iv (ab3_ p1), iv (ab1_ p1), iv (ab4_ p2), iv (ab2_ p2), iv (ab7_ p3), rv b1, iv (ab5_ p3 p4), iv (ab6_ p3 p5), .unset] [(.int (own_fine (3 : Int32) (ab5_ p3 p4) (ab6_ p3 p5) (ab2_ p2)))] _
              refine zp (pc' := 167) X422 Bd at_160 (XT.i0_eq_t (hc424 : (own_fine (3 : Int32) (ab5_ p3 p4) (ab6_ p3 p5) (ab2_ p2)) = (0 : Int32))) rfl ?_
              refine zc X422 Bd at_167 ?_
              refine zs X422 Bd at_168 (l' := #[iv p1, iv p2, iv p3, iv p4, iv p5, iv (ab3_ p1), iv (ab1_ p1), iv (ab4_ p2), iv (ab2_ p2), iv (ab7_ p3), rv b1, iv (ab5_ p3 p4), iv (ab6_ p3 p5), iv 0]) rfl ?_
              exact k)
             exact kont406 ⟨T422, _, T391.heap, (0 : Int32), (X422.mono (lE rfl) (lE rfl)), e422q, N422, (Keep.refl T391.heap []), (by rw [own_ex, if_pos hc408, if_neg hc412, if_neg hc416, if_neg hc420, if_pos hc424]), (fun t k => pr425 t k)⟩
            ·
             skip
             have pr426 : Pr p e below T422 m 170 #[iv p1, iv p2, iv p3, iv p4, iv p5, iv (ab3_ p1), iv (ab1_ p1), iv (ab4_ p2), iv (ab2_ p2), iv (ab7_ p3), rv b1, iv (ab5_ p3 p4), iv (ab6_ p3 p5), iv 1] [] s₁ en := fun t k => pr423 t (by
              show Sx p e below T422 m 160 #[iv p1, iv p2, iv p3, iv p4, iv p5, iv (ab3_ p1), iv (ab1_ p1), iv (ab4_ p2), iv (ab2_ p2), iv (ab7_ p3), rv b1, iv (ab5_ p3 p4), iv (ab6_ p3 p5), .unset] [(.int (own_fine (3 : Int32) (ab5_ p3 p4) (ab6_ p3 p5) (ab2_ p2)))] _
              refine zo X422 Bd at_160 (XT.i0_eq_f (hc424 : ¬ ((own_fine (3 : Int32) (ab5_ p3 p4) (ab6_ p3 p5) (ab2_ p2)) = (0 : Int32)))) ?_
              refine zc X422 Bd at_163 ?_
              refine zg (pc' := 168) X422 Bd at_164 rfl ?_
              refine zs X422 Bd at_168 (l' := #[iv p1, iv p2, iv p3, iv p4, iv p5, iv (ab3_ p1), iv (ab1_ p1), iv (ab4_ p2), iv (ab2_ p2), iv (ab7_ p3), rv b1, iv (ab5_ p3 p4), iv (ab6_ p3 p5), iv 1]) rfl ?_
              exact k)
             exact kont406 ⟨T422, _, T391.heap, (1 : Int32), (X422.mono (lE rfl) (lE rfl)), e422q, N422, (Keep.refl T391.heap []), (by rw [own_ex, if_pos hc408, if_neg hc412, if_neg hc416, if_neg hc420, if_neg hc424]), (fun t k => pr426 t k)⟩
        ·
         skip
         have pr427 : Pr p e below T391 m 170 #[iv p1, iv p2, iv p3, iv p4, iv p5, iv (ab3_ p1), iv (ab1_ p1), iv (ab4_ p2), iv (ab2_ p2), iv (ab7_ p3), rv b1, iv (ab5_ p3 p4), iv (ab6_ p3 p5), iv 0] [] s₁ en := fun t k => pr407 t (by
          show Sx p e below T391 m 108 #[iv p1, iv p2, iv p3, iv p4, iv p5, iv (ab3_ p1), iv (ab1_ p1), iv (ab4_ p2), iv (ab2_ p2), iv (ab7_ p3), rv b1, iv (ab5_ p3 p4), iv (ab6_ p3 p5), .unset] [(.int (ab6_ p3 p5)), (.int (ab5_ p3 p4))] _
          refine zy (pc' := 167) X391 Bd at_108 (XT.ii_ge_t (hc408 : ¬ ((ab5_ p3 p4) < (ab6_ p3 p5)))) rfl ?_
          refine zc X391 Bd at_167 ?_
          refine zs X391 Bd at_168 (l' := #[iv p1, iv p2, iv p3, iv p4, iv p5, iv (ab3_ p1), iv (ab1_ p1), iv (ab4_ p2), iv (ab2_ p2), iv (ab7_ p3), rv b1, iv (ab5_ p3 p4), iv (ab6_ p3 p5), iv 0]) rfl ?_
          exact k)
         exact kont406 ⟨T391, _, T391.heap, (0 : Int32), (X391.mono (lE rfl) (lE rfl)), rfl, N391, (Keep.refl T391.heap []), (by rw [own_ex, if_neg hc408]), (fun t k => pr427 t k)⟩
       ·
        obtain ⟨T406, L406, h406, ex_, X406, e406, N406, K406j, hp406_0, pr406⟩ := hA406
        have K428 := K398.trans K406j (fun x q => nomatch q)
        have C429 : CHv Z consts_1 s.vm h406 := CHv.keep K406j sf0 C399
        have R430 : CHr Z consts_1 s.vm h0 s.vm h406 := R402.trans (CHr.keep K406j sf0 C399)
        have F432_ := V397_.keep K406j nin0
        have F433_ := C391q.keep K406j nin0
        have A434_ := A397_.keep K406j nin0
        have E435_ := E394_.keep K391q
        have E436_ := E435_.keep K406j
        have O437 := O393.keep K391q (allS g_b1 all0)
        have O438 := O437.keep K406j all0
        obtain ⟨_, T431, L431, X431, hQ431, st431⟩ := own_cS 3 10 [] 176 #[iv p1, iv p2, iv p3, iv p4, iv p5, iv (ab3_ p1), iv (ab1_ p1), iv (ab4_ p2), iv (ab2_ p2), iv (ab7_ p3), rv b1, iv (ab5_ p3 p4), iv (ab6_ p3 p5), iv ex_] X406 hx hZ hown (w35_ hw) (w36_ hw) (w37_ hw) (w38_ hw) (rm70 l Z a0 hw G3 G1 b1 (ab5_ p3 p4) (ab6_ p3 p5) b397 c397_ (ab3_ p1) (ab1_ p1) (ab4_ p2) h406 n0 O438 O4 rG3 O2 P5 F432_ F433_ A434_ hp392 E436_ (own_rb p4 hc321 (k := 3) (by decide)).1 (own_rb p5 hc321 (k := 3) (by decide)).2) pd5 hml.symm (hb hby at_176) e406 rfl rfl rfl rfl (by decide)
        obtain ⟨rfl, N431q, e431q⟩ := hQ431
        have N431 := Fr.app N406 N431q
        have hk439' : _ ≤ h406.size := (Nat.le_trans (Nat.le_trans (Nat.le_trans (Nat.le_trans hk0 E1.1) K322q.1) K391q.1) K406j.1)
        refine own_lvW X431 Bd.notSynchronized hS0 hk439' (v := (some (.int 1))) (fun h => by rw [Bd.returns] at h; cases h) e431q hh ⟨rfl, N431⟩ (R430.trans (CHv.at X431 hZ hEL C429)) (lE rfl) (lE rfl) (fun fs hr => pr406 _ (by
         show Sx p e below T406 m 170 #[iv p1, iv p2, iv p3, iv p4, iv p5, iv (ab3_ p1), iv (ab1_ p1), iv (ab4_ p2), iv (ab2_ p2), iv (ab7_ p3), rv b1, iv (ab5_ p3 p4), iv (ab6_ p3 p5), iv ex_] [] _
         refine za X406 Bd at_170 rfl rfl ?_
         refine zi X406 Bd at_172 rfl ?_
         refine zi X406 Bd at_174 rfl ?_
         refine st431 _ ?_
         refine zi X431 Bd at_179 rfl ?_
         refine zn X431 Bd at_181 (XT.ii_ne_f (((own_fin3 (ab5_ p3 p4) (ab6_ p3 p5) (ab3_ p1) (ab1_ p1) (ab4_ p2) (ab2_ p2) (own_rb p4 hc321 (k := 3) (by decide)).1 (own_rb p4 hc321 (k := 3) (by decide)).2 (own_rb p5 hc321 (k := 3) (by decide)).1 (own_rb p5 hc321 (k := 3) (by decide)).2).trans hp406_0.symm) : (own_isd ([(ab3_ p1), (ab1_ p1), (ab4_ p2)] : List Int32) (ab5_ p3 p4) (ab6_ p3 p5)) = ex_)) ?_
         refine zc X431 Bd at_184 ?_
         refine zg (pc' := 189) X431 Bd at_185 rfl ?_
         exact retN X431 hx (t := .boolean) Bd.returns (by simp) (hb hby at_189) hr))
      ·
       skip
       have O441 := O393.keep K391q (allS g_b1 all0)
       obtain ⟨_, T440, L440, X440, hQ440, st440⟩ := own_cS 3 10 [] 69 #[iv p1, iv p2, iv p3, iv p4, iv p5, iv (ab3_ p1), iv (ab1_ p1), iv (ab4_ p2), iv (ab2_ p2), iv (ab7_ p3), rv b1, .unset, .unset, .unset] X391 hx hZ hown (w35_ hw) (w36_ hw) (w37_ hw) (w38_ hw) (rm9 l Z a0 hw  b1 p4 p5 T391.heap n0 O441 hc404) pd5 hml.symm (hb hby at_69) rfl rfl rfl rfl rfl (by decide)
       obtain ⟨rfl, N440q, e440q⟩ := hQ440
       have N440 := Fr.app N391 N440q
       have hk442' : _ ≤ T391.heap.size := (Nat.le_trans (Nat.le_trans (Nat.le_trans hk0 E1.1) K322q.1) K391q.1)
       refine own_lvW X440 Bd.notSynchronized hS0 hk442' (v := (some (.int 1))) (fun h => by rw [Bd.returns] at h; cases h) e440q hh ⟨rfl, N440⟩ (R402.trans (CHv.at X440 hZ hEL C399)) (lE rfl) (lE rfl) (fun fs hr => pr403 _ (by
        show Sx p e below T391 m 61 #[iv p1, iv p2, iv p3, iv p4, iv p5, iv (ab3_ p1), iv (ab1_ p1), iv (ab4_ p2), iv (ab2_ p2), iv (ab7_ p3), rv b1, .unset, .unset, .unset] [.int p5, .int p4] _
        refine zn X391 Bd at_61 (XT.ii_lt_f (hc404 : ¬ (p4 < p5))) ?_
        refine za X391 Bd at_64 rfl rfl ?_
        refine zj X391 Bd at_66 rfl ?_
        refine zi X391 Bd at_67 rfl ?_
        refine st440 _ ?_
        refine zo X440 Bd at_72 (XT.i0_ne_f ((by decide) : (0 : Int32) = (0 : Int32))) ?_
        refine zc X440 Bd at_75 ?_
        refine zg (pc' := 80) X440 Bd at_76 rfl ?_
        exact retN X440 hx (t := .boolean) Bd.returns (by simp) (hb hby at_80) hr))
    ·
     skip
     have O444 := X00.ext E1
     obtain ⟨_, T443, L443, X443, hQ443, st443⟩ := own_cS 2 8 [.ref b1, .ref b1] 50 #[iv p1, iv p2, iv p3, iv p4, iv p5, iv (ab3_ p1), iv (ab1_ p1), iv (ab4_ p2), iv (ab2_ p2), iv (ab7_ p3), .unset, .unset, .unset, .unset] X1 hx hZ hown (w4_ hw) (w5_ hw) (w6_ hw) (w7_ hw) (rm71 l Z a0 hw  (ab7_ p3) (ab3_ p1) (ab1_ p1) (ab4_ p2) (ab2_ p2) h1 n0 O444 hc9 hc75 hc198 hc321 (own_nar_i2c _) (own_nar_i2c _) (own_nar_i2c _) (own_nar_i2c _)) pd0 hml.symm (hb hby at_50) e1 rfl rfl rfl rfl (by decide)
     obtain ⟨b445, c446_, rfl, N443q, K443q, w447, w448⟩ := hQ443
     have N443 := Fr.app N0 N443q
     have K449 := K2.trans K443q (fun x q => nomatch q)
     have C450 : CHv Z consts_1 s.vm T443.heap := CHv.keep K443q sf0 C3
     have R451 : CHr Z consts_1 s.vm h0 s.vm T443.heap := R4.trans (CHr.keep K443q sf0 C3)
     have pr453 : Pr p e below T443 m 53 #[iv p1, iv p2, iv p3, iv p4, iv p5, iv (ab3_ p1), iv (ab1_ p1), iv (ab4_ p2), iv (ab2_ p2), iv (ab7_ p3), .unset, .unset, .unset, .unset] [.ref b445, .ref b1, .ref b1] s₁ en := fun t k => pr8 t (by
      show Sx p e below T1 m 50 #[iv p1, iv p2, iv p3, iv p4, iv p5, iv (ab3_ p1), iv (ab1_ p1), iv (ab4_ p2), iv (ab2_ p2), iv (ab7_ p3), .unset, .unset, .unset, .unset] [(.int (ab2_ p2)), (.int (ab4_ p2)), (.int (ab1_ p1)), (.int (ab3_ p1)), (.int (ab7_ p3)), .ref b1, .ref b1] _
      refine st443 _ ?_
      exact k)
     by_cases hc454 : (255 : Int32) < (own_max ([(ab3_ p1), (ab1_ p1), (ab4_ p2), (ab2_ p2)] : List Int32))
     ·
      skip
      have E456_ := A1.keep K443q
      have F457_ := F5_.keep K443q nin0
      have g_b1 : n0 ≤ b1 := Nat.le_trans (Nat.le_trans (Nat.le_of_eq X00.1.symm) X00.2.1) (Nat.le_of_eq g1.symm)
      have F458_ := F6_.keep K443q nin0
      have O459 := O444.keep K443q all0
      obtain ⟨_, T455, L455, X455, hQ455, st455⟩ := own_cI 4 20 [.ref b1] 53 #[iv p1, iv p2, iv p3, iv p4, iv p5, iv (ab3_ p1), iv (ab1_ p1), iv (ab4_ p2), iv (ab2_ p2), iv (ab7_ p3), .unset, .unset, .unset, .unset] X443 hx hZ hown (w9_ hw) (w10_ hw) (w3_ hw) (w11_ hw) (rm84 l Z a0 hw G1 b1 b445 c446_ (ab3_ p1) (ab1_ p1) (ab4_ p2) (ab2_ p2) T443.heap n0 O459 O2 P5 uS12 uS15 uS18 w448 hc454 (own_nar_i2c _) (own_nar_i2c _) (own_nar_i2c _) (own_nar_i2c _) E456_ F457_ g_b1 F458_) pd2 hml.symm (hb hby at_53) rfl rfl rfl rfl rfl rfl (by decide)
      obtain ⟨b460, c461_, rfl, N455q, K455q, w462, w463, w464, w465, w466⟩ := hQ455
      have N455 := Fr.app N443 N455q
      have sz_b1 : h0.size ≤ b1 := (Nat.le_of_eq g1.symm)
      have K467 := K449.trans K455q (allS (Or.inr sz_b1) all0)
      have f469 : Safe Z consts_1 s.vm h1 b1 := Safe.ext E1 hC0 (Safe.new (Nat.le_of_eq g1.symm))
      have f470 : Safe Z consts_1 s.vm T443.heap b1 := Safe.keep K443q sf0 C3 f469
      have C468 : CHv Z consts_1 s.vm T455.heap := CHv.keep K455q (sfS f470 sf0) C450
      have R471 : CHr Z consts_1 s.vm h0 s.vm T455.heap := R451.trans (CHr.keep K455q (sfS f470 sf0) C450)
      have pr472 : Pr p e below T455 m 61 #[iv p1, iv p2, iv p3, iv p4, iv p5, iv (ab3_ p1), iv (ab1_ p1), iv (ab4_ p2), iv (ab2_ p2), iv (ab7_ p3), rv b1, .unset, .unset, .unset] [.int p5, .int p4] s₁ en := fun t k => pr453 t (by
       show Sx p e below T443 m 53 #[iv p1, iv p2, iv p3, iv p4, iv p5, iv (ab3_ p1), iv (ab1_ p1), iv (ab4_ p2), iv (ab2_ p2), iv (ab7_ p3), .unset, .unset, .unset, .unset] [.ref b445, .ref b1, .ref b1] _
       refine st455 _ ?_
       refine XS.astore X455.here hx rfl (hb hby at_56) rfl rfl (l' := #[iv p1, iv p2, iv p3, iv p4, iv p5, iv (ab3_ p1), iv (ab1_ p1), iv (ab4_ p2), iv (ab2_ p2), iv (ab7_ p3), rv b1, .unset, .unset, .unset]) rfl ?_
       refine zj X455 Bd at_58 rfl ?_
       refine zi X455 Bd at_59 rfl ?_
       exact k)
      by_cases hc473 : p4 < p5
      ·
       skip
       have pr474 : Pr p e below T455 m 104 #[iv p1, iv p2, iv p3, iv p4, iv p5, iv (ab3_ p1), iv (ab1_ p1), iv (ab4_ p2), iv (ab2_ p2), iv (ab7_ p3), rv b1, iv (ab5_ p3 p4), iv (ab6_ p3 p5), .unset] [] s₁ en := fun t k => pr472 t (by
        show Sx p e below T455 m 61 #[iv p1, iv p2, iv p3, iv p4, iv p5, iv (ab3_ p1), iv (ab1_ p1), iv (ab4_ p2), iv (ab2_ p2), iv (ab7_ p3), rv b1, .unset, .unset, .unset] [.int p5, .int p4] _
        refine zy (pc' := 81) X455 Bd at_61 (XT.ii_lt_t (hc473 : p4 < p5)) rfl ?_
        refine zj X455 Bd at_81 rfl ?_
        refine X455.ldcInt hx hown (mvT hZ (w61_ hw)) (g := (mkF m 82 #[iv p1, iv p2, iv p3, iv p4, iv p5, iv (ab3_ p1), iv (ab1_ p1), iv (ab4_ p2), iv (ab2_ p2), iv (ab7_ p3), rv b1, .unset, .unset, .unset] [.int p4])) rfl (hb hby at_82) _ ?_
        refine XS.iand X455.here hx rfl (hb hby at_84) rfl ?_
        refine zi X455 Bd at_85 rfl ?_
        refine zc X455 Bd at_87 ?_
        refine XS.iadd X455.here hx rfl (hb hby at_88) rfl ?_
        refine iremM X455 hx (g := (mkF m 89 #[iv p1, iv p2, iv p3, iv p4, iv p5, iv (ab3_ p1), iv (ab1_ p1), iv (ab4_ p2), iv (ab2_ p2), iv (ab7_ p3), rv b1, .unset, .unset, .unset] [(.int (ab0_ p3)), (.int (p4 &&& (2147483647 : Int32)))])) rfl (hb hby at_89) rfl (own_sub (p := fun z_ => ¬ ((z_ + (1 : Int32)) = (0 : Int32))) (own_rem5g p3 hc9 hc75 hc198 hc321) (by decide)) ?_
        refine zs X455 Bd at_90 (l' := #[iv p1, iv p2, iv p3, iv p4, iv p5, iv (ab3_ p1), iv (ab1_ p1), iv (ab4_ p2), iv (ab2_ p2), iv (ab7_ p3), rv b1, iv (ab5_ p3 p4), .unset, .unset]) rfl ?_
        refine zi X455 Bd at_92 rfl ?_
        refine X455.ldcInt hx hown (mvT hZ (w61_ hw)) (g := (mkF m 94 #[iv p1, iv p2, iv p3, iv p4, iv p5, iv (ab3_ p1), iv (ab1_ p1), iv (ab4_ p2), iv (ab2_ p2), iv (ab7_ p3), rv b1, iv (ab5_ p3 p4), .unset, .unset] [.int p5])) rfl (hb hby at_94) _ ?_
        refine XS.iand X455.here hx rfl (hb hby at_96) rfl ?_
        refine zi X455 Bd at_97 rfl ?_
        refine zc X455 Bd at_99 ?_
        refine XS.iadd X455.here hx rfl (hb hby at_100) rfl ?_
        refine iremM X455 hx (g := (mkF m 101 #[iv p1, iv p2, iv p3, iv p4, iv p5, iv (ab3_ p1), iv (ab1_ p1), iv (ab4_ p2), iv (ab2_ p2), iv (ab7_ p3), rv b1, iv (ab5_ p3 p4), .unset, .unset] [(.int (ab0_ p3)), (.int (p5 &&& (2147483647 : Int32)))])) rfl (hb hby at_101) rfl (own_sub (p := fun z_ => ¬ ((z_ + (1 : Int32)) = (0 : Int32))) (own_rem5g p3 hc9 hc75 hc198 hc321) (by decide)) ?_
        refine zs X455 Bd at_102 (l' := #[iv p1, iv p2, iv p3, iv p4, iv p5, iv (ab3_ p1), iv (ab1_ p1), iv (ab4_ p2), iv (ab2_ p2), iv (ab7_ p3), rv b1, iv (ab5_ p3 p4), iv (ab6_ p3 p5), .unset]) rfl ?_
        exact k)
       refine cps (A := ∃ T475 : State, ∃ L475 : List Loc, ∃ h475 : Heap, ∃ ex_ : Int32, Stand p l e room_1 (s.setVm s.vm) m #[.int p1, .int p2, .int p3, .int p4, .int p5] below meth c T475 L475 4 20 ∧ T475.heap = h475 ∧ Fr n0 L475 ∧ Keep T455.heap h475 [] ∧ (ex_ = own_ex (ab5_ p3 p4) (ab6_ p3 p5) (ab3_ p1) (ab1_ p1) (ab4_ p2) (ab2_ p2)) ∧ Pr p e below T475 m 170 #[iv p1, iv p2, iv p3, iv p4, iv p5, iv (ab3_ p1), iv (ab1_ p1), iv (ab4_ p2), iv (ab2_ p2), iv (ab7_ p3), rv b1, iv (ab5_ p3 p4), iv (ab6_ p3 p5), iv ex_] [] s₁ en) (fun kont475 => ?_) (fun hA475 => ?_)
       ·
        skip
        have pr476 : Pr p e below T455 m 108 #[iv p1, iv p2, iv p3, iv p4, iv p5, iv (ab3_ p1), iv (ab1_ p1), iv (ab4_ p2), iv (ab2_ p2), iv (ab7_ p3), rv b1, iv (ab5_ p3 p4), iv (ab6_ p3 p5), .unset] [(.int (ab6_ p3 p5)), (.int (ab5_ p3 p4))] s₁ en := fun t k => pr474 t (by
         show Sx p e below T455 m 104 #[iv p1, iv p2, iv p3, iv p4, iv p5, iv (ab3_ p1), iv (ab1_ p1), iv (ab4_ p2), iv (ab2_ p2), iv (ab7_ p3), rv b1, iv (ab5_ p3 p4), iv (ab6_ p3 p5), .unset] [] _
         refine zi X455 Bd at_104 rfl ?_
         refine zi X455 Bd at_106 rfl ?_
         exact k)
        by_cases hc477 : (ab5_ p3 p4) < (ab6_ p3 p5)
        ·
         skip
         have O479 := O459.keep K455q (allS g_b1 all0)
         obtain ⟨_, T478, L478, X478, hQ478, st478⟩ := own_cS 4 20 [] 118 #[iv p1, iv p2, iv p3, iv p4, iv p5, iv (ab3_ p1), iv (ab1_ p1), iv (ab4_ p2), iv (ab2_ p2), iv (ab7_ p3), rv b1, iv (ab5_ p3 p4), iv (ab6_ p3 p5), .unset] X455 hx hZ hown (w62_ hw) (w63_ hw) (w6_ hw) (w64_ hw) (rm4 l Z a0 hw  (ab5_ p3 p4) (ab6_ p3 p5) (ab3_ p1) T455.heap n0 O479 ) pd3 hml.symm (hb hby at_118) rfl rfl rfl rfl rfl (by decide)
         obtain ⟨rfl, N478q, e478q⟩ := hQ478
         have N478 := Fr.app N455 N478q
         have pr480 : Pr p e below T478 m 121 #[iv p1, iv p2, iv p3, iv p4, iv p5, iv (ab3_ p1), iv (ab1_ p1), iv (ab4_ p2), iv (ab2_ p2), iv (ab7_ p3), rv b1, iv (ab5_ p3 p4), iv (ab6_ p3 p5), .unset] [(.int (own_fine (0 : Int32) (ab5_ p3 p4) (ab6_ p3 p5) (ab3_ p1)))] s₁ en := fun t k => pr476 t (by
          show Sx p e below T455 m 108 #[iv p1, iv p2, iv p3, iv p4, iv p5, iv (ab3_ p1), iv (ab1_ p1), iv (ab4_ p2), iv (ab2_ p2), iv (ab7_ p3), rv b1, iv (ab5_ p3 p4), iv (ab6_ p3 p5), .unset] [(.int (ab6_ p3 p5)), (.int (ab5_ p3 p4))] _
          refine zn X455 Bd at_108 (XT.ii_ge_f (hc477 : (ab5_ p3 p4) < (ab6_ p3 p5))) ?_
          refine zc X455 Bd at_111 ?_
          refine zi X455 Bd at_112 rfl ?_
          refine zi X455 Bd at_114 rfl ?_
          refine zi X455 Bd at_116 rfl ?_
          refine st478 _ ?_
          exact k)
         by_cases hc481 : (own_fine (0 : Int32) (ab5_ p3 p4) (ab6_ p3 p5) (ab3_ p1)) = (0 : Int32)
         ·
          skip
          have pr482 : Pr p e below T478 m 170 #[iv p1, iv p2, iv p3, iv p4, iv p5, iv (ab3_ p1), iv (ab1_ p1), iv (ab4_ p2), iv (ab2_ p2), iv (ab7_ p3), rv b1, iv (ab5_ p3 p4), iv (ab6_ p3 p5), iv 0] [] s₁ en := fun t k => pr480 t (by
           show Sx p e below T478 m 121 #[iv p1, iv p2, iv p3, iv p4, iv p5, iv (ab3_ p1), iv (ab1_ p1), iv (ab4_ p2), iv (ab2_ p2), iv (ab7_ p3), rv b1, iv (ab5_ p3 p4), iv (ab6_ p3 p5), .unset] [(.int (own_fine (0 : Int32) (ab5_ p3 p4) (ab6_ p3 p5) (ab3_ p1)))] _
           refine zp (pc' := 167) X478 Bd at_121 (XT.i0_eq_t (hc481 : (own_fine (0 : Int32) (ab5_ p3 p4) (ab6_ p3 p5) (ab3_ p1)) = (0 : Int32))) rfl ?_
           refine zc X478 Bd at_167 ?_
           refine zs X478 Bd at_168 (l' := #[iv p1, iv p2, iv p3, iv p4, iv p5, iv (ab3_ p1), iv (ab1_ p1), iv (ab4_ p2), iv (ab2_ p2), iv (ab7_ p3), rv b1, iv (ab5_ p3 p4), iv (ab6_ p3 p5), iv 0]) rfl ?_
           exact k)
          exact kont475 ⟨T478, _, T455.heap, (0 : Int32), (X478.mono (lE rfl) (lE rfl)), e478q, N478, (Keep.refl T455.heap []), (by rw [own_ex, if_pos hc477, if_pos hc481]), (fun t k => pr482 t k)⟩
         ·
          skip
          obtain ⟨_, T483, L483, X483, hQ483, st483⟩ := own_cS 4 20 [] 131 #[iv p1, iv p2, iv p3, iv p4, iv p5, iv (ab3_ p1), iv (ab1_ p1), iv (ab4_ p2), iv (ab2_ p2), iv (ab7_ p3), rv b1, iv (ab5_ p3 p4), iv (ab6_ p3 p5), .unset] X478 hx hZ hown (w62_ hw) (w63_ hw) (w6_ hw) (w64_ hw) (rm5 l Z a0 hw  (ab5_ p3 p4) (ab6_ p3 p5) (ab1_ p1) T455.heap n0 O479 ) pd3 hml.symm (hb hby at_131) e478q rfl rfl rfl rfl (by decide)
          obtain ⟨rfl, N483q, e483q⟩ := hQ483
          have N483 := Fr.app N478 N483q
          have pr484 : Pr p e below T483 m 134 #[iv p1, iv p2, iv p3, iv p4, iv p5, iv (ab3_ p1), iv (ab1_ p1), iv (ab4_ p2), iv (ab2_ p2), iv (ab7_ p3), rv b1, iv (ab5_ p3 p4), iv (ab6_ p3 p5), .unset] [(.int (own_fine (1 : Int32) (ab5_ p3 p4) (ab6_ p3 p5) (ab1_ p1)))] s₁ en := fun t k => pr480 t (by
           show Sx p e below T478 m 121 #[iv p1, iv p2, iv p3, iv p4, iv p5, iv (ab3_ p1), iv (ab1_ p1), iv (ab4_ p2), iv (ab2_ p2), iv (ab7_ p3), rv b1, iv (ab5_ p3 p4), iv (ab6_ p3 p5), .unset] [(.int (own_fine (0 : Int32) (ab5_ p3 p4) (ab6_ p3 p5) (ab3_ p1)))] _
           refine zo X478 Bd at_121 (XT.i0_eq_f (hc481 : ¬ ((own_fine (0 : Int32) (ab5_ p3 p4) (ab6_ p3 p5) (ab3_ p1)) = (0 : Int32)))) ?_
           refine zc X478 Bd at_124 ?_
           refine zi X478 Bd at_125 rfl ?_
           refine zi X478 Bd at_127 rfl ?_
           refine zi X478 Bd at_129 rfl ?_
           refine st483 _ ?_
           exact k)
          by_cases hc485 : (own_fine (1 : Int32) (ab5_ p3 p4) (ab6_ p3 p5) (ab1_ p1)) = (0 : Int32)
          ·
           skip
           have pr486 : Pr p e below T483 m 170 #[iv p1, iv p2, iv p3, iv p4, iv p5, iv (ab3_ p1), iv (ab1_ p1), iv (ab4_ p2), iv (ab2_ p2), iv (ab7_ p3), rv b1, iv (ab5_ p3 p4), iv (ab6_ p3 p5), iv 0] [] s₁ en := fun t k => pr484 t (by
            show Sx p e below T483 m 134 #[iv p1, iv p2, iv p3, iv p4, iv p5, iv (ab3_ p1), iv (ab1_ p1), iv (ab4_ p2), iv (ab2_ p2), iv (ab7_ p3), rv b1, iv (ab5_ p3 p4), iv (ab6_ p3 p5), .unset] [(.int (own_fine (1 : Int32) (ab5_ p3 p4) (ab6_ p3 p5) (ab1_ p1)))] _
            refine zp (pc' := 167) X483 Bd at_134 (XT.i0_eq_t (hc485 : (own_fine (1 : Int32) (ab5_ p3 p4) (ab6_ p3 p5) (ab1_ p1)) = (0 : Int32))) rfl ?_
            refine zc X483 Bd at_167 ?_
            refine zs X483 Bd at_168 (l' := #[iv p1, iv p2, iv p3, iv p4, iv p5, iv (ab3_ p1), iv (ab1_ p1), iv (ab4_ p2), iv (ab2_ p2), iv (ab7_ p3), rv b1, iv (ab5_ p3 p4), iv (ab6_ p3 p5), iv 0]) rfl ?_
            exact k)
           exact kont475 ⟨T483, _, T455.heap, (0 : Int32), (X483.mono (lE rfl) (lE rfl)), e483q, N483, (Keep.refl T455.heap []), (by rw [own_ex, if_pos hc477, if_neg hc481, if_pos hc485]), (fun t k => pr486 t k)⟩
          ·
           skip
           obtain ⟨_, T487, L487, X487, hQ487, st487⟩ := own_cS 4 20 [] 144 #[iv p1, iv p2, iv p3, iv p4, iv p5, iv (ab3_ p1), iv (ab1_ p1), iv (ab4_ p2), iv (ab2_ p2), iv (ab7_ p3), rv b1, iv (ab5_ p3 p4), iv (ab6_ p3 p5), .unset] X483 hx hZ hown (w62_ hw) (w63_ hw) (w6_ hw) (w64_ hw) (rm6 l Z a0 hw  (ab5_ p3 p4) (ab6_ p3 p5) (ab4_ p2) T455.heap n0 O479 ) pd3 hml.symm (hb hby at_144) e483q rfl rfl rfl rfl (by decide)
           obtain ⟨rfl, N487q, e487q⟩ := hQ487
           have N487 := Fr.app N483 N487q
           have pr488 : Pr p e below T487 m 147 #[iv p1, iv p2, iv p3, iv p4, iv p5, iv (ab3_ p1), iv (ab1_ p1), iv (ab4_ p2), iv (ab2_ p2), iv (ab7_ p3), rv b1, iv (ab5_ p3 p4), iv (ab6_ p3 p5), .unset] [(.int (own_fine (2 : Int32) (ab5_ p3 p4) (ab6_ p3 p5) (ab4_ p2)))] s₁ en := fun t k => pr484 t (by
            show Sx p e below T483 m 134 #[iv p1, iv p2, iv p3, iv p4, iv p5, iv (ab3_ p1), iv (ab1_ p1), iv (ab4_ p2), iv (ab2_ p2), iv (ab7_ p3), rv b1, iv (ab5_ p3 p4), iv (ab6_ p3 p5), .unset] [(.int (own_fine (1 : Int32) (ab5_ p3 p4) (ab6_ p3 p5) (ab1_ p1)))] _
            refine zo X483 Bd at_134 (XT.i0_eq_f (hc485 : ¬ ((own_fine (1 : Int32) (ab5_ p3 p4) (ab6_ p3 p5) (ab1_ p1)) = (0 : Int32)))) ?_
            refine zc X483 Bd at_137 ?_
            refine zi X483 Bd at_138 rfl ?_
            refine zi X483 Bd at_140 rfl ?_
            refine zi X483 Bd at_142 rfl ?_
            refine st487 _ ?_
            exact k)
           by_cases hc489 : (own_fine (2 : Int32) (ab5_ p3 p4) (ab6_ p3 p5) (ab4_ p2)) = (0 : Int32)
           ·
            skip
            have pr490 : Pr p e below T487 m 170 #[iv p1, iv p2, iv p3, iv p4, iv p5, iv (ab3_ p1), iv (ab1_ p1), iv (ab4_ p2), iv (ab2_ p2), iv (ab7_ p3), rv b1, iv (ab5_ p3 p4), iv (ab6_ p3 p5), iv 0] [] s₁ en := fun t k => pr488 t (by
             show Sx p e below T487 m 147 #[iv p1, iv p2, iv p3, iv p4, iv p5, iv (ab3_ p1), iv (ab1_ p1), iv (ab4_ p2), iv (ab2_ p2), iv (ab7_ p3), rv b1, iv (ab5_ p3 p4), iv (ab6_ p3 p5), .unset] [(.int (own_fine (2 : Int32) (ab5_ p3 p4) (ab6_ p3 p5) (ab4_ p2)))] _
             refine zp (pc' := 167) X487 Bd at_147 (XT.i0_eq_t (hc489 : (own_fine (2 : Int32) (ab5_ p3 p4) (ab6_ p3 p5) (ab4_ p2)) = (0 : Int32))) rfl ?_
             refine zc X487 Bd at_167 ?_
             refine zs X487 Bd at_168 (l' := #[iv p1, iv p2, iv p3, iv p4, iv p5, iv (ab3_ p1), iv (ab1_ p1), iv (ab4_ p2), iv (ab2_ p2), iv (ab7_ p3), rv b1, iv (ab5_ p3 p4), iv (ab6_ p3 p5), iv 0]) rfl ?_
             exact k)
            exact kont475 ⟨T487, _, T455.heap, (0 : Int32), (X487.mono (lE rfl) (lE rfl)), e487q, N487, (Keep.refl T455.heap []), (by rw [own_ex, if_pos hc477, if_neg hc481, if_neg hc485, if_pos hc489]), (fun t k => pr490 t k)⟩
           ·
            skip
            obtain ⟨_, T491, L491, X491, hQ491, st491⟩ := own_cS 4 20 [] 157 #[iv p1, iv p2, iv p3, iv p4, iv p5, iv (ab3_ p1), iv (ab1_ p1), iv (ab4_ p2), iv (ab2_ p2), iv (ab7_ p3), rv b1, iv (ab5_ p3 p4), iv (ab6_ p3 p5), .unset] X487 hx hZ hown (w62_ hw) (w63_ hw) (w6_ hw) (w64_ hw) (rm7 l Z a0 hw  (ab5_ p3 p4) (ab6_ p3 p5) (ab2_ p2) T455.heap n0 O479 ) pd3 hml.symm (hb hby at_157) e487q rfl rfl rfl rfl (by decide)
            obtain ⟨rfl, N491q, e491q⟩ := hQ491
            have N491 := Fr.app N487 N491q
            have pr492 : Pr p e below T491 m 160 #[iv p1, iv p2, iv p3, iv p4, iv p5, iv (ab3_ p1), iv (ab1_ p1), iv (ab4_ p2), iv (ab2_ p2), iv (ab7_ p3), rv b1, iv (ab5_ p3 p4), iv (ab6_ p3 p5), .unset] [(.int (own_fine (3 : Int32) (ab5_ p3 p4) (ab6_ p3 p5) (ab2_ p2)))] s₁ en := fun t k => pr488 t (by
             show Sx p e below T487 m 147 #[iv p1, iv p2, iv p3, iv p4, iv p5, iv (ab3_ p1), iv (ab1_ p1), iv (ab4_ p2), iv (ab2_ p2), iv (ab7_ p3), rv b1, iv (ab5_ p3 p4), iv (ab6_ p3 p5), .unset] [(.int (own_fine (2 : Int32) (ab5_ p3 p4) (ab6_ p3 p5) (ab4_ p2)))] _
             refine zo X487 Bd at_147 (XT.i0_eq_f (hc489 : ¬ ((own_fine (2 : Int32) (ab5_ p3 p4) (ab6_ p3 p5) (ab4_ p2)) = (0 : Int32)))) ?_
             refine zc X487 Bd at_150 ?_
             refine zi X487 Bd at_151 rfl ?_
             refine zi X487 Bd at_153 rfl ?_
             refine zi X487 Bd at_155 rfl ?_
             refine st491 _ ?_
             exact k)
            by_cases hc493 : (own_fine (3 : Int32) (ab5_ p3 p4) (ab6_ p3 p5) (ab2_ p2)) = (0 : Int32)
            ·
             skip
             have pr494 : Pr p e below T491 m 170 #[iv p1, iv p2, iv p3, iv p4, iv p5, iv (ab3_ p1), iv (ab1_ p1), iv (ab4_ p2), iv (ab2_ p2), iv (ab7_ p3), rv b1, iv (ab5_ p3 p4), iv (ab6_ p3 p5), iv 0] [] s₁ en := fun t k => pr492 t (by
              show Sx p e below T491 m 160 #[iv p1, iv p2, iv p3, iv p4, iv p5, iv (ab3_ p1), iv (ab1_ p1), iv (ab4_ p2), iv (ab2_ p2), iv (ab7_ p3), rv b1, iv (ab5_ p3 p4), iv (ab6_ p3 p5), .unset] [(.int (own_fine (3 : Int32) (ab5_ p3 p4) (ab6_ p3 p5) (ab2_ p2)))] _
              refine zp (pc' := 167) X491 Bd at_160 (XT.i0_eq_t (hc493 : (own_fine (3 : Int32) (ab5_ p3 p4) (ab6_ p3 p5) (ab2_ p2)) = (0 : Int32))) rfl ?_
              refine zc X491 Bd at_167 ?_
              refine zs X491 Bd at_168 (l' := #[iv p1, iv p2, iv p3, iv p4, iv p5, iv (ab3_ p1), iv (ab1_ p1), iv (ab4_ p2), iv (ab2_ p2), iv (ab7_ p3), rv b1, iv (ab5_ p3 p4), iv (ab6_ p3 p5), iv 0]) rfl ?_
              exact k)
             exact kont475 ⟨T491, _, T455.heap, (0 : Int32), (X491.mono (lE rfl) (lE rfl)), e491q, N491, (Keep.refl T455.heap []), (by rw [own_ex, if_pos hc477, if_neg hc481, if_neg hc485, if_neg hc489, if_pos hc493]), (fun t k => pr494 t k)⟩
            ·
             skip
             have pr495 : Pr p e below T491 m 170 #[iv p1, iv p2, iv p3, iv p4, iv p5, iv (ab3_ p1), iv (ab1_ p1), iv (ab4_ p2), iv (ab2_ p2), iv (ab7_ p3), rv b1, iv (ab5_ p3 p4), iv (ab6_ p3 p5), iv 1] [] s₁ en := fun t k => pr492 t (by
              show Sx p e below T491 m 160 #[iv p1, iv p2, iv p3, iv p4, iv p5, iv (ab3_ p1), iv (ab1_ p1), iv (ab4_ p2), iv (ab2_ p2), iv (ab7_ p3), rv b1, iv (ab5_ p3 p4), iv (ab6_ p3 p5), .unset] [(.int (own_fine (3 : Int32) (ab5_ p3 p4) (ab6_ p3 p5) (ab2_ p2)))] _
              refine zo X491 Bd at_160 (XT.i0_eq_f (hc493 : ¬ ((own_fine (3 : Int32) (ab5_ p3 p4) (ab6_ p3 p5) (ab2_ p2)) = (0 : Int32)))) ?_
              refine zc X491 Bd at_163 ?_
              refine zg (pc' := 168) X491 Bd at_164 rfl ?_
              refine zs X491 Bd at_168 (l' := #[iv p1, iv p2, iv p3, iv p4, iv p5, iv (ab3_ p1), iv (ab1_ p1), iv (ab4_ p2), iv (ab2_ p2), iv (ab7_ p3), rv b1, iv (ab5_ p3 p4), iv (ab6_ p3 p5), iv 1]) rfl ?_
              exact k)
             exact kont475 ⟨T491, _, T455.heap, (1 : Int32), (X491.mono (lE rfl) (lE rfl)), e491q, N491, (Keep.refl T455.heap []), (by rw [own_ex, if_pos hc477, if_neg hc481, if_neg hc485, if_neg hc489, if_neg hc493]), (fun t k => pr495 t k)⟩
        ·
         skip
         have pr496 : Pr p e below T455 m 170 #[iv p1, iv p2, iv p3, iv p4, iv p5, iv (ab3_ p1), iv (ab1_ p1), iv (ab4_ p2), iv (ab2_ p2), iv (ab7_ p3), rv b1, iv (ab5_ p3 p4), iv (ab6_ p3 p5), iv 0] [] s₁ en := fun t k => pr476 t (by
          show Sx p e below T455 m 108 #[iv p1, iv p2, iv p3, iv p4, iv p5, iv (ab3_ p1), iv (ab1_ p1), iv (ab4_ p2), iv (ab2_ p2), iv (ab7_ p3), rv b1, iv (ab5_ p3 p4), iv (ab6_ p3 p5), .unset] [(.int (ab6_ p3 p5)), (.int (ab5_ p3 p4))] _
          refine zy (pc' := 167) X455 Bd at_108 (XT.ii_ge_t (hc477 : ¬ ((ab5_ p3 p4) < (ab6_ p3 p5)))) rfl ?_
          refine zc X455 Bd at_167 ?_
          refine zs X455 Bd at_168 (l' := #[iv p1, iv p2, iv p3, iv p4, iv p5, iv (ab3_ p1), iv (ab1_ p1), iv (ab4_ p2), iv (ab2_ p2), iv (ab7_ p3), rv b1, iv (ab5_ p3 p4), iv (ab6_ p3 p5), iv 0]) rfl ?_
          exact k)
         exact kont475 ⟨T455, _, T455.heap, (0 : Int32), (X455.mono (lE rfl) (lE rfl)), rfl, N455, (Keep.refl T455.heap []), (by rw [own_ex, if_neg hc477]), (fun t k => pr496 t k)⟩
       ·
        obtain ⟨T475, L475, h475, ex_, X475, e475, N475, K475j, hp475_0, pr475⟩ := hA475
        have K497 := K467.trans K475j (fun x q => nomatch q)
        have C498 : CHv Z consts_1 s.vm h475 := CHv.keep K475j sf0 C468
        have R499 : CHr Z consts_1 s.vm h0 s.vm h475 := R471.trans (CHr.keep K475j sf0 C468)
        have F501_ := w465.keep K475j nin0
        have F502_ := w464.keep K475j nin0
        have A503_ := w466.keep K475j nin0
        have E504_ := E456_.keep K455q
        have E505_ := E504_.keep K475j
        have O506 := O459.keep K455q (allS g_b1 all0)
        have O507 := O506.keep K475j all0
        obtain ⟨_, T500, L500, X500, hQ500, st500⟩ := own_cS 4 20 [] 176 #[iv p1, iv p2, iv p3, iv p4, iv p5, iv (ab3_ p1), iv (ab1_ p1), iv (ab4_ p2), iv (ab2_ p2), iv (ab7_ p3), rv b1, iv (ab5_ p3 p4), iv (ab6_ p3 p5), iv ex_] X475 hx hZ hown (w35_ hw) (w36_ hw) (w37_ hw) (w38_ hw) (rm91 l Z a0 hw G1 G3 b1 (ab5_ p3 p4) (ab6_ p3 p5) b460 c461_ (((((ab3_ p1) >>> ((0 : Int32) &&& 31)))).toInt8.toInt32) (((((ab3_ p1) >>> ((8 : Int32) &&& 31)))).toInt8.toInt32) (((((ab1_ p1) >>> ((0 : Int32) &&& 31)))).toInt8.toInt32) (((((ab1_ p1) >>> ((8 : Int32) &&& 31)))).toInt8.toInt32) (((((ab4_ p2) >>> ((0 : Int32) &&& 31)))).toInt8.toInt32) (((((ab4_ p2) >>> ((8 : Int32) &&& 31)))).toInt8.toInt32) (((((ab2_ p2) >>> ((0 : Int32) &&& 31)))).toInt8.toInt32) (((((ab2_ p2) >>> ((8 : Int32) &&& 31)))).toInt8.toInt32) h475 n0 O507 O2 P5 O4 rG3 uS12 uS15 uS18 F501_ F502_ A503_ (own_rb p4 (own_rem5g p3 hc9 hc75 hc198 hc321) (k := 4) (by decide)).1 (own_rb p5 (own_rem5g p3 hc9 hc75 hc198 hc321) (k := 4) (by decide)).2 E505_) pd5 hml.symm (hb hby at_176) e475 rfl rfl rfl rfl (by decide)
        obtain ⟨rfl, N500q, e500q⟩ := hQ500
        have N500 := Fr.app N475 N500q
        have hk508' : _ ≤ h475.size := (Nat.le_trans (Nat.le_trans (Nat.le_trans (Nat.le_trans hk0 E1.1) K443q.1) K455q.1) K475j.1)
        refine own_lvW X500 Bd.notSynchronized hS0 hk508' (v := (some (.int 1))) (fun h => by rw [Bd.returns] at h; cases h) e500q hh ⟨rfl, N500⟩ (R499.trans (CHv.at X500 hZ hEL C498)) (lE rfl) (lE rfl) (fun fs hr => pr475 _ (by
         show Sx p e below T475 m 170 #[iv p1, iv p2, iv p3, iv p4, iv p5, iv (ab3_ p1), iv (ab1_ p1), iv (ab4_ p2), iv (ab2_ p2), iv (ab7_ p3), rv b1, iv (ab5_ p3 p4), iv (ab6_ p3 p5), iv ex_] [] _
         refine za X475 Bd at_170 rfl rfl ?_
         refine zi X475 Bd at_172 rfl ?_
         refine zi X475 Bd at_174 rfl ?_
         refine st500 _ ?_
         refine zi X500 Bd at_179 rfl ?_
         refine zn X500 Bd at_181 (XT.ii_ne_f ((((congrArg (fun l => own_isd l (ab5_ p3 p4) (ab6_ p3 p5)) ((own_cons (own_get16 (own_nar_i2c _)) (own_cons (own_get16 (own_nar_i2c _)) (own_cons (own_get16 (own_nar_i2c _)) (own_cons (own_get16 (own_nar_i2c _)) rfl)))) : (own_L4 (((((ab3_ p1) >>> ((0 : Int32) &&& 31)))).toInt8.toInt32) (((((ab3_ p1) >>> ((8 : Int32) &&& 31)))).toInt8.toInt32) (((((ab1_ p1) >>> ((0 : Int32) &&& 31)))).toInt8.toInt32) (((((ab1_ p1) >>> ((8 : Int32) &&& 31)))).toInt8.toInt32) (((((ab4_ p2) >>> ((0 : Int32) &&& 31)))).toInt8.toInt32) (((((ab4_ p2) >>> ((8 : Int32) &&& 31)))).toInt8.toInt32) (((((ab2_ p2) >>> ((0 : Int32) &&& 31)))).toInt8.toInt32) (((((ab2_ p2) >>> ((8 : Int32) &&& 31)))).toInt8.toInt32)) = ([(ab3_ p1), (ab1_ p1), (ab4_ p2), (ab2_ p2)] : List Int32))).trans (own_fin4 (ab5_ p3 p4) (ab6_ p3 p5) (ab3_ p1) (ab1_ p1) (ab4_ p2) (ab2_ p2) (own_rb p4 (own_rem5g p3 hc9 hc75 hc198 hc321) (k := 4) (by decide)).1 (own_rb p4 (own_rem5g p3 hc9 hc75 hc198 hc321) (k := 4) (by decide)).2 (own_rb p5 (own_rem5g p3 hc9 hc75 hc198 hc321) (k := 4) (by decide)).1 (own_rb p5 (own_rem5g p3 hc9 hc75 hc198 hc321) (k := 4) (by decide)).2)).trans hp475_0.symm) : (own_isd (own_L4 (((((ab3_ p1) >>> ((0 : Int32) &&& 31)))).toInt8.toInt32) (((((ab3_ p1) >>> ((8 : Int32) &&& 31)))).toInt8.toInt32) (((((ab1_ p1) >>> ((0 : Int32) &&& 31)))).toInt8.toInt32) (((((ab1_ p1) >>> ((8 : Int32) &&& 31)))).toInt8.toInt32) (((((ab4_ p2) >>> ((0 : Int32) &&& 31)))).toInt8.toInt32) (((((ab4_ p2) >>> ((8 : Int32) &&& 31)))).toInt8.toInt32) (((((ab2_ p2) >>> ((0 : Int32) &&& 31)))).toInt8.toInt32) (((((ab2_ p2) >>> ((8 : Int32) &&& 31)))).toInt8.toInt32)) (ab5_ p3 p4) (ab6_ p3 p5)) = ex_)) ?_
         refine zc X500 Bd at_184 ?_
         refine zg (pc' := 189) X500 Bd at_185 rfl ?_
         exact retN X500 hx (t := .boolean) Bd.returns (by simp) (hb hby at_189) hr))
      ·
       skip
       have O510 := O459.keep K455q (allS g_b1 all0)
       obtain ⟨_, T509, L509, X509, hQ509, st509⟩ := own_cS 4 20 [] 69 #[iv p1, iv p2, iv p3, iv p4, iv p5, iv (ab3_ p1), iv (ab1_ p1), iv (ab4_ p2), iv (ab2_ p2), iv (ab7_ p3), rv b1, .unset, .unset, .unset] X455 hx hZ hown (w35_ hw) (w36_ hw) (w37_ hw) (w38_ hw) (rm9 l Z a0 hw  b1 p4 p5 T455.heap n0 O510 hc473) pd5 hml.symm (hb hby at_69) rfl rfl rfl rfl rfl (by decide)
       obtain ⟨rfl, N509q, e509q⟩ := hQ509
       have N509 := Fr.app N455 N509q
       have hk511' : _ ≤ T455.heap.size := (Nat.le_trans (Nat.le_trans (Nat.le_trans hk0 E1.1) K443q.1) K455q.1)
       refine own_lvW X509 Bd.notSynchronized hS0 hk511' (v := (some (.int 1))) (fun h => by rw [Bd.returns] at h; cases h) e509q hh ⟨rfl, N509⟩ (R471.trans (CHv.at X509 hZ hEL C468)) (lE rfl) (lE rfl) (fun fs hr => pr472 _ (by
        show Sx p e below T455 m 61 #[iv p1, iv p2, iv p3, iv p4, iv p5, iv (ab3_ p1), iv (ab1_ p1), iv (ab4_ p2), iv (ab2_ p2), iv (ab7_ p3), rv b1, .unset, .unset, .unset] [.int p5, .int p4] _
        refine zn X455 Bd at_61 (XT.ii_lt_f (hc473 : ¬ (p4 < p5))) ?_
        refine za X455 Bd at_64 rfl rfl ?_
        refine zj X455 Bd at_66 rfl ?_
        refine zi X455 Bd at_67 rfl ?_
        refine st509 _ ?_
        refine zo X509 Bd at_72 (XT.i0_ne_f ((by decide) : (0 : Int32) = (0 : Int32))) ?_
        refine zc X509 Bd at_75 ?_
        refine zg (pc' := 80) X509 Bd at_76 rfl ?_
        exact retN X509 hx (t := .boolean) Bd.returns (by simp) (hb hby at_80) hr))
     ·
      skip
      have hp513 : ∀ c ∈ ([(ab3_ p1), (ab1_ p1), (ab4_ p2), (ab2_ p2)] : List Int32), ¬ c < 0 ∧ ¬ (255 : Int32) < c := (List.forall_mem_cons.mpr ⟨(And.intro (own_ch0 (own_nar_i2c _)) (own_maxle hc454 (mI 0 rfl))), (List.forall_mem_cons.mpr ⟨(And.intro (own_ch0 (own_nar_i2c _)) (own_maxle hc454 (mI 1 rfl))), (List.forall_mem_cons.mpr ⟨(And.intro (own_ch0 (own_nar_i2c _)) (own_maxle hc454 (mI 2 rfl))), (List.forall_mem_cons.mpr ⟨(And.intro (own_ch0 (own_nar_i2c _)) (own_maxle hc454 (mI 3 rfl))), (fun _ q => nomatch q)⟩)⟩)⟩)⟩)
      have g_b1 : n0 ≤ b1 := Nat.le_trans (Nat.le_trans (Nat.le_of_eq X00.1.symm) X00.2.1) (Nat.le_of_eq g1.symm)
      have O514 := O444.keep K443q all0
      have E515_ := A1.keep K443q
      have F516_ := F6_.keep K443q nin0
      have F517_ := F5_.keep K443q nin0
      obtain ⟨_, T512, L512, X512, hQ512, st512⟩ := own_cb 2 8 1 4 3 12 (X443.specialBack hx (y := Y2_) rfl hown (mvT hZ (w9_ hw)) (mvT hZ (w10_ hw)) (mvT hZ (w11_ hw)) (by decide) (StrChars.Road.backV (s := s.setVm s.vm) (W := 1) hZ (own_ws hw) (kI := 4) (w2_ hw) (cs := ([(ab3_ p1), (ab1_ p1), (ab4_ p2), (ab2_ p2)] : List Int32)) (bs := ([(ab3_ p1), (ab1_ p1), (ab4_ p2), (ab2_ p2)] : List Int32).map (fun c => c.toInt8.toInt32)) (n := 4) g_b1 (Nat.le_trans (Nat.le_of_eq O514.1.symm) O514.2.1) E515_ F516_ F517_ w448 (O2.ext O514.2) P5 rfl rfl (lE rfl) (lE rfl) hp513 rfl (lE rfl) (lE rfl)) (g := (mkF m 53 #[iv p1, iv p2, iv p3, iv p4, iv p5, iv (ab3_ p1), iv (ab1_ p1), iv (ab4_ p2), iv (ab2_ p2), iv (ab7_ p3), .unset, .unset, .unset, .unset] [.ref b445, .ref b1, .ref b1])) rfl hml.symm (Steps.refl _) (a := b1) (argsL := [.ref b445]) (rest := [.ref b1]) (lenOf pd2 rfl) rfl (own_hw rfl) (hb hby at_53) (fun _ _ => ⟨rfl, rfl, (lE rfl : 2 + 1 ≤ _), (lE rfl : 8 + 4 ≤ _)⟩)) rfl rfl
      obtain ⟨rfl, N512q, K512q, E512q, C512q, b518, c518_, u518, g518, ne518, V518_, A518_⟩ := hQ512
      have N512 := Fr.app N443 N512q
      have sz_b1 : h0.size ≤ b1 := (Nat.le_of_eq g1.symm)
      have K519 := K449.trans K512q (allS (Or.inr sz_b1) all0)
      have f521 : Safe Z consts_1 s.vm h1 b1 := Safe.ext E1 hC0 (Safe.new (Nat.le_of_eq g1.symm))
      have f522 : Safe Z consts_1 s.vm T443.heap b1 := Safe.keep K443q sf0 C3 f521
      have C520 : CHv Z consts_1 s.vm T512.heap := CHv.keep K512q (sfS f522 sf0) C450
      have R523 : CHr Z consts_1 s.vm h0 s.vm T512.heap := R451.trans (CHr.keep K512q (sfS f522 sf0) C450)
      have pr524 : Pr p e below T512 m 61 #[iv p1, iv p2, iv p3, iv p4, iv p5, iv (ab3_ p1), iv (ab1_ p1), iv (ab4_ p2), iv (ab2_ p2), iv (ab7_ p3), rv b1, .unset, .unset, .unset] [.int p5, .int p4] s₁ en := fun t k => pr453 t (by
       show Sx p e below T443 m 53 #[iv p1, iv p2, iv p3, iv p4, iv p5, iv (ab3_ p1), iv (ab1_ p1), iv (ab4_ p2), iv (ab2_ p2), iv (ab7_ p3), .unset, .unset, .unset, .unset] [.ref b445, .ref b1, .ref b1] _
       refine st512.trans ?_
       refine XS.astore X512.here hx rfl (hb hby at_56) rfl rfl (l' := #[iv p1, iv p2, iv p3, iv p4, iv p5, iv (ab3_ p1), iv (ab1_ p1), iv (ab4_ p2), iv (ab2_ p2), iv (ab7_ p3), rv b1, .unset, .unset, .unset]) rfl ?_
       refine zj X512 Bd at_58 rfl ?_
       refine zi X512 Bd at_59 rfl ?_
       exact k)
      by_cases hc525 : p4 < p5
      ·
       skip
       have pr526 : Pr p e below T512 m 104 #[iv p1, iv p2, iv p3, iv p4, iv p5, iv (ab3_ p1), iv (ab1_ p1), iv (ab4_ p2), iv (ab2_ p2), iv (ab7_ p3), rv b1, iv (ab5_ p3 p4), iv (ab6_ p3 p5), .unset] [] s₁ en := fun t k => pr524 t (by
        show Sx p e below T512 m 61 #[iv p1, iv p2, iv p3, iv p4, iv p5, iv (ab3_ p1), iv (ab1_ p1), iv (ab4_ p2), iv (ab2_ p2), iv (ab7_ p3), rv b1, .unset, .unset, .unset] [.int p5, .int p4] _
        refine zy (pc' := 81) X512 Bd at_61 (XT.ii_lt_t (hc525 : p4 < p5)) rfl ?_
        refine zj X512 Bd at_81 rfl ?_
        refine X512.ldcInt hx hown (mvT hZ (w61_ hw)) (g := (mkF m 82 #[iv p1, iv p2, iv p3, iv p4, iv p5, iv (ab3_ p1), iv (ab1_ p1), iv (ab4_ p2), iv (ab2_ p2), iv (ab7_ p3), rv b1, .unset, .unset, .unset] [.int p4])) rfl (hb hby at_82) _ ?_
        refine XS.iand X512.here hx rfl (hb hby at_84) rfl ?_
        refine zi X512 Bd at_85 rfl ?_
        refine zc X512 Bd at_87 ?_
        refine XS.iadd X512.here hx rfl (hb hby at_88) rfl ?_
        refine iremM X512 hx (g := (mkF m 89 #[iv p1, iv p2, iv p3, iv p4, iv p5, iv (ab3_ p1), iv (ab1_ p1), iv (ab4_ p2), iv (ab2_ p2), iv (ab7_ p3), rv b1, .unset, .unset, .unset] [(.int (ab0_ p3)), (.int (p4 &&& (2147483647 : Int32)))])) rfl (hb hby at_89) rfl (own_sub (p := fun z_ => ¬ ((z_ + (1 : Int32)) = (0 : Int32))) (own_rem5g p3 hc9 hc75 hc198 hc321) (by decide)) ?_
        refine zs X512 Bd at_90 (l' := #[iv p1, iv p2, iv p3, iv p4, iv p5, iv (ab3_ p1), iv (ab1_ p1), iv (ab4_ p2), iv (ab2_ p2), iv (ab7_ p3), rv b1, iv (ab5_ p3 p4), .unset, .unset]) rfl ?_
        refine zi X512 Bd at_92 rfl ?_
        refine X512.ldcInt hx hown (mvT hZ (w61_ hw)) (g := (mkF m 94 #[iv p1, iv p2, iv p3, iv p4, iv p5, iv (ab3_ p1), iv (ab1_ p1), iv (ab4_ p2), iv (ab2_ p2), iv (ab7_ p3), rv b1, iv (ab5_ p3 p4), .unset, .unset] [.int p5])) rfl (hb hby at_94) _ ?_
        refine XS.iand X512.here hx rfl (hb hby at_96) rfl ?_
        refine zi X512 Bd at_97 rfl ?_
        refine zc X512 Bd at_99 ?_
        refine XS.iadd X512.here hx rfl (hb hby at_100) rfl ?_
        refine iremM X512 hx (g := (mkF m 101 #[iv p1, iv p2, iv p3, iv p4, iv p5, iv (ab3_ p1), iv (ab1_ p1), iv (ab4_ p2), iv (ab2_ p2), iv (ab7_ p3), rv b1, iv (ab5_ p3 p4), .unset, .unset] [(.int (ab0_ p3)), (.int (p5 &&& (2147483647 : Int32)))])) rfl (hb hby at_101) rfl (own_sub (p := fun z_ => ¬ ((z_ + (1 : Int32)) = (0 : Int32))) (own_rem5g p3 hc9 hc75 hc198 hc321) (by decide)) ?_
        refine zs X512 Bd at_102 (l' := #[iv p1, iv p2, iv p3, iv p4, iv p5, iv (ab3_ p1), iv (ab1_ p1), iv (ab4_ p2), iv (ab2_ p2), iv (ab7_ p3), rv b1, iv (ab5_ p3 p4), iv (ab6_ p3 p5), .unset]) rfl ?_
        exact k)
       refine cps (A := ∃ T527 : State, ∃ L527 : List Loc, ∃ h527 : Heap, ∃ ex_ : Int32, Stand p l e room_1 (s.setVm s.vm) m #[.int p1, .int p2, .int p3, .int p4, .int p5] below meth c T527 L527 3 12 ∧ T527.heap = h527 ∧ Fr n0 L527 ∧ Keep T512.heap h527 [] ∧ (ex_ = own_ex (ab5_ p3 p4) (ab6_ p3 p5) (ab3_ p1) (ab1_ p1) (ab4_ p2) (ab2_ p2)) ∧ Pr p e below T527 m 170 #[iv p1, iv p2, iv p3, iv p4, iv p5, iv (ab3_ p1), iv (ab1_ p1), iv (ab4_ p2), iv (ab2_ p2), iv (ab7_ p3), rv b1, iv (ab5_ p3 p4), iv (ab6_ p3 p5), iv ex_] [] s₁ en) (fun kont527 => ?_) (fun hA527 => ?_)
       ·
        skip
        have pr528 : Pr p e below T512 m 108 #[iv p1, iv p2, iv p3, iv p4, iv p5, iv (ab3_ p1), iv (ab1_ p1), iv (ab4_ p2), iv (ab2_ p2), iv (ab7_ p3), rv b1, iv (ab5_ p3 p4), iv (ab6_ p3 p5), .unset] [(.int (ab6_ p3 p5)), (.int (ab5_ p3 p4))] s₁ en := fun t k => pr526 t (by
         show Sx p e below T512 m 104 #[iv p1, iv p2, iv p3, iv p4, iv p5, iv (ab3_ p1), iv (ab1_ p1), iv (ab4_ p2), iv (ab2_ p2), iv (ab7_ p3), rv b1, iv (ab5_ p3 p4), iv (ab6_ p3 p5), .unset] [] _
         refine zi X512 Bd at_104 rfl ?_
         refine zi X512 Bd at_106 rfl ?_
         exact k)
        by_cases hc529 : (ab5_ p3 p4) < (ab6_ p3 p5)
        ·
         skip
         have O531 := O514.keep K512q (allS g_b1 all0)
         obtain ⟨_, T530, L530, X530, hQ530, st530⟩ := own_cS 3 12 [] 118 #[iv p1, iv p2, iv p3, iv p4, iv p5, iv (ab3_ p1), iv (ab1_ p1), iv (ab4_ p2), iv (ab2_ p2), iv (ab7_ p3), rv b1, iv (ab5_ p3 p4), iv (ab6_ p3 p5), .unset] X512 hx hZ hown (w62_ hw) (w63_ hw) (w6_ hw) (w64_ hw) (rm4 l Z a0 hw  (ab5_ p3 p4) (ab6_ p3 p5) (ab3_ p1) T512.heap n0 O531 ) pd3 hml.symm (hb hby at_118) rfl rfl rfl rfl rfl (by decide)
         obtain ⟨rfl, N530q, e530q⟩ := hQ530
         have N530 := Fr.app N512 N530q
         have pr532 : Pr p e below T530 m 121 #[iv p1, iv p2, iv p3, iv p4, iv p5, iv (ab3_ p1), iv (ab1_ p1), iv (ab4_ p2), iv (ab2_ p2), iv (ab7_ p3), rv b1, iv (ab5_ p3 p4), iv (ab6_ p3 p5), .unset] [(.int (own_fine (0 : Int32) (ab5_ p3 p4) (ab6_ p3 p5) (ab3_ p1)))] s₁ en := fun t k => pr528 t (by
          show Sx p e below T512 m 108 #[iv p1, iv p2, iv p3, iv p4, iv p5, iv (ab3_ p1), iv (ab1_ p1), iv (ab4_ p2), iv (ab2_ p2), iv (ab7_ p3), rv b1, iv (ab5_ p3 p4), iv (ab6_ p3 p5), .unset] [(.int (ab6_ p3 p5)), (.int (ab5_ p3 p4))] _
          refine zn X512 Bd at_108 (XT.ii_ge_f (hc529 : (ab5_ p3 p4) < (ab6_ p3 p5))) ?_
          refine zc X512 Bd at_111 ?_
          refine zi X512 Bd at_112 rfl ?_
          refine zi X512 Bd at_114 rfl ?_
          refine zi X512 Bd at_116 rfl ?_
          refine st530 _ ?_
          exact k)
         by_cases hc533 : (own_fine (0 : Int32) (ab5_ p3 p4) (ab6_ p3 p5) (ab3_ p1)) = (0 : Int32)
         ·
          skip
          have pr534 : Pr p e below T530 m 170 #[iv p1, iv p2, iv p3, iv p4, iv p5, iv (ab3_ p1), iv (ab1_ p1), iv (ab4_ p2), iv (ab2_ p2), iv (ab7_ p3), rv b1, iv (ab5_ p3 p4), iv (ab6_ p3 p5), iv 0] [] s₁ en := fun t k => pr532 t (by
           show Sx p e below T530 m 121 #[iv p1, iv p2, iv p3, iv p4, iv p5, iv (ab3_ p1), iv (ab1_ p1), iv (ab4_ p2), iv (ab2_ p2), iv (ab7_ p3), rv b1, iv (ab5_ p3 p4), iv (ab6_ p3 p5), .unset] [(.int (own_fine (0 : Int32) (ab5_ p3 p4) (ab6_ p3 p5) (ab3_ p1)))] _
           refine zp (pc' := 167) X530 Bd at_121 (XT.i0_eq_t (hc533 : (own_fine (0 : Int32) (ab5_ p3 p4) (ab6_ p3 p5) (ab3_ p1)) = (0 : Int32))) rfl ?_
           refine zc X530 Bd at_167 ?_
           refine zs X530 Bd at_168 (l' := #[iv p1, iv p2, iv p3, iv p4, iv p5, iv (ab3_ p1), iv (ab1_ p1), iv (ab4_ p2), iv (ab2_ p2), iv (ab7_ p3), rv b1, iv (ab5_ p3 p4), iv (ab6_ p3 p5), iv 0]) rfl ?_
           exact k)
          exact kont527 ⟨T530, _, T512.heap, (0 : Int32), (X530.mono (lE rfl) (lE rfl)), e530q, N530, (Keep.refl T512.heap []), (by rw [own_ex, if_pos hc529, if_pos hc533]), (fun t k => pr534 t k)⟩
         ·
          skip
          obtain ⟨_, T535, L535, X535, hQ535, st535⟩ := own_cS 3 12 [] 131 #[iv p1, iv p2, iv p3, iv p4, iv p5, iv (ab3_ p1), iv (ab1_ p1), iv (ab4_ p2), iv (ab2_ p2), iv (ab7_ p3), rv b1, iv (ab5_ p3 p4), iv (ab6_ p3 p5), .unset] X530 hx hZ hown (w62_ hw) (w63_ hw) (w6_ hw) (w64_ hw) (rm5 l Z a0 hw  (ab5_ p3 p4) (ab6_ p3 p5) (ab1_ p1) T512.heap n0 O531 ) pd3 hml.symm (hb hby at_131) e530q rfl rfl rfl rfl (by decide)
          obtain ⟨rfl, N535q, e535q⟩ := hQ535
          have N535 := Fr.app N530 N535q
          have pr536 : Pr p e below T535 m 134 #[iv p1, iv p2, iv p3, iv p4, iv p5, iv (ab3_ p1), iv (ab1_ p1), iv (ab4_ p2), iv (ab2_ p2), iv (ab7_ p3), rv b1, iv (ab5_ p3 p4), iv (ab6_ p3 p5), .unset] [(.int (own_fine (1 : Int32) (ab5_ p3 p4) (ab6_ p3 p5) (ab1_ p1)))] s₁ en := fun t k => pr532 t (by
           show Sx p e below T530 m 121 #[iv p1, iv p2, iv p3, iv p4, iv p5, iv (ab3_ p1), iv (ab1_ p1), iv (ab4_ p2), iv (ab2_ p2), iv (ab7_ p3), rv b1, iv (ab5_ p3 p4), iv (ab6_ p3 p5), .unset] [(.int (own_fine (0 : Int32) (ab5_ p3 p4) (ab6_ p3 p5) (ab3_ p1)))] _
           refine zo X530 Bd at_121 (XT.i0_eq_f (hc533 : ¬ ((own_fine (0 : Int32) (ab5_ p3 p4) (ab6_ p3 p5) (ab3_ p1)) = (0 : Int32)))) ?_
           refine zc X530 Bd at_124 ?_
           refine zi X530 Bd at_125 rfl ?_
           refine zi X530 Bd at_127 rfl ?_
           refine zi X530 Bd at_129 rfl ?_
           refine st535 _ ?_
           exact k)
          by_cases hc537 : (own_fine (1 : Int32) (ab5_ p3 p4) (ab6_ p3 p5) (ab1_ p1)) = (0 : Int32)
          ·
           skip
           have pr538 : Pr p e below T535 m 170 #[iv p1, iv p2, iv p3, iv p4, iv p5, iv (ab3_ p1), iv (ab1_ p1), iv (ab4_ p2), iv (ab2_ p2), iv (ab7_ p3), rv b1, iv (ab5_ p3 p4), iv (ab6_ p3 p5), iv 0] [] s₁ en := fun t k => pr536 t (by
            show Sx p e below T535 m 134 #[iv p1, iv p2, iv p3, iv p4, iv p5, iv (ab3_ p1), iv (ab1_ p1), iv (ab4_ p2), iv (ab2_ p2), iv (ab7_ p3), rv b1, iv (ab5_ p3 p4), iv (ab6_ p3 p5), .unset] [(.int (own_fine (1 : Int32) (ab5_ p3 p4) (ab6_ p3 p5) (ab1_ p1)))] _
            refine zp (pc' := 167) X535 Bd at_134 (XT.i0_eq_t (hc537 : (own_fine (1 : Int32) (ab5_ p3 p4) (ab6_ p3 p5) (ab1_ p1)) = (0 : Int32))) rfl ?_
            refine zc X535 Bd at_167 ?_
            refine zs X535 Bd at_168 (l' := #[iv p1, iv p2, iv p3, iv p4, iv p5, iv (ab3_ p1), iv (ab1_ p1), iv (ab4_ p2), iv (ab2_ p2), iv (ab7_ p3), rv b1, iv (ab5_ p3 p4), iv (ab6_ p3 p5), iv 0]) rfl ?_
            exact k)
           exact kont527 ⟨T535, _, T512.heap, (0 : Int32), (X535.mono (lE rfl) (lE rfl)), e535q, N535, (Keep.refl T512.heap []), (by rw [own_ex, if_pos hc529, if_neg hc533, if_pos hc537]), (fun t k => pr538 t k)⟩
          ·
           skip
           obtain ⟨_, T539, L539, X539, hQ539, st539⟩ := own_cS 3 12 [] 144 #[iv p1, iv p2, iv p3, iv p4, iv p5, iv (ab3_ p1), iv (ab1_ p1), iv (ab4_ p2), iv (ab2_ p2), iv (ab7_ p3), rv b1, iv (ab5_ p3 p4), iv (ab6_ p3 p5), .unset] X535 hx hZ hown (w62_ hw) (w63_ hw) (w6_ hw) (w64_ hw) (rm6 l Z a0 hw  (ab5_ p3 p4) (ab6_ p3 p5) (ab4_ p2) T512.heap n0 O531 ) pd3 hml.symm (hb hby at_144) e535q rfl rfl rfl rfl (by decide)
           obtain ⟨rfl, N539q, e539q⟩ := hQ539
           have N539 := Fr.app N535 N539q
           have pr540 : Pr p e below T539 m 147 #[iv p1, iv p2, iv p3, iv p4, iv p5, iv (ab3_ p1), iv (ab1_ p1), iv (ab4_ p2), iv (ab2_ p2), iv (ab7_ p3), rv b1, iv (ab5_ p3 p4), iv (ab6_ p3 p5), .unset] [(.int (own_fine (2 : Int32) (ab5_ p3 p4) (ab6_ p3 p5) (ab4_ p2)))] s₁ en := fun t k => pr536 t (by
            show Sx p e below T535 m 134 #[iv p1, iv p2, iv p3, iv p4, iv p5, iv (ab3_ p1), iv (ab1_ p1), iv (ab4_ p2), iv (ab2_ p2), iv (ab7_ p3), rv b1, iv (ab5_ p3 p4), iv (ab6_ p3 p5), .unset] [(.int (own_fine (1 : Int32) (ab5_ p3 p4) (ab6_ p3 p5) (ab1_ p1)))] _
            refine zo X535 Bd at_134 (XT.i0_eq_f (hc537 : ¬ ((own_fine (1 : Int32) (ab5_ p3 p4) (ab6_ p3 p5) (ab1_ p1)) = (0 : Int32)))) ?_
            refine zc X535 Bd at_137 ?_
            refine zi X535 Bd at_138 rfl ?_
            refine zi X535 Bd at_140 rfl ?_
            refine zi X535 Bd at_142 rfl ?_
            refine st539 _ ?_
            exact k)
           by_cases hc541 : (own_fine (2 : Int32) (ab5_ p3 p4) (ab6_ p3 p5) (ab4_ p2)) = (0 : Int32)
           ·
            skip
            have pr542 : Pr p e below T539 m 170 #[iv p1, iv p2, iv p3, iv p4, iv p5, iv (ab3_ p1), iv (ab1_ p1), iv (ab4_ p2), iv (ab2_ p2), iv (ab7_ p3), rv b1, iv (ab5_ p3 p4), iv (ab6_ p3 p5), iv 0] [] s₁ en := fun t k => pr540 t (by
             show Sx p e below T539 m 147 #[iv p1, iv p2, iv p3, iv p4, iv p5, iv (ab3_ p1), iv (ab1_ p1), iv (ab4_ p2), iv (ab2_ p2), iv (ab7_ p3), rv b1, iv (ab5_ p3 p4), iv (ab6_ p3 p5), .unset] [(.int (own_fine (2 : Int32) (ab5_ p3 p4) (ab6_ p3 p5) (ab4_ p2)))] _
             refine zp (pc' := 167) X539 Bd at_147 (XT.i0_eq_t (hc541 : (own_fine (2 : Int32) (ab5_ p3 p4) (ab6_ p3 p5) (ab4_ p2)) = (0 : Int32))) rfl ?_
             refine zc X539 Bd at_167 ?_
             refine zs X539 Bd at_168 (l' := #[iv p1, iv p2, iv p3, iv p4, iv p5, iv (ab3_ p1), iv (ab1_ p1), iv (ab4_ p2), iv (ab2_ p2), iv (ab7_ p3), rv b1, iv (ab5_ p3 p4), iv (ab6_ p3 p5), iv 0]) rfl ?_
             exact k)
            exact kont527 ⟨T539, _, T512.heap, (0 : Int32), (X539.mono (lE rfl) (lE rfl)), e539q, N539, (Keep.refl T512.heap []), (by rw [own_ex, if_pos hc529, if_neg hc533, if_neg hc537, if_pos hc541]), (fun t k => pr542 t k)⟩
           ·
            skip
            obtain ⟨_, T543, L543, X543, hQ543, st543⟩ := own_cS 3 12 [] 157 #[iv p1, iv p2, iv p3, iv p4, iv p5, iv (ab3_ p1), iv (ab1_ p1), iv (ab4_ p2), iv (ab2_ p2), iv (ab7_ p3), rv b1, iv (ab5_ p3 p4), iv (ab6_ p3 p5), .unset] X539 hx hZ hown (w62_ hw) (w63_ hw) (w6_ hw) (w64_ hw) (rm7 l Z a0 hw  (ab5_ p3 p4) (ab6_ p3 p5) (ab2_ p2) T512.heap n0 O531 ) pd3 hml.symm (hb hby at_157) e539q rfl rfl rfl rfl (by decide)
            obtain ⟨rfl, N543q, e543q⟩ := hQ543
            have N543 := Fr.app N539 N543q
            have pr544 : Pr p e below T543 m 160 #[iv p1, iv p2, iv p3, iv p4, iv p5, iv (ab3_ p1), iv (ab1_ p1), iv (ab4_ p2), iv (ab2_ p2), iv (ab7_ p3), rv b1, iv (ab5_ p3 p4), iv (ab6_ p3 p5), .unset] [(.int (own_fine (3 : Int32) (ab5_ p3 p4) (ab6_ p3 p5) (ab2_ p2)))] s₁ en := fun t k => pr540 t (by
             show Sx p e below T539 m 147 #[iv p1, iv p2, iv p3, iv p4, iv p5, iv (ab3_ p1), iv (ab1_ p1), iv (ab4_ p2), iv (ab2_ p2), iv (ab7_ p3), rv b1, iv (ab5_ p3 p4), iv (ab6_ p3 p5), .unset] [(.int (own_fine (2 : Int32) (ab5_ p3 p4) (ab6_ p3 p5) (ab4_ p2)))] _
             refine zo X539 Bd at_147 (XT.i0_eq_f (hc541 : ¬ ((own_fine (2 : Int32) (ab5_ p3 p4) (ab6_ p3 p5) (ab4_ p2)) = (0 : Int32)))) ?_
             refine zc X539 Bd at_150 ?_
             refine zi X539 Bd at_151 rfl ?_
             refine zi X539 Bd at_153 rfl ?_
             refine zi X539 Bd at_155 rfl ?_
             refine st543 _ ?_
             exact k)
            by_cases hc545 : (own_fine (3 : Int32) (ab5_ p3 p4) (ab6_ p3 p5) (ab2_ p2)) = (0 : Int32)
            ·
             skip
             have pr546 : Pr p e below T543 m 170 #[iv p1, iv p2, iv p3, iv p4, iv p5, iv (ab3_ p1), iv (ab1_ p1), iv (ab4_ p2), iv (ab2_ p2), iv (ab7_ p3), rv b1, iv (ab5_ p3 p4), iv (ab6_ p3 p5), iv 0] [] s₁ en := fun t k => pr544 t (by
              show Sx p e below T543 m 160 #[iv p1, iv p2, iv p3, iv p4, iv p5, iv (ab3_ p1), iv (ab1_ p1), iv (ab4_ p2), iv (ab2_ p2), iv (ab7_ p3), rv b1, iv (ab5_ p3 p4), iv (ab6_ p3 p5), .unset] [(.int (own_fine (3 : Int32) (ab5_ p3 p4) (ab6_ p3 p5) (ab2_ p2)))] _
              refine zp (pc' := 167) X543 Bd at_160 (XT.i0_eq_t (hc545 : (own_fine (3 : Int32) (ab5_ p3 p4) (ab6_ p3 p5) (ab2_ p2)) = (0 : Int32))) rfl ?_
              refine zc X543 Bd at_167 ?_
              refine zs X543 Bd at_168 (l' := #[iv p1, iv p2, iv p3, iv p4, iv p5, iv (ab3_ p1), iv (ab1_ p1), iv (ab4_ p2), iv (ab2_ p2), iv (ab7_ p3), rv b1, iv (ab5_ p3 p4), iv (ab6_ p3 p5), iv 0]) rfl ?_
              exact k)
             exact kont527 ⟨T543, _, T512.heap, (0 : Int32), (X543.mono (lE rfl) (lE rfl)), e543q, N543, (Keep.refl T512.heap []), (by rw [own_ex, if_pos hc529, if_neg hc533, if_neg hc537, if_neg hc541, if_pos hc545]), (fun t k => pr546 t k)⟩
            ·
             skip
             have pr547 : Pr p e below T543 m 170 #[iv p1, iv p2, iv p3, iv p4, iv p5, iv (ab3_ p1), iv (ab1_ p1), iv (ab4_ p2), iv (ab2_ p2), iv (ab7_ p3), rv b1, iv (ab5_ p3 p4), iv (ab6_ p3 p5), iv 1] [] s₁ en := fun t k => pr544 t (by
              show Sx p e below T543 m 160 #[iv p1, iv p2, iv p3, iv p4, iv p5, iv (ab3_ p1), iv (ab1_ p1), iv (ab4_ p2), iv (ab2_ p2), iv (ab7_ p3), rv b1, iv (ab5_ p3 p4), iv (ab6_ p3 p5), .unset] [(.int (own_fine (3 : Int32) (ab5_ p3 p4) (ab6_ p3 p5) (ab2_ p2)))] _
              refine zo X543 Bd at_160 (XT.i0_eq_f (hc545 : ¬ ((own_fine (3 : Int32) (ab5_ p3 p4) (ab6_ p3 p5) (ab2_ p2)) = (0 : Int32)))) ?_
              refine zc X543 Bd at_163 ?_
              refine zg (pc' := 168) X543 Bd at_164 rfl ?_
              refine zs X543 Bd at_168 (l' := #[iv p1, iv p2, iv p3, iv p4, iv p5, iv (ab3_ p1), iv (ab1_ p1), iv (ab4_ p2), iv (ab2_ p2), iv (ab7_ p3), rv b1, iv (ab5_ p3 p4), iv (ab6_ p3 p5), iv 1]) rfl ?_
              exact k)
             exact kont527 ⟨T543, _, T512.heap, (1 : Int32), (X543.mono (lE rfl) (lE rfl)), e543q, N543, (Keep.refl T512.heap []), (by rw [own_ex, if_pos hc529, if_neg hc533, if_neg hc537, if_neg hc541, if_neg hc545]), (fun t k => pr547 t k)⟩
        ·
         skip
         have pr548 : Pr p e below T512 m 170 #[iv p1, iv p2, iv p3, iv p4, iv p5, iv (ab3_ p1), iv (ab1_ p1), iv (ab4_ p2), iv (ab2_ p2), iv (ab7_ p3), rv b1, iv (ab5_ p3 p4), iv (ab6_ p3 p5), iv 0] [] s₁ en := fun t k => pr528 t (by
          show Sx p e below T512 m 108 #[iv p1, iv p2, iv p3, iv p4, iv p5, iv (ab3_ p1), iv (ab1_ p1), iv (ab4_ p2), iv (ab2_ p2), iv (ab7_ p3), rv b1, iv (ab5_ p3 p4), iv (ab6_ p3 p5), .unset] [(.int (ab6_ p3 p5)), (.int (ab5_ p3 p4))] _
          refine zy (pc' := 167) X512 Bd at_108 (XT.ii_ge_t (hc529 : ¬ ((ab5_ p3 p4) < (ab6_ p3 p5)))) rfl ?_
          refine zc X512 Bd at_167 ?_
          refine zs X512 Bd at_168 (l' := #[iv p1, iv p2, iv p3, iv p4, iv p5, iv (ab3_ p1), iv (ab1_ p1), iv (ab4_ p2), iv (ab2_ p2), iv (ab7_ p3), rv b1, iv (ab5_ p3 p4), iv (ab6_ p3 p5), iv 0]) rfl ?_
          exact k)
         exact kont527 ⟨T512, _, T512.heap, (0 : Int32), (X512.mono (lE rfl) (lE rfl)), rfl, N512, (Keep.refl T512.heap []), (by rw [own_ex, if_neg hc529]), (fun t k => pr548 t k)⟩
       ·
        obtain ⟨T527, L527, h527, ex_, X527, e527, N527, K527j, hp527_0, pr527⟩ := hA527
        have K549 := K519.trans K527j (fun x q => nomatch q)
        have C550 : CHv Z consts_1 s.vm h527 := CHv.keep K527j sf0 C520
        have R551 : CHr Z consts_1 s.vm h0 s.vm h527 := R523.trans (CHr.keep K527j sf0 C520)
        have F553_ := V518_.keep K527j nin0
        have F554_ := C512q.keep K527j nin0
        have A555_ := A518_.keep K527j nin0
        have E556_ := E515_.keep K512q
        have E557_ := E556_.keep K527j
        have O558 := O514.keep K512q (allS g_b1 all0)
        have O559 := O558.keep K527j all0
        obtain ⟨_, T552, L552, X552, hQ552, st552⟩ := own_cS 3 12 [] 176 #[iv p1, iv p2, iv p3, iv p4, iv p5, iv (ab3_ p1), iv (ab1_ p1), iv (ab4_ p2), iv (ab2_ p2), iv (ab7_ p3), rv b1, iv (ab5_ p3 p4), iv (ab6_ p3 p5), iv ex_] X527 hx hZ hown (w35_ hw) (w36_ hw) (w37_ hw) (w38_ hw) (rm92 l Z a0 hw G3 G1 b1 (ab5_ p3 p4) (ab6_ p3 p5) b518 c518_ (ab3_ p1) (ab1_ p1) (ab4_ p2) (ab2_ p2) h527 n0 O559 O4 rG3 O2 P5 F553_ F554_ A555_ hp513 E557_ (own_rb p4 (own_rem5g p3 hc9 hc75 hc198 hc321) (k := 4) (by decide)).1 (own_rb p5 (own_rem5g p3 hc9 hc75 hc198 hc321) (k := 4) (by decide)).2) pd5 hml.symm (hb hby at_176) e527 rfl rfl rfl rfl (by decide)
        obtain ⟨rfl, N552q, e552q⟩ := hQ552
        have N552 := Fr.app N527 N552q
        have hk560' : _ ≤ h527.size := (Nat.le_trans (Nat.le_trans (Nat.le_trans (Nat.le_trans hk0 E1.1) K443q.1) K512q.1) K527j.1)
        refine own_lvW X552 Bd.notSynchronized hS0 hk560' (v := (some (.int 1))) (fun h => by rw [Bd.returns] at h; cases h) e552q hh ⟨rfl, N552⟩ (R551.trans (CHv.at X552 hZ hEL C550)) (lE rfl) (lE rfl) (fun fs hr => pr527 _ (by
         show Sx p e below T527 m 170 #[iv p1, iv p2, iv p3, iv p4, iv p5, iv (ab3_ p1), iv (ab1_ p1), iv (ab4_ p2), iv (ab2_ p2), iv (ab7_ p3), rv b1, iv (ab5_ p3 p4), iv (ab6_ p3 p5), iv ex_] [] _
         refine za X527 Bd at_170 rfl rfl ?_
         refine zi X527 Bd at_172 rfl ?_
         refine zi X527 Bd at_174 rfl ?_
         refine st552 _ ?_
         refine zi X552 Bd at_179 rfl ?_
         refine zn X552 Bd at_181 (XT.ii_ne_f (((own_fin4 (ab5_ p3 p4) (ab6_ p3 p5) (ab3_ p1) (ab1_ p1) (ab4_ p2) (ab2_ p2) (own_rb p4 (own_rem5g p3 hc9 hc75 hc198 hc321) (k := 4) (by decide)).1 (own_rb p4 (own_rem5g p3 hc9 hc75 hc198 hc321) (k := 4) (by decide)).2 (own_rb p5 (own_rem5g p3 hc9 hc75 hc198 hc321) (k := 4) (by decide)).1 (own_rb p5 (own_rem5g p3 hc9 hc75 hc198 hc321) (k := 4) (by decide)).2).trans hp527_0.symm) : (own_isd ([(ab3_ p1), (ab1_ p1), (ab4_ p2), (ab2_ p2)] : List Int32) (ab5_ p3 p4) (ab6_ p3 p5)) = ex_)) ?_
         refine zc X552 Bd at_184 ?_
         refine zg (pc' := 189) X552 Bd at_185 rfl ?_
         exact retN X552 hx (t := .boolean) Bd.returns (by simp) (hb hby at_189) hr))
      ·
       skip
       have O562 := O514.keep K512q (allS g_b1 all0)
       obtain ⟨_, T561, L561, X561, hQ561, st561⟩ := own_cS 3 12 [] 69 #[iv p1, iv p2, iv p3, iv p4, iv p5, iv (ab3_ p1), iv (ab1_ p1), iv (ab4_ p2), iv (ab2_ p2), iv (ab7_ p3), rv b1, .unset, .unset, .unset] X512 hx hZ hown (w35_ hw) (w36_ hw) (w37_ hw) (w38_ hw) (rm9 l Z a0 hw  b1 p4 p5 T512.heap n0 O562 hc525) pd5 hml.symm (hb hby at_69) rfl rfl rfl rfl rfl (by decide)
       obtain ⟨rfl, N561q, e561q⟩ := hQ561
       have N561 := Fr.app N512 N561q
       have hk563' : _ ≤ T512.heap.size := (Nat.le_trans (Nat.le_trans (Nat.le_trans hk0 E1.1) K443q.1) K512q.1)
       refine own_lvW X561 Bd.notSynchronized hS0 hk563' (v := (some (.int 1))) (fun h => by rw [Bd.returns] at h; cases h) e561q hh ⟨rfl, N561⟩ (R523.trans (CHv.at X561 hZ hEL C520)) (lE rfl) (lE rfl) (fun fs hr => pr524 _ (by
        show Sx p e below T512 m 61 #[iv p1, iv p2, iv p3, iv p4, iv p5, iv (ab3_ p1), iv (ab1_ p1), iv (ab4_ p2), iv (ab2_ p2), iv (ab7_ p3), rv b1, .unset, .unset, .unset] [.int p5, .int p4] _
        refine zn X512 Bd at_61 (XT.ii_lt_f (hc525 : ¬ (p4 < p5))) ?_
        refine za X512 Bd at_64 rfl rfl ?_
        refine zj X512 Bd at_66 rfl ?_
        refine zi X512 Bd at_67 rfl ?_
        refine st561 _ ?_
        refine zo X561 Bd at_72 (XT.i0_ne_f ((by decide) : (0 : Int32) = (0 : Int32))) ?_
        refine zc X561 Bd at_75 ?_
        refine zg (pc' := 80) X561 Bd at_76 rfl ?_
        exact retN X561 hx (t := .boolean) Bd.returns (by simp) (hb hby at_80) hr))
theorem comes_1 {Post : Tables → Env → Array Value → State → Outcome → State → Prop} (hpost : ∀ tb e args s v u, (limb_1_1.after args s (.returned v) u = true ∧ limb_1_2.after args s (.returned v) u = true ∧ True) → ReturnedEndW s (.returned v) u (Jvm.fieldLocs frame_1_writes args s ++ Jvm.arrayLocs frame_1_arrays args s ++ Jvm.staticLocs frame_1_statics s) 24 1152 → Post tb e args s (.returned v) u) :
    ArmFor flags0 classFile x code maxLocals ret World_1 tables_1 room_1 Calls_1 rest_1 Pre_1 Post := by
  intro l hfl _ _ p e ha hc hk s m args below hf hA hF happ hP
  obtain ⟨hcalls, hrest, hpre⟩ := hP
  obtain ⟨-, -, -, hnamed, -, -, -, hat⟩ := (Spec.applies_iff hf).mp happ
  obtain ⟨hg, hn⟩ := and_e (Cond.before_iff.mp (show (Jvm.Cond.and given_1 narrow_1).before args s = true from hpre))
  obtain ⟨hg0, hg1⟩ := and_e hg
  obtain ⟨ha1, hg2⟩ := and_e hg1
  obtain ⟨ha2, hg3⟩ := and_e hg2
  obtain ⟨ha3, hg4⟩ := and_e hg3
  obtain ⟨ha4, hg5⟩ := and_e hg4
  obtain ⟨w1, w2, w3, w4, w5, rfl⟩ : ∃ w1 w2 w3 w4 w5 : Value, args = #[w1, w2, w3, w4, w5] := by
    have hs : args.size = 5 := by simpa [Cond.value, given_1] using hg0
    obtain ⟨L⟩ := args
    match L, hs with
    | [w1, w2, w3, w4, w5], _ => exact ⟨w1, w2, w3, w4, w5, rfl⟩
  have hw := fun d (hd : d ∈ tables_1) => atoms_spec (ws := Jvm.Cond.code x code maxLocals ret :: tables_1) hat d (List.mem_cons_of_mem _ hd)
  obtain ⟨hsets, hown0⟩ := atoms_of _ (rest_1_c_eq ▸ (show rest_1_c.before _ s = true from hrest))
  have hfit : Fit s := fun {y c} hc i hi => by
    obtain ⟨ha, rfl⟩ := Array.getElem?_eq_some_iff.mp hc
    have q := List.all_eq_true.mp ((Array.all_eq_true_iff_forall_mem.mp hF) _ (Array.getElem_mem ha)) i (List.mem_range.mpr hi)
    simpa [Array.getElem?_eq_getElem hi] using q
  obtain ⟨i1, ei1⟩ := is_v ha1
  obtain rfl : w1 = (.int i1) := Option.some.inj ei1
  obtain ⟨i2, ei2⟩ := is_v ha2
  obtain rfl : w2 = (.int i2) := Option.some.inj ei2
  obtain ⟨i3, ei3⟩ := is_v ha3
  obtain rfl : w3 = (.int i3) := Option.some.inj ei3
  obtain ⟨i4, ei4⟩ := is_v ha4
  obtain rfl : w4 = (.int i4) := Option.some.inj ei4
  obtain ⟨i5, ei5⟩ := is_v hg5
  obtain rfl : w5 = (.int i5) := Option.some.inj ei5
  obtain ⟨G3, eSF, rG3⟩ := isR_v (Cond.before_iff.mp (hsets _ (mI 8 rfl)))
  have O4 : Sta s s.heap "jdk/internal/util/Preconditions" "SIOOBE_FORMATTER" "Ljava/util/function/BiFunction;" G3 := Sta.start eSF (Or.inl (hsets _ (mI 7 rfl)))
  have nCS := not_v (Cond.before_iff.mp (hsets _ (mI 2 rfl)))
  obtain ⟨G1, eCS⟩ := is_v (Cond.before_iff.mp (hsets _ (mI 1 rfl)))
  have O2 : Sta s s.heap "java/lang/String" "COMPACT_STRINGS" "Z" (.int G1) := Sta.start eCS (Or.inl (hsets _ (mI 0 rfl)))
  have P5 : ¬ (G1 = (0 : Int32)) := gotF (Cond.eq_ints eCS (Term.int_eval (0))) nCS
  have uS12 : Sta s s.heap "java/lang/StringUTF16" "$assertionsDisabled" "Z" (.int 1) := Sta.start (eqv_i (Term.int_eval _) (Cond.before_iff.mp (hsets _ (mI 12 rfl)))) (Or.inl (hsets _ (mI 11 rfl)))
  have uS15 : Sta s s.heap "java/lang/StringUTF16" "HI_BYTE_SHIFT" "I" (.int 0) := Sta.start (eqv_i (Term.int_eval _) (Cond.before_iff.mp (hsets _ (mI 15 rfl)))) (Or.inl (hsets _ (mI 14 rfl)))
  have uS18 : Sta s s.heap "java/lang/StringUTF16" "LO_BYTE_SHIFT" "I" (.int 8) := Sta.start (eqv_i (Term.int_eval _) (Cond.before_iff.mp (hsets _ (mI 18 rfl)))) (Or.inl (hsets _ (mI 17 rfl)))
  have hCH : CHv s consts_1 s.vm s.heap := CHv.start (own_EW hw) (fun p hp => hcalls.1 p hp) (hsets _ (mI 2 rfl)) (w24_ hw) (w2_ hw)
  obtain ⟨n, o, h1, h2, h3, _, L, rfl, ⟨rfl, N⟩, -, hq⟩ := rm0 l s _ hw tables_1 G3 G1 i1 i2 i3 i4 i5 s.heap s.heap.size (Old.start s) O4 rG3 O2 P5 uS12 uS15 uS18 p e ha hc hk s m _ below hf ((Spec.applies_iff_loose hf).mp happ).1 ⟨rfl, State.Warmed39.refl s, rfl, hCH⟩ trivial
  refine ⟨n, _, h1, h2, h3, hpost _ _ _ _ _ _ ⟨Cond.after_iff.mpr rfl, Cond.after_iff.mpr (eq_i res_at (Term.int_eval (1)) rfl), trivial⟩ ⟨hq.1, hq.2.1, hq.2.2.1, (hq.2.2.2.sift fun y hy => Or.inr (N y hy)).mono (by decide) (by decide)⟩⟩
theorem main_1_1 : Claimed_1_1 := comes_1 fun _ _ _ _ _ _ h hF => ⟨h.1, hF⟩
theorem main_1_2 : Claimed_1_2 := comes_1 fun _ _ _ _ _ _ h hF => ⟨h.2.1, hF⟩
end Jvm.Pilot.@@N@@
namespace Jvm.Pilot.@@N@@
open Jvm Jvm.ClassFile Sem Op Lib Jvm.Free Jvm.Stand Jvm.Pilot.@@N@@.Jvm.D
/-! MADE BY PROGRAM (witnessworld.py) out of the Statement's table words and the real class files: 20 classes; the members and pool entries that the words name. The judged class is class 1, her method 1. -/
namespace start1
open Jvm.ClassFile
def u (s : String) : CpInfo := .utf8 (stringToUtf16 s)
/-- a pool by its gaps: so many unusable entries, then the entry; so many at the end -/
def gap : Nat → List CpInfo → List CpInfo
  | 0, r => r
  | n + 1, r => .unusable :: gap n r
def poolList (es : List (Nat × CpInfo)) (last : Nat) : List CpInfo := es.foldr (fun e r => gap e.1 (e.2 :: r)) (gap last [])
def pool (es : List (Nat × CpInfo)) (last : Nat) : Array CpInfo := ⟨poolList es last⟩
def fileOf (pool : Array CpInfo) (this : Nat) (attrs : Array Attribute := #[]) (ms : Array MethodInfo := #[]) (fl : Nat := 33) (sup : Nat := 0) (ifs : Array Nat := #[]) (fds : Array FieldInfo := #[]) : ClassFile where
  minorVersion := 0
  majorVersion := 65
  constantPool := pool
  accessFlags := fl
  thisClass := this
  superClass := sup
  interfaces := ifs
  fields := fds
  methods := ms
  attributes := attrs
def plain (name : String) (sup : Option ClassId) : Class where
  name := name
  kind := .ordinary
  loader := none
  accessFlags := 33
  super := sup
  interfaces := #[]
  cf := none
  fields := #[]
  methods := #[]
  instanceTypes := #[]
  staticTypes := #[]
  resolved := #[]
  callSites := []
  init := .initialized
  statics := none
  mirror := none

def pool0 : Array CpInfo := pool [(5, u "<init>"), (0, u "()V"), (1, .class_ 10), (1, u "java/lang/Object")] 113

def k0c0 : Code := { maxStack := 0, maxLocals := 1, code := object_method_1_code, exceptionTable := #[], attributes := #[] }
def k0m0 : Method := { name := "<init>", desc := "()V", sig := { parameters := [], returnType := none }, accessFlags := 1, code := some k0c0 }
/-- java/lang/Object -/
def k0 : Class := { plain "java/lang/Object" none with
  accessFlags := 33
  interfaces := #[]
  cf := some (fileOf pool0 8 #[] #[⟨1, 5, 6, #[]⟩] 33 0 #[] #[])
  fields := #[]
  methods := #[k0m0]
  instanceTypes := #[]
  staticTypes := #[]
  resolved := Array.replicate 124 none
  statics := none }

def pool1 : Array CpInfo := pool [(2, .class_ 4), (1, u "java/lang/Object"), (0, u "<init>"), (0, u "()V"), (0, .integer 65535), (0, .class_ 9), (0, u "java/lang/String"), (0, .methodref 11 12), (0, .class_ 13), (0, .nameAndType 14 15), (0, u "com/example/backstop/backstop/WholeNumbersIsDigitsPinLaw"), (0, u "chars"), (0, u "(ICCCC)[C"), (0, .methodref 8 17), (0, .nameAndType 5 18), (0, u "([C)V"), (0, .methodref 20 21), (0, .class_ 22), (0, .nameAndType 23 24), (0, u "com/example/backstop/backstop/WholeNumbers"), (0, u "isDigits"), (0, u "(Ljava/lang/String;II)Z"), (0, .integer 2147483647), (0, .methodref 11 27), (0, .nameAndType 28 29), (0, u "fine"), (0, u "(IIIC)Z"), (2, u "law"), (0, u "(IIIII)Z")] 3

def k1m0 : Method := { name := "<init>", desc := "()V", sig := { parameters := [], returnType := none }, accessFlags := 1, code := none }
def k1c1 : Code := { maxStack := 7, maxLocals := 14, code := code, exceptionTable := #[], attributes := #[] }
def k1m1 : Method := { name := "law", desc := "(IIIII)Z", sig := { parameters := [.int, .int, .int, .int, .int], returnType := some .boolean }, accessFlags := 9, code := some k1c1 }
def k1c2 : Code := { maxStack := 2, maxLocals := 4, code := method_3_code, exceptionTable := #[], attributes := #[] }
def k1m2 : Method := { name := "fine", desc := "(IIIC)Z", sig := { parameters := [.int, .int, .int, .char], returnType := some .boolean }, accessFlags := 10, code := some k1c2 }
def k1c3 : Code := { maxStack := 4, maxLocals := 5, code := method_4_code, exceptionTable := #[], attributes := #[] }
def k1m3 : Method := { name := "chars", desc := "(ICCCC)[C", sig := { parameters := [.int, .char, .char, .char, .char], returnType := some (.array .char) }, accessFlags := 10, code := some k1c3 }
/-- com/example/backstop/backstop/WholeNumbersIsDigitsPinLaw -/
def k1 : Class := { plain "com/example/backstop/backstop/WholeNumbersIsDigitsPinLaw" (some 0) with
  accessFlags := 49
  interfaces := #[]
  cf := some (fileOf pool1 11 #[] #[⟨1, 5, 6, #[]⟩, ⟨9, 32, 33, #[]⟩, ⟨10, 28, 29, #[]⟩, ⟨10, 14, 15, #[]⟩] 49 2 #[] #[])
  fields := #[]
  methods := #[k1m0, k1m1, k1m2, k1m3]
  instanceTypes := #[]
  staticTypes := #[]
  resolved := Array.replicate 37 none
  statics := none }

def pool2 : Array CpInfo := pool [(1, .class_ 2), (0, u "java/io/Serializable"), (0, .class_ 4), (0, u "java/lang/Object")] 2

/-- java/io/Serializable -/
def k2 : Class := { plain "java/io/Serializable" (some 0) with
  accessFlags := 1537
  interfaces := #[]
  cf := some (fileOf pool2 1 #[] #[] 1537 3 #[] #[])
  fields := #[]
  methods := #[]
  instanceTypes := #[]
  staticTypes := #[]
  resolved := Array.replicate 7 none
  statics := none }

def pool3 : Array CpInfo := pool [(1, .class_ 2), (0, u "java/lang/Comparable"), (0, .class_ 4), (0, u "java/lang/Object")] 7

/-- java/lang/Comparable -/
def k3 : Class := { plain "java/lang/Comparable" (some 0) with
  accessFlags := 1537
  interfaces := #[]
  cf := some (fileOf pool3 1 #[] #[] 1537 3 #[] #[])
  fields := #[]
  methods := #[]
  instanceTypes := #[]
  staticTypes := #[]
  resolved := Array.replicate 12 none
  statics := none }

def pool4 : Array CpInfo := pool [(2, .class_ 4), (1, u "java/lang/CharSequence"), (42, .class_ 48), (0, u "java/lang/CharSequence$1CodePointIterator"), (10, .class_ 60), (0, u "java/lang/CharSequence$1CharIterator"), (5, .class_ 67), (0, u "java/lang/Object")] 63

/-- java/lang/CharSequence -/
def k4 : Class := { plain "java/lang/CharSequence" (some 0) with
  accessFlags := 1537
  interfaces := #[]
  cf := some (fileOf pool4 2 #[.nestMembers #[47, 59]] #[] 1537 66 #[] #[])
  fields := #[]
  methods := #[]
  instanceTypes := #[]
  staticTypes := #[]
  resolved := Array.replicate 131 none
  statics := none }

def pool5 : Array CpInfo := pool [(1, .class_ 2), (0, u "java/lang/constant/Constable"), (0, .class_ 4), (0, u "java/lang/Object")] 6

/-- java/lang/constant/Constable -/
def k5 : Class := { plain "java/lang/constant/Constable" (some 0) with
  accessFlags := 1537
  interfaces := #[]
  cf := some (fileOf pool5 1 #[] #[] 1537 3 #[] #[])
  fields := #[]
  methods := #[]
  instanceTypes := #[]
  staticTypes := #[]
  resolved := Array.replicate 11 none
  statics := none }

def pool6 : Array CpInfo := pool [(1, .class_ 2), (0, u "java/lang/constant/ConstantDesc"), (0, .class_ 4), (0, u "java/lang/Object")] 32

/-- java/lang/constant/ConstantDesc -/
def k6 : Class := { plain "java/lang/constant/ConstantDesc" (some 0) with
  accessFlags := 1537
  interfaces := #[]
  cf := some (fileOf pool6 1 #[] #[] 1537 3 #[] #[])
  fields := #[]
  methods := #[]
  instanceTypes := #[]
  staticTypes := #[]
  resolved := Array.replicate 37 none
  statics := none }

def pool7 : Array CpInfo := pool [(1, .methodref 2 3), (0, .class_ 4), (0, .nameAndType 5 6), (0, u "java/lang/Object"), (0, u "<init>"), (0, u "()V"), (0, .string 8), (0, u ""), (0, .fieldref 10 11), (0, .class_ 12), (0, .nameAndType 13 14), (0, u "java/lang/String"), (0, u "value"), (0, u "[B"), (0, .fieldref 10 16), (0, .nameAndType 17 18), (0, u "coder"), (0, u "B"), (2, u "hash"), (0, u "I"), (2, u "hashIsZero"), (0, u "Z"), (0, .methodref 10 28), (0, .nameAndType 5 29), (0, u "([CIILjava/lang/Void;)V"), (8, .fieldref 10 39), (0, .nameAndType 40 26), (0, u "COMPACT_STRINGS"), (1, .class_ 44), (1, u "java/lang/StringUTF16"), (0, u "compress"), (1, .methodref 42 48), (0, .nameAndType 49 50), (0, u "coderFromArrayLen"), (0, u "([BI)B"), (56, .class_ 109), (1, u "java/lang/StringLatin1"), (32, u "()Z"), (34, .methodref 42 178), (0, .nameAndType 45 179), (0, u "([CII)[B"), (183, u "([BI)C"), (27, u "(II)V"), (35, u "(I)C"), (64, .methodref 10 493), (0, .nameAndType 494 142), (0, u "isLatin1"), (0, .methodref 107 496), (0, .nameAndType 497 363), (0, u "charAt"), (0, .methodref 42 496), (2, u "checkIndex"), (73, .class_ 576), (0, u "java/lang/CharSequence"), (22, u "CASE_INSENSITIVE_ORDER"), (0, u "Ljava/util/Comparator;"), (409, u "([C)V"), (42, .fieldref 1054 1055), (0, .class_ 1056), (0, .nameAndType 1057 1058), (0, u "jdk/internal/util/Preconditions"), (0, u "SIOOBE_FORMATTER"), (0, u "Ljava/util/function/BiFunction;"), (0, .methodref 1054 1060), (0, .nameAndType 501 1061), (0, u "(IILjava/util/function/BiFunction;)I"), (39, u "serialPersistentFields"), (0, u "[Ljava/io/ObjectStreamField;"), (0, .class_ 1104), (0, u "java/lang/String$CaseInsensitiveComparator"), (1, .class_ 1107), (0, u "java/io/Serializable"), (0, .class_ 1109), (0, u "java/lang/Comparable"), (0, .class_ 1111), (0, u "java/lang/constant/Constable"), (0, .class_ 1113), (0, u "java/lang/constant/ConstantDesc"), (2, u "serialVersionUID"), (0, u "J"), (3, u "REPL"), (0, u "C"), (2, u "LATIN1"), (1, u "UTF16")] 323

def k7m0 : Method := { name := "<init>", desc := "()V", sig := { parameters := [], returnType := none }, accessFlags := 1, code := none }
def k7c1 : Code := { maxStack := 5, maxLocals := 2, code := jdk_42_method_3_code, exceptionTable := #[], attributes := #[] }
def k7m1 : Method := { name := "<init>", desc := "([C)V", sig := { parameters := [(.array .char)], returnType := none }, accessFlags := 1, code := some k7c1 }
def k7c2 : Code := { maxStack := 2, maxLocals := 2, code := jdk_42_method_56_code, exceptionTable := #[], attributes := #[] }
def k7m2 : Method := { name := "charAt", desc := "(I)C", sig := { parameters := [.int], returnType := some .char }, accessFlags := 1, code := some k7c2 }
def k7c3 : Code := { maxStack := 4, maxLocals := 6, code := jdk_42_method_149_code, exceptionTable := #[], attributes := #[] }
def k7m3 : Method := { name := "<init>", desc := "([CIILjava/lang/Void;)V", sig := { parameters := [(.array .char), .int, .int, (.object "java/lang/Void")], returnType := none }, accessFlags := 2, code := some k7c3 }
def k7c4 : Code := { maxStack := 1, maxLocals := 1, code := jdk_42_method_154_code, exceptionTable := #[], attributes := #[] }
def k7m4 : Method := { name := "isLatin1", desc := "()Z", sig := { parameters := [], returnType := some .boolean }, accessFlags := 0, code := some k7c4 }
def k7c5 : Code := { maxStack := 3, maxLocals := 2, code := jdk_42_method_155_code, exceptionTable := #[], attributes := #[] }
def k7m5 : Method := { name := "checkIndex", desc := "(II)V", sig := { parameters := [.int, .int], returnType := none }, accessFlags := 8, code := some k7c5 }
/-- java/lang/String -/
def k7 : Class := { plain "java/lang/String" (some 0) with
  accessFlags := 49
  interfaces := #[2, 3, 4, 5, 6]
  cf := some (fileOf pool7 10 #[.nestMembers #[1103]] #[⟨1, 5, 6, #[]⟩, ⟨1, 5, 1010, #[]⟩, ⟨1, 497, 427, #[]⟩, ⟨2, 5, 29, #[]⟩, ⟨0, 494, 142, #[]⟩, ⟨8, 501, 391, #[]⟩] 49 2 #[1106, 1108, 575, 1110, 1112] #[⟨18, 13, 14, #[]⟩, ⟨18, 17, 18, #[]⟩, ⟨2, 21, 22, #[]⟩, ⟨2, 25, 26, #[]⟩, ⟨26, 1116, 1117, #[]⟩, ⟨24, 40, 26, #[]⟩, ⟨26, 1101, 1102, #[]⟩, ⟨26, 1121, 1122, #[]⟩, ⟨25, 599, 600, #[]⟩, ⟨24, 1125, 18, #[]⟩, ⟨24, 1127, 18, #[]⟩])
  fields := #[⟨"value", (.array .byte), 18, 0, 0⟩, ⟨"coder", .byte, 18, 1, 0⟩, ⟨"hash", .int, 2, 2, 0⟩, ⟨"hashIsZero", .boolean, 2, 3, 0⟩, ⟨"serialVersionUID", .long, 26, 0, 0⟩, ⟨"COMPACT_STRINGS", .boolean, 24, 1, 0⟩, ⟨"serialPersistentFields", (.array (.object "java/io/ObjectStreamField")), 26, 2, 0⟩, ⟨"REPL", .char, 26, 3, 0⟩, ⟨"CASE_INSENSITIVE_ORDER", (.object "java/util/Comparator"), 25, 4, 0⟩, ⟨"LATIN1", .byte, 24, 5, 0⟩, ⟨"UTF16", .byte, 24, 6, 0⟩]
  methods := #[k7m0, k7m1, k7m2, k7m3, k7m4, k7m5]
  instanceTypes := #[(.array .byte), .byte, .int, .boolean]
  staticTypes := #[.long, .boolean, (.array (.object "java/io/ObjectStreamField")), .char, (.object "java/util/Comparator"), .byte, .byte]
  resolved := Array.replicate 1451 none
  statics := some 0 }

def pool8 : Array CpInfo := pool [(3, .class_ 4), (0, u "java/lang/String"), (1, .class_ 8), (1, u "java/lang/Object"), (0, u "<init>"), (0, u "()V"), (0, .methodref 12 13), (0, .class_ 14), (0, .nameAndType 15 16), (0, u "java/lang/StringUTF16"), (0, u "newBytesLength"), (0, u "(I)I"), (3, .integer 1073741823), (23, .fieldref 12 45), (0, .nameAndType 46 47), (0, u "$assertionsDisabled"), (0, u "Z"), (0, .methodref 12 49), (0, .nameAndType 50 51), (0, u "length"), (0, u "([B)I"), (7, .fieldref 12 60), (0, .nameAndType 61 62), (0, u "HI_BYTE_SHIFT"), (0, u "I"), (0, .fieldref 12 64), (0, .nameAndType 65 62), (0, u "LO_BYTE_SHIFT"), (1, .methodref 12 68), (0, .nameAndType 69 70), (0, u "checkIndex"), (0, u "(I[B)V"), (0, .methodref 12 72), (0, .nameAndType 73 74), (0, u "getChar"), (0, u "([BI)C"), (32, .methodref 12 108), (0, .nameAndType 109 110), (0, u "newBytesFor"), (0, u "(I)[B"), (0, .methodref 12 112), (0, .nameAndType 113 114), (0, u "putChar"), (0, u "([BII)V"), (0, .methodref 12 116), (0, .nameAndType 117 118), (0, u "compress"), (0, u "([CI[BII)I"), (0, .methodref 12 120), (0, .nameAndType 121 122), (0, u "toBytes"), (0, u "([CII)[B"), (138, u "coderFromArrayLen"), (0, u "([BI)B"), (106, .class_ 371), (1, u "java/lang/StringUTF16$LinesSpliterator"), (20, u "charAt"), (21, .methodref 3 415), (0, .nameAndType 69 416), (0, u "(II)V"), (13, u "MAX_LENGTH"), (196, .class_ 628), (0, u "java/lang/StringUTF16$CodePointsSpliterator"), (0, .class_ 630), (0, u "java/lang/StringUTF16$CharsSpliterator")] 4

def k8m0 : Method := { name := "<init>", desc := "()V", sig := { parameters := [], returnType := none }, accessFlags := 0, code := none }
def k8c1 : Code := { maxStack := 1, maxLocals := 1, code := jdk_52_method_2_code, exceptionTable := #[], attributes := #[] }
def k8m1 : Method := { name := "newBytesFor", desc := "(I)[B", sig := { parameters := [.int], returnType := some (.array .byte) }, accessFlags := 9, code := some k8c1 }
def k8c2 : Code := { maxStack := 4, maxLocals := 1, code := jdk_52_method_3_code, exceptionTable := #[], attributes := #[] }
def k8m2 : Method := { name := "newBytesLength", desc := "(I)I", sig := { parameters := [.int], returnType := some .int }, accessFlags := 9, code := some k8c2 }
def k8c3 : Code := { maxStack := 4, maxLocals := 3, code := jdk_52_method_4_code, exceptionTable := #[], attributes := #[] }
def k8m3 : Method := { name := "putChar", desc := "([BII)V", sig := { parameters := [(.array .byte), .int, .int], returnType := none }, accessFlags := 8, code := some k8c3 }
def k8c4 : Code := { maxStack := 3, maxLocals := 2, code := jdk_52_method_5_code, exceptionTable := #[], attributes := #[] }
def k8m4 : Method := { name := "getChar", desc := "([BI)C", sig := { parameters := [(.array .byte), .int], returnType := some .char }, accessFlags := 8, code := some k8c4 }
def k8c5 : Code := { maxStack := 2, maxLocals := 1, code := jdk_52_method_6_code, exceptionTable := #[], attributes := #[] }
def k8m5 : Method := { name := "length", desc := "([B)I", sig := { parameters := [(.array .byte)], returnType := some .int }, accessFlags := 9, code := some k8c5 }
def k8c6 : Code := { maxStack := 4, maxLocals := 5, code := jdk_52_method_14_code, exceptionTable := #[], attributes := #[] }
def k8m6 : Method := { name := "toBytes", desc := "([CII)[B", sig := { parameters := [(.array .char), .int, .int], returnType := some (.array .byte) }, accessFlags := 9, code := some k8c6 }
def k8c7 : Code := { maxStack := 2, maxLocals := 2, code := jdk_52_method_15_code, exceptionTable := #[], attributes := #[] }
def k8m7 : Method := { name := "coderFromArrayLen", desc := "([BI)B", sig := { parameters := [(.array .byte), .int], returnType := some .byte }, accessFlags := 8, code := some k8c7 }
def k8c8 : Code := { maxStack := 5, maxLocals := 6, code := jdk_52_method_16_code, exceptionTable := #[], attributes := #[] }
def k8m8 : Method := { name := "compress", desc := "([CII)[B", sig := { parameters := [(.array .char), .int, .int], returnType := some (.array .byte) }, accessFlags := 9, code := some k8c8 }
def k8c9 : Code := { maxStack := 3, maxLocals := 7, code := jdk_52_method_21_code, exceptionTable := #[], attributes := #[] }
def k8m9 : Method := { name := "compress", desc := "([CI[BII)I", sig := { parameters := [(.array .char), .int, (.array .byte), .int, .int], returnType := some .int }, accessFlags := 9, code := some k8c9 }
def k8c10 : Code := { maxStack := 2, maxLocals := 2, code := jdk_52_method_83_code, exceptionTable := #[], attributes := #[] }
def k8m10 : Method := { name := "charAt", desc := "([BI)C", sig := { parameters := [(.array .byte), .int], returnType := some .char }, accessFlags := 9, code := some k8c10 }
def k8c11 : Code := { maxStack := 2, maxLocals := 2, code := jdk_52_method_91_code, exceptionTable := #[], attributes := #[] }
def k8m11 : Method := { name := "checkIndex", desc := "(I[B)V", sig := { parameters := [.int, (.array .byte)], returnType := none }, accessFlags := 9, code := some k8c11 }
/-- java/lang/StringUTF16 -/
def k8 : Class := { plain "java/lang/StringUTF16" (some 0) with
  accessFlags := 48
  interfaces := #[]
  cf := some (fileOf pool8 12 #[.nestMembers #[627, 629, 369]] #[⟨0, 9, 10, #[]⟩, ⟨9, 109, 110, #[]⟩, ⟨9, 15, 16, #[]⟩, ⟨8, 113, 114, #[]⟩, ⟨8, 73, 74, #[]⟩, ⟨9, 50, 51, #[]⟩, ⟨9, 121, 122, #[]⟩, ⟨8, 261, 262, #[]⟩, ⟨9, 117, 122, #[]⟩, ⟨9, 117, 118, #[]⟩, ⟨9, 392, 74, #[]⟩, ⟨9, 69, 70, #[]⟩] 48 6 #[] #[⟨26, 61, 62, #[]⟩, ⟨26, 65, 62, #[]⟩, ⟨24, 430, 62, #[]⟩, ⟨4120, 46, 47, #[]⟩])
  fields := #[⟨"HI_BYTE_SHIFT", .int, 26, 0, 0⟩, ⟨"LO_BYTE_SHIFT", .int, 26, 1, 0⟩, ⟨"MAX_LENGTH", .int, 24, 2, 0⟩, ⟨"$assertionsDisabled", .boolean, 4120, 3, 0⟩]
  methods := #[k8m0, k8m1, k8m2, k8m3, k8m4, k8m5, k8m6, k8m7, k8m8, k8m9, k8m10, k8m11]
  instanceTypes := #[]
  staticTypes := #[.int, .int, .int, .boolean]
  resolved := Array.replicate 635 none
  statics := some 1 }

def pool9 : Array CpInfo := pool [(2, .class_ 4), (1, u "java/lang/Object"), (0, u "<init>"), (0, u "()V"), (3, .class_ 12), (1, u "java/lang/String"), (7, .class_ 22), (1, u "com/example/backstop/backstop/WholeNumbers"), (0, u "isDigits"), (0, u "(Ljava/lang/String;II)Z"), (21, .methodref 10 47), (0, .nameAndType 48 49), (0, u "charAt"), (0, u "(I)C")] 24

def k9m0 : Method := { name := "<init>", desc := "()V", sig := { parameters := [], returnType := none }, accessFlags := 2, code := none }
def k9c1 : Code := { maxStack := 2, maxLocals := 5, code := prog_50_method_3_code, exceptionTable := #[], attributes := #[] }
def k9m1 : Method := { name := "isDigits", desc := "(Ljava/lang/String;II)Z", sig := { parameters := [(.object "java/lang/String"), .int, .int], returnType := some .boolean }, accessFlags := 8, code := some k9c1 }
/-- com/example/backstop/backstop/WholeNumbers -/
def k9 : Class := { plain "com/example/backstop/backstop/WholeNumbers" (some 0) with
  accessFlags := 48
  interfaces := #[]
  cf := some (fileOf pool9 20 #[] #[⟨2, 5, 6, #[]⟩, ⟨8, 23, 24, #[]⟩] 48 2 #[] #[])
  fields := #[]
  methods := #[k9m0, k9m1]
  instanceTypes := #[]
  staticTypes := #[]
  resolved := Array.replicate 74 none
  statics := none }

def pool10 : Array CpInfo := pool [(2, .class_ 4), (1, u "java/lang/Object"), (0, u "<init>"), (0, u "()V"), (17, .class_ 26), (1, u "jdk/internal/util/Preconditions"), (6, u "checkIndex"), (21, .class_ 56), (0, u "jdk/internal/util/Preconditions$4"), (57, .class_ 115), (0, u "jdk/internal/util/Preconditions$1"), (7, u "SIOOBE_FORMATTER"), (0, u "Ljava/util/function/BiFunction;"), (0, .class_ 126), (0, u "jdk/internal/util/Preconditions$2"), (3, u "AIOOBE_FORMATTER"), (0, .class_ 132), (0, u "jdk/internal/util/Preconditions$3"), (3, u "IOOBE_FORMATTER"), (41, u "(IILjava/util/function/BiFunction;)I")] 15

def k10m0 : Method := { name := "<init>", desc := "()V", sig := { parameters := [], returnType := none }, accessFlags := 1, code := none }
def k10c1 : Code := { maxStack := 3, maxLocals := 3, code := jdk_41_method_11_code, exceptionTable := #[], attributes := #[] }
def k10m1 : Method := { name := "checkIndex", desc := "(IILjava/util/function/BiFunction;)I", sig := { parameters := [.int, .int, (.object "java/util/function/BiFunction")], returnType := some .int }, accessFlags := 9, code := some k10c1 }
/-- jdk/internal/util/Preconditions -/
def k10 : Class := { plain "jdk/internal/util/Preconditions" (some 0) with
  accessFlags := 33
  interfaces := #[]
  cf := some (fileOf pool10 24 #[.nestMembers #[55, 131, 125, 114]] #[⟨1, 5, 6, #[]⟩, ⟨9, 33, 178, #[]⟩] 33 2 #[] #[⟨25, 123, 124, #[]⟩, ⟨25, 130, 124, #[]⟩, ⟨25, 136, 124, #[]⟩])
  fields := #[⟨"SIOOBE_FORMATTER", (.object "java/util/function/BiFunction"), 25, 0, 0⟩, ⟨"AIOOBE_FORMATTER", (.object "java/util/function/BiFunction"), 25, 1, 0⟩, ⟨"IOOBE_FORMATTER", (.object "java/util/function/BiFunction"), 25, 2, 0⟩]
  methods := #[k10m0, k10m1]
  instanceTypes := #[]
  staticTypes := #[(.object "java/util/function/BiFunction"), (.object "java/util/function/BiFunction"), (.object "java/util/function/BiFunction")]
  resolved := Array.replicate 194 none
  statics := some 2 }

def pool11 : Array CpInfo := pool [(1, .class_ 2), (0, u "java/lang/String"), (1, .class_ 6), (1, u "java/lang/Object"), (0, u "<init>"), (0, u "()V"), (0, .methodref 1 10), (0, .nameAndType 11 12), (0, u "checkIndex"), (0, u "(II)V"), (1, .class_ 16), (1, u "java/lang/StringLatin1"), (36, u "([BI)C"), (67, u "$assertionsDisabled"), (0, u "Z"), (98, .class_ 223), (1, u "java/lang/StringLatin1$LinesSpliterator"), (28, u "charAt"), (137, .class_ 391), (0, u "java/lang/StringLatin1$CharsSpliterator")] 3

def k11m0 : Method := { name := "<init>", desc := "()V", sig := { parameters := [], returnType := none }, accessFlags := 0, code := none }
def k11c1 : Code := { maxStack := 2, maxLocals := 2, code := jdk_43_method_2_code, exceptionTable := #[], attributes := #[] }
def k11m1 : Method := { name := "charAt", desc := "([BI)C", sig := { parameters := [(.array .byte), .int], returnType := some .char }, accessFlags := 9, code := some k11c1 }
/-- java/lang/StringLatin1 -/
def k11 : Class := { plain "java/lang/StringLatin1" (some 0) with
  accessFlags := 48
  interfaces := #[]
  cf := some (fileOf pool11 14 #[.nestMembers #[390, 221]] #[⟨0, 7, 8, #[]⟩, ⟨9, 252, 53, #[]⟩] 48 4 #[] #[⟨4120, 121, 122, #[]⟩])
  fields := #[⟨"$assertionsDisabled", .boolean, 4120, 0, 0⟩]
  methods := #[k11m0, k11m1]
  instanceTypes := #[]
  staticTypes := #[.boolean]
  resolved := Array.replicate 395 none
  statics := none }

def pool12 : Array CpInfo := pool [(9, u "<init>"), (6, .class_ 18), (1, u "java/lang/Object"), (0, u "()V"), (1, .class_ 23), (1, u "jdk/internal/util/ArraysSupport"), (0, u "LOG2_ARRAY_LONG_INDEX_SCALE"), (0, u "I"), (2, u "U"), (0, u "Ljdk/internal/misc/Unsafe;"), (8, u "BIG_ENDIAN"), (0, u "Z"), (8, u "LOG2_BYTE_BIT_SIZE"), (4, u "LOG2_ARRAY_INT_INDEX_SCALE"), (54, u "JLA"), (0, u "Ljdk/internal/access/JavaLangAccess;"), (11, u "LOG2_ARRAY_BOOLEAN_INDEX_SCALE"), (9, u "LOG2_ARRAY_BYTE_INDEX_SCALE"), (5, u "LOG2_ARRAY_CHAR_INDEX_SCALE"), (5, u "LOG2_ARRAY_SHORT_INDEX_SCALE"), (18, u "LOG2_ARRAY_FLOAT_INDEX_SCALE"), (24, u "LOG2_ARRAY_DOUBLE_INDEX_SCALE"), (89, u "T_BOOLEAN"), (2, u "T_CHAR"), (1, u "T_FLOAT"), (1, u "T_DOUBLE"), (1, u "T_BYTE"), (1, u "T_SHORT"), (1, u "T_INT"), (1, u "T_LONG"), (1, u "SOFT_MAX_ARRAY_LENGTH")] 83

def k12m0 : Method := { name := "<init>", desc := "()V", sig := { parameters := [], returnType := none }, accessFlags := 2, code := none }
/-- jdk/internal/util/ArraysSupport -/
def k12 : Class := { plain "jdk/internal/util/ArraysSupport" (some 0) with
  accessFlags := 33
  interfaces := #[]
  cf := some (fileOf pool12 21 #[] #[⟨2, 9, 19, #[]⟩] 33 16 #[] #[⟨24, 28, 29, #[]⟩, ⟨26, 38, 39, #[]⟩, ⟨25, 121, 25, #[]⟩, ⟨25, 131, 25, #[]⟩, ⟨25, 137, 25, #[]⟩, ⟨25, 143, 25, #[]⟩, ⟨25, 53, 25, #[]⟩, ⟨25, 24, 25, #[]⟩, ⟨25, 162, 25, #[]⟩, ⟨25, 187, 25, #[]⟩, ⟨26, 48, 25, #[]⟩, ⟨25, 277, 25, #[]⟩, ⟨25, 280, 25, #[]⟩, ⟨25, 282, 25, #[]⟩, ⟨25, 284, 25, #[]⟩, ⟨25, 286, 25, #[]⟩, ⟨25, 288, 25, #[]⟩, ⟨25, 290, 25, #[]⟩, ⟨25, 292, 25, #[]⟩, ⟨26, 108, 109, #[]⟩, ⟨25, 294, 25, #[]⟩])
  fields := #[⟨"U", (.object "jdk/internal/misc/Unsafe"), 24, 0, 0⟩, ⟨"BIG_ENDIAN", .boolean, 26, 1, 0⟩, ⟨"LOG2_ARRAY_BOOLEAN_INDEX_SCALE", .int, 25, 2, 0⟩, ⟨"LOG2_ARRAY_BYTE_INDEX_SCALE", .int, 25, 3, 0⟩, ⟨"LOG2_ARRAY_CHAR_INDEX_SCALE", .int, 25, 4, 0⟩, ⟨"LOG2_ARRAY_SHORT_INDEX_SCALE", .int, 25, 5, 0⟩, ⟨"LOG2_ARRAY_INT_INDEX_SCALE", .int, 25, 6, 0⟩, ⟨"LOG2_ARRAY_LONG_INDEX_SCALE", .int, 25, 7, 0⟩, ⟨"LOG2_ARRAY_FLOAT_INDEX_SCALE", .int, 25, 8, 0⟩, ⟨"LOG2_ARRAY_DOUBLE_INDEX_SCALE", .int, 25, 9, 0⟩, ⟨"LOG2_BYTE_BIT_SIZE", .int, 26, 10, 0⟩, ⟨"T_BOOLEAN", .int, 25, 11, 0⟩, ⟨"T_CHAR", .int, 25, 12, 0⟩, ⟨"T_FLOAT", .int, 25, 13, 0⟩, ⟨"T_DOUBLE", .int, 25, 14, 0⟩, ⟨"T_BYTE", .int, 25, 15, 0⟩, ⟨"T_SHORT", .int, 25, 16, 0⟩, ⟨"T_INT", .int, 25, 17, 0⟩, ⟨"T_LONG", .int, 25, 18, 0⟩, ⟨"JLA", (.object "jdk/internal/access/JavaLangAccess"), 26, 19, 0⟩, ⟨"SOFT_MAX_ARRAY_LENGTH", .int, 25, 20, 0⟩]
  methods := #[k12m0]
  instanceTypes := #[]
  staticTypes := #[(.object "jdk/internal/misc/Unsafe"), .boolean, .int, .int, .int, .int, .int, .int, .int, .int, .int, .int, .int, .int, .int, .int, .int, .int, .int, (.object "jdk/internal/access/JavaLangAccess"), .int]
  resolved := Array.replicate 378 none
  statics := none }

def pool13 : Array CpInfo := pool [(1, u "java/lang/Cloneable"), (0, .class_ 1), (0, u "java/lang/Object"), (0, .class_ 3)] 3

/-- java/lang/Cloneable -/
def k13 : Class := { plain "java/lang/Cloneable" (some 0) with
  accessFlags := 1537
  interfaces := #[]
  cf := some (fileOf pool13 2 #[] #[] 1537 4 #[] #[])
  fields := #[]
  methods := #[]
  instanceTypes := #[]
  staticTypes := #[]
  resolved := Array.replicate 8 none
  statics := none }

/-- the primitive byte -/
def k14 : Class := { plain "byte" none with kind := .primitive 'B', accessFlags := 0x411 }
/-- [B -/
def k15 : Class := { plain "[B" (some 0) with kind := .array 14 .byte, interfaces := #[13, 2], accessFlags := 1041 }

/-- the primitive char -/
def k16 : Class := { plain "char" none with kind := .primitive 'C', accessFlags := 0x411 }
/-- [C -/
def k17 : Class := { plain "[C" (some 0) with kind := .array 16 .char, interfaces := #[13, 2], accessFlags := 1041 }

/-- the primitive int -/
def k18 : Class := { plain "int" none with kind := .primitive 'I', accessFlags := 0x411 }
/-- [I -/
def k19 : Class := { plain "[I" (some 0) with kind := .array 18 .int, interfaces := #[13, 2], accessFlags := 1041 }

def heap : Heap := #[{ cls := 7, slots := #[.long 0, .int 1, .null, .int 0, .null, .int 0, .int 0], vm := .statics 7 },
  { cls := 8, slots := #[.int 0, .int 8, .int 0, .int 1], vm := .statics 8 },
  { cls := 10, slots := #[.null, .null, .null], vm := .statics 10 }]
def classes : Array Class := #[k0, k1, k2, k3, k4, k5, k6, k7, k8, k9, k10, k11, k12, k13, k14, k15, k16, k17, k18, k19]
def interned : List (Array UInt16 × Addr) := []
def slotsUsed : Nat := 14
def theMethod : MethodId := ⟨1, 1⟩
def args0 : Array Value := #[.int 5, .int 6, .int 7, .int 8, .int 9]
def aboutOver (below : List Frame) : State where
  vm := { classes := classes, interned := interned.toArray }
  heap := heap
  slotsUsed := slotsUsed
  threads := #[{ frames := .invoking theMethod args0 :: below }]
def below0 : List Frame := [.native { method := ⟨0, 0⟩, args := #[] }]
def about1 : State := aboutOver below0
def p0 : Program := .bare "" "" ""
def e0 : Env := launch0.env 0 0 0
theorem w_frames : about1.frames = Frame.invoking theMethod args0 :: below0 := rfl
set_option maxRecDepth 65536 in
theorem w_args : argsFit about1.vm theMethod args0 = true := by decide +kernel
set_option maxRecDepth 65536 in
theorem w_heap : heapFits about1 = true := by decide +kernel
set_option maxRecDepth 65536 in
theorem w_runnable : about1.curStatus? = some .runnable := by decide +kernel
set_option maxRecDepth 65536 in
theorem w_alone : about1.alone = true := by decide +kernel
set_option maxRecDepth 65536 in
theorem w_named : about1.methodNamed? x = some theMethod := by decide +kernel
set_option maxRecDepth 65536 in
theorem w_hears : about1.hears theMethod below0 = true := by decide +kernel
set_option maxRecDepth 65536 in
theorem w_ripe : about1.ripe theMethod args0 below0 = true := by decide +kernel
theorem w_running : about1.status = .running := rfl
set_option maxRecDepth 65536 in
theorem w_room : about1.hasRoom e0.platform room_1 = true :=
  launch0.hasRoom_least _ room_1 (by decide +kernel) (by decide +kernel) (by decide +kernel) (by decide +kernel) (by decide +kernel) (by decide +kernel)
theorem allAtoms_all (ts : List Jvm.Cond) (a : Array Jvm.Value) (st : Jvm.State) : (allAtoms ts).before a st = ts.all (fun c => c.before a st) := by
  induction ts with
  | nil => rfl
  | cons c t ih =>
    show (Jvm.Cond.and c (allAtoms t)).before a st = _
    rw [Jvm.Cond.before_and, ih, List.all_cons]
def words1 : List Jvm.Cond := Jvm.Cond.code x code maxLocals ret :: tables_1
/-- a 'code' word, met by the world's own term for the bytes: nothing is compared byte by byte -/
theorem code_word {y : MethodName} {bytes : ByteArray} {mx : Nat} {rt : Option FieldType} {a : Array Value} {s : State} {m : MethodId} {meth : Method} {c : Code} (h1 : s.methodNamed? y = some m) (h2 : s.vm.method? m = some meth) (h3 : meth.code = some c) (h4 : c.code = bytes)
    (h5 : (c.maxLocals == mx && c.exceptionTable.isEmpty && decide (c.maxStack ≤ mostOperands) && decide (meth.sig.returnType = rt) && !meth.locks && decide (parseMethodDescriptor y.desc = some meth.sig)) = true) : (Jvm.Cond.code y bytes mx rt).before a s = true := by
  simp only [Bool.and_eq_true, beq_iff_eq, Bool.not_eq_true', decide_eq_true_eq] at h5
  obtain ⟨⟨⟨⟨⟨g1, g2⟩, g3⟩, g4⟩, g5⟩, g6⟩ := h5
  simp [Cond.before, Cond.holds, Cond.value, h1, h2, h3, h4, g1, g2, g3, g4, g5, g6]
def isCode : Jvm.Cond → Bool
  | .code _ _ _ _ => true
  | _ => false
theorem all_split {L : List Jvm.Cond} {P : Jvm.Cond → Bool} (h1 : L.all (fun c => isCode c || P c) = true) (h2 : ∀ c ∈ L.filter isCode, P c = true) : L.all P = true := by
  refine List.all_eq_true.mpr fun c hc => ?_
  have h := List.all_eq_true.mp h1 c hc
  rcases Bool.eq_false_or_eq_true (isCode c) with hi | hi
  · exact h2 c (List.mem_filter.mpr ⟨hc, hi⟩)
  · simpa [hi] using h
set_option maxRecDepth 65536 in
theorem w_c0 : (Jvm.Cond.code x code maxLocals ret).before args0 about1 = true := code_word (m := ⟨1, 1⟩) (meth := k1m1) (c := k1c1) (by decide +kernel) rfl rfl rfl (by decide +kernel)
set_option maxRecDepth 65536 in
theorem w_c1 : (Jvm.Cond.code Y0_ method_4_code (5 : Nat) (Option.some (Jvm.ClassFile.FieldType.array Jvm.ClassFile.FieldType.char))).before args0 about1 = true := code_word (m := ⟨1, 3⟩) (meth := k1m3) (c := k1c3) (by decide +kernel) rfl rfl rfl (by decide +kernel)
set_option maxRecDepth 65536 in
theorem w_c2 : (Jvm.Cond.code Y2_ jdk_42_method_3_code (2 : Nat) (Option.none : Option Jvm.ClassFile.FieldType)).before args0 about1 = true := code_word (m := ⟨7, 1⟩) (meth := k7m1) (c := k7c1) (by decide +kernel) rfl rfl rfl (by decide +kernel)
set_option maxRecDepth 65536 in
theorem w_c3 : (Jvm.Cond.code Y1_ jdk_42_method_149_code (6 : Nat) (Option.none : Option Jvm.ClassFile.FieldType)).before args0 about1 = true := code_word (m := ⟨7, 3⟩) (meth := k7m3) (c := k7c3) (by decide +kernel) rfl rfl rfl (by decide +kernel)
set_option maxRecDepth 65536 in
theorem w_c4 : (Jvm.Cond.code (⟨"java/lang/Object", "<init>", "()V"⟩ : Jvm.MethodName) object_method_1_code (1 : Nat) (Option.none : Option Jvm.ClassFile.FieldType)).before args0 about1 = true := code_word (m := ⟨0, 0⟩) (meth := k0m0) (c := k0c0) (by decide +kernel) rfl rfl rfl (by decide +kernel)
set_option maxRecDepth 65536 in
theorem w_c5 : (Jvm.Cond.code Y12_ jdk_52_method_16_code (6 : Nat) (Option.some (Jvm.ClassFile.FieldType.array Jvm.ClassFile.FieldType.byte))).before args0 about1 = true := code_word (m := ⟨8, 8⟩) (meth := k8m8) (c := k8c8) (by decide +kernel) rfl rfl rfl (by decide +kernel)
set_option maxRecDepth 65536 in
theorem w_c6 : (Jvm.Cond.code Y6_ jdk_52_method_21_code (7 : Nat) (Option.some Jvm.ClassFile.FieldType.int)).before args0 about1 = true := code_word (m := ⟨8, 9⟩) (meth := k8m9) (c := k8c9) (by decide +kernel) rfl rfl rfl (by decide +kernel)
set_option maxRecDepth 65536 in
theorem w_c7 : (Jvm.Cond.code Y13_ jdk_52_method_15_code (2 : Nat) (Option.some Jvm.ClassFile.FieldType.byte)).before args0 about1 = true := code_word (m := ⟨8, 7⟩) (meth := k8m7) (c := k8c7) (by decide +kernel) rfl rfl rfl (by decide +kernel)
set_option maxRecDepth 65536 in
theorem w_c8 : (Jvm.Cond.code Y4_ prog_50_method_3_code (5 : Nat) (Option.some Jvm.ClassFile.FieldType.boolean)).before args0 about1 = true := code_word (m := ⟨9, 1⟩) (meth := k9m1) (c := k9c1) (by decide +kernel) rfl rfl rfl (by decide +kernel)
set_option maxRecDepth 65536 in
theorem w_c9 : (Jvm.Cond.code Y10_ jdk_52_method_14_code (5 : Nat) (Option.some (Jvm.ClassFile.FieldType.array Jvm.ClassFile.FieldType.byte))).before args0 about1 = true := code_word (m := ⟨8, 6⟩) (meth := k8m6) (c := k8c6) (by decide +kernel) rfl rfl rfl (by decide +kernel)
set_option maxRecDepth 65536 in
theorem w_c10 : (Jvm.Cond.code Y8_ jdk_52_method_2_code (1 : Nat) (Option.some (Jvm.ClassFile.FieldType.array Jvm.ClassFile.FieldType.byte))).before args0 about1 = true := code_word (m := ⟨8, 1⟩) (meth := k8m1) (c := k8c1) (by decide +kernel) rfl rfl rfl (by decide +kernel)
set_option maxRecDepth 65536 in
theorem w_c11 : (Jvm.Cond.code Y7_ jdk_52_method_3_code (1 : Nat) (Option.some Jvm.ClassFile.FieldType.int)).before args0 about1 = true := code_word (m := ⟨8, 2⟩) (meth := k8m2) (c := k8c2) (by decide +kernel) rfl rfl rfl (by decide +kernel)
set_option maxRecDepth 65536 in
theorem w_c12 : (Jvm.Cond.code Y9_ jdk_52_method_4_code (3 : Nat) (Option.none : Option Jvm.ClassFile.FieldType)).before args0 about1 = true := code_word (m := ⟨8, 3⟩) (meth := k8m3) (c := k8c3) (by decide +kernel) rfl rfl rfl (by decide +kernel)
set_option maxRecDepth 65536 in
theorem w_c13 : (Jvm.Cond.code Y11_ jdk_52_method_5_code (2 : Nat) (Option.some Jvm.ClassFile.FieldType.char)).before args0 about1 = true := code_word (m := ⟨8, 4⟩) (meth := k8m4) (c := k8c4) (by decide +kernel) rfl rfl rfl (by decide +kernel)
set_option maxRecDepth 65536 in
theorem w_c14 : (Jvm.Cond.code Y3_ method_3_code (4 : Nat) (Option.some Jvm.ClassFile.FieldType.boolean)).before args0 about1 = true := code_word (m := ⟨1, 2⟩) (meth := k1m2) (c := k1c2) (by decide +kernel) rfl rfl rfl (by decide +kernel)
set_option maxRecDepth 65536 in
theorem w_c15 : (Jvm.Cond.code Y5_ jdk_42_method_56_code (2 : Nat) (Option.some Jvm.ClassFile.FieldType.char)).before args0 about1 = true := code_word (m := ⟨7, 2⟩) (meth := k7m2) (c := k7c2) (by decide +kernel) rfl rfl rfl (by decide +kernel)
set_option maxRecDepth 65536 in
theorem w_c16 : (Jvm.Cond.code Y14_ jdk_42_method_154_code (1 : Nat) (Option.some Jvm.ClassFile.FieldType.boolean)).before args0 about1 = true := code_word (m := ⟨7, 4⟩) (meth := k7m4) (c := k7c4) (by decide +kernel) rfl rfl rfl (by decide +kernel)
set_option maxRecDepth 65536 in
theorem w_c17 : (Jvm.Cond.code Y19_ jdk_52_method_83_code (2 : Nat) (Option.some Jvm.ClassFile.FieldType.char)).before args0 about1 = true := code_word (m := ⟨8, 10⟩) (meth := k8m10) (c := k8c10) (by decide +kernel) rfl rfl rfl (by decide +kernel)
set_option maxRecDepth 65536 in
theorem w_c18 : (Jvm.Cond.code Y18_ jdk_52_method_91_code (2 : Nat) (Option.none : Option Jvm.ClassFile.FieldType)).before args0 about1 = true := code_word (m := ⟨8, 11⟩) (meth := k8m11) (c := k8c11) (by decide +kernel) rfl rfl rfl (by decide +kernel)
set_option maxRecDepth 65536 in
theorem w_c19 : (Jvm.Cond.code Y15_ jdk_52_method_6_code (1 : Nat) (Option.some Jvm.ClassFile.FieldType.int)).before args0 about1 = true := code_word (m := ⟨8, 5⟩) (meth := k8m5) (c := k8c5) (by decide +kernel) rfl rfl rfl (by decide +kernel)
set_option maxRecDepth 65536 in
theorem w_c20 : (Jvm.Cond.code Y17_ jdk_42_method_155_code (2 : Nat) (Option.none : Option Jvm.ClassFile.FieldType)).before args0 about1 = true := code_word (m := ⟨7, 5⟩) (meth := k7m5) (c := k7c5) (by decide +kernel) rfl rfl rfl (by decide +kernel)
set_option maxRecDepth 65536 in
theorem w_c21 : (Jvm.Cond.code Y16_ jdk_41_method_11_code (3 : Nat) (Option.some Jvm.ClassFile.FieldType.int)).before args0 about1 = true := code_word (m := ⟨10, 1⟩) (meth := k10m1) (c := k10c1) (by decide +kernel) rfl rfl rfl (by decide +kernel)
set_option maxRecDepth 65536 in
theorem w_c22 : (Jvm.Cond.code (⟨"java/lang/StringLatin1", "charAt", "([BI)C"⟩ : Jvm.MethodName) jdk_43_method_2_code (2 : Nat) (Option.some Jvm.ClassFile.FieldType.char)).before args0 about1 = true := code_word (m := ⟨11, 1⟩) (meth := k11m1) (c := k11c1) (by decide +kernel) rfl rfl rfl (by decide +kernel)
def codes1 : List Jvm.Cond := [Jvm.Cond.code x code maxLocals ret, Jvm.Cond.code Y0_ method_4_code (5 : Nat) (Option.some (Jvm.ClassFile.FieldType.array Jvm.ClassFile.FieldType.char)), Jvm.Cond.code Y2_ jdk_42_method_3_code (2 : Nat) (Option.none : Option Jvm.ClassFile.FieldType), Jvm.Cond.code Y1_ jdk_42_method_149_code (6 : Nat) (Option.none : Option Jvm.ClassFile.FieldType), Jvm.Cond.code (⟨"java/lang/Object", "<init>", "()V"⟩ : Jvm.MethodName) object_method_1_code (1 : Nat) (Option.none : Option Jvm.ClassFile.FieldType), Jvm.Cond.code Y12_ jdk_52_method_16_code (6 : Nat) (Option.some (Jvm.ClassFile.FieldType.array Jvm.ClassFile.FieldType.byte)), Jvm.Cond.code Y6_ jdk_52_method_21_code (7 : Nat) (Option.some Jvm.ClassFile.FieldType.int), Jvm.Cond.code Y13_ jdk_52_method_15_code (2 : Nat) (Option.some Jvm.ClassFile.FieldType.byte), Jvm.Cond.code Y4_ prog_50_method_3_code (5 : Nat) (Option.some Jvm.ClassFile.FieldType.boolean), Jvm.Cond.code Y10_ jdk_52_method_14_code (5 : Nat) (Option.some (Jvm.ClassFile.FieldType.array Jvm.ClassFile.FieldType.byte)), Jvm.Cond.code Y8_ jdk_52_method_2_code (1 : Nat) (Option.some (Jvm.ClassFile.FieldType.array Jvm.ClassFile.FieldType.byte)), Jvm.Cond.code Y7_ jdk_52_method_3_code (1 : Nat) (Option.some Jvm.ClassFile.FieldType.int), Jvm.Cond.code Y9_ jdk_52_method_4_code (3 : Nat) (Option.none : Option Jvm.ClassFile.FieldType), Jvm.Cond.code Y11_ jdk_52_method_5_code (2 : Nat) (Option.some Jvm.ClassFile.FieldType.char), Jvm.Cond.code Y3_ method_3_code (4 : Nat) (Option.some Jvm.ClassFile.FieldType.boolean), Jvm.Cond.code Y5_ jdk_42_method_56_code (2 : Nat) (Option.some Jvm.ClassFile.FieldType.char), Jvm.Cond.code Y14_ jdk_42_method_154_code (1 : Nat) (Option.some Jvm.ClassFile.FieldType.boolean), Jvm.Cond.code Y19_ jdk_52_method_83_code (2 : Nat) (Option.some Jvm.ClassFile.FieldType.char), Jvm.Cond.code Y18_ jdk_52_method_91_code (2 : Nat) (Option.none : Option Jvm.ClassFile.FieldType), Jvm.Cond.code Y15_ jdk_52_method_6_code (1 : Nat) (Option.some Jvm.ClassFile.FieldType.int), Jvm.Cond.code Y17_ jdk_42_method_155_code (2 : Nat) (Option.none : Option Jvm.ClassFile.FieldType), Jvm.Cond.code Y16_ jdk_41_method_11_code (3 : Nat) (Option.some Jvm.ClassFile.FieldType.int), Jvm.Cond.code (⟨"java/lang/StringLatin1", "charAt", "([BI)C"⟩ : Jvm.MethodName) jdk_43_method_2_code (2 : Nat) (Option.some Jvm.ClassFile.FieldType.char)]
set_option maxRecDepth 65536 in
theorem codes_eq : words1.filter isCode = codes1 := rfl
theorem w_codes : ∀ c ∈ words1.filter isCode, c.before args0 about1 = true := by
  rw [codes_eq]
  intro c hc
  simp only [codes1, List.mem_cons, List.not_mem_nil, or_false] at hc
  rcases hc with rfl | rfl | rfl | rfl | rfl | rfl | rfl | rfl | rfl | rfl | rfl | rfl | rfl | rfl | rfl | rfl | rfl | rfl | rfl | rfl | rfl | rfl | rfl
  · exact w_c0
  · exact w_c1
  · exact w_c2
  · exact w_c3
  · exact w_c4
  · exact w_c5
  · exact w_c6
  · exact w_c7
  · exact w_c8
  · exact w_c9
  · exact w_c10
  · exact w_c11
  · exact w_c12
  · exact w_c13
  · exact w_c14
  · exact w_c15
  · exact w_c16
  · exact w_c17
  · exact w_c18
  · exact w_c19
  · exact w_c20
  · exact w_c21
  · exact w_c22
set_option maxRecDepth 65536 in
theorem w_t1 : (words1.take 24).all (fun c => isCode c || c.before args0 about1) = true := by decide +kernel
set_option maxRecDepth 65536 in
theorem w_t2 : ((words1.drop 24).take 24).all (fun c => isCode c || c.before args0 about1) = true := by decide +kernel
set_option maxRecDepth 65536 in
theorem w_t3 : (((words1.drop 24).drop 24).take 24).all (fun c => isCode c || c.before args0 about1) = true := by decide +kernel
set_option maxRecDepth 65536 in
theorem w_t4 : ((((words1.drop 24).drop 24).drop 24).take 24).all (fun c => isCode c || c.before args0 about1) = true := by decide +kernel
set_option maxRecDepth 65536 in
theorem w_t5 : ((((words1.drop 24).drop 24).drop 24).drop 24).all (fun c => isCode c || c.before args0 about1) = true := by decide +kernel
theorem w_tables : (allAtoms (Jvm.Cond.code x code maxLocals ret :: tables_1)).before args0 about1 = true := by
  rw [allAtoms_all]
  show words1.all (fun c => c.before args0 about1) = true
  refine all_split ?_ w_codes
  rw [← List.take_append_drop 24 words1, List.all_append, w_t1, ← List.take_append_drop 24 (words1.drop 24), List.all_append, w_t2, ← List.take_append_drop 24 ((words1.drop 24).drop 24), List.all_append, w_t3, ← List.take_append_drop 24 (((words1.drop 24).drop 24).drop 24), List.all_append, w_t4, w_t5]
  rfl
set_option maxRecDepth 65536 in
theorem w_rest : rest_1_c.before args0 about1 = true := by decide +kernel
set_option maxRecDepth 65536 in
theorem w_case : (Jvm.Cond.and given_1 narrow_1).before args0 about1 = true := by decide +kernel
set_option maxRecDepth 65536 in
theorem w_consts : constsHeld consts_1 about1 := Jvm.Lit.constsHeldB_iff.mp (by decide +kernel)
theorem w_applies : (headSpec (Jvm.Cond.code x code maxLocals ret :: tables_1) room_1).applies x e0.platform about1 = true :=
  (Spec.applies_iff w_frames).mpr ⟨w_running, w_runnable, w_alone, w_named, w_hears, w_ripe, w_room, w_tables⟩
theorem atStart : AtStart classFile x code maxLocals ret World_1 tables_1 room_1 Calls_1 rest_1 Pre_1 launch0 p0 e0 about1 theMethod args0 below0 :=
  ⟨lists_1, trivial, launch0.admits_env _ _ _, launch0.least_env, fairChoices_fair.cas, fairChoices_fair.clock, w_frames, w_args, w_heap, w_applies, ⟨w_consts, trivial⟩, w_rest, w_case⟩
end start1
theorem witness_1 : WitnessClaimed_1 := ⟨start1.p0, start1.e0, start1.about1, start1.theMethod, start1.args0, start1.below0, start1.atStart⟩
end Jvm.Pilot.@@N@@
