import JvmDerived
import JvmDerived.Pilot.@@N@@Statement
import JvmDerived.Pilot.@@N@@Code
set_option linter.unusedVariables false
set_option linter.unusedSimpArgs false
namespace Jvm.RoadKit
open Sem ClassFile Op Lib Jvm.Stand Jvm.Free Jvm.LawKit
section New
variable {p : Program} {l : Launch} {e : Env} {R : Room} {s : State} {m : MethodId} {args : Array Value} {below : List Frame} {meth : Method} {c : Code} {T : State} {locs : List Loc} {cells slots : Nat}
theorem retI (X : Stand p l e R s m args below meth c T locs cells slots) (hx : p.tables.exec = Jvm.exec) {pc : Nat} {Ls : Array Slot} {z : Int32} {rest : List Value} (hret : meth.sig.returnType = some .int) (hd : decode c.code pc = .ok (.ireturn, 1)) {fs : List Frame}
    (hl : ∀ (f : JFrame) (acts : List Action), f.method = m → f.locked = none → f.entered = [] → (doReturn e (T.setTop f) acts (some (.int z))).1 = T.setFrames fs) : Steps p.tables e below (T.setTop (mkF m pc Ls (.int z :: rest))) (T.setFrames fs) :=
  retOut X hx hret rfl (Or.inl ⟨rfl, Or.inl rfl, z, rfl⟩) hd hl
end New
end Jvm.RoadKit
/- laws to paste: Road.backV (cut by pick.py; bodies as the Statement names them) -/
namespace Jvm.Pilot.@@N@@
namespace StrChars
open Jvm Sem ClassFile Op Lib Jvm.Stand Jvm.Free.XT Jvm.Free.ALB Jvm.Free.JM Jvm.Free
open Jvm.Lib.Cold (StaticIs)
/-- a char array whose places are chars -/
def Ch (a : Addr) (A : Cell) (U : State) : Prop := Arr .char a A U ∧ Typed .char A
theorem Ch.mv {a : Addr} {A : Cell} {U U' : State} (h : Ch a A U) (hal : U.vm.Alike U'.vm) (hh : U'.heap = U.heap) : Ch a A U' := ⟨h.1.mv hal hh, h.2⟩
theorem Ch.keep {a : Addr} {A : Cell} {U U' : State} (h : Ch a A U) (hal : U.vm.Alike U'.vm) (hk : U'.heap[a]? = some A) : Ch a A U' := ⟨h.1.keep hal hk, h.2⟩
/-- what place i of a char[]'s cell holds -/
def cv (A : Cell) (i : Nat) : Int32 := match A.slots[i]? with | some (.int x) => x | _ => 0
theorem Ch.get {a : Addr} {A : Cell} {U : State} (h : Ch a A U) {i : Nat} (hi : i < A.slots.size) : A.slots[i]? = some (.int (cv A i)) := by
  have e := Array.getElem?_eq_getElem hi
  have f := h.2 i _ e
  unfold cv; rw [e]
  generalize A.slots[i] = v at f
  cases v <;> simp [fits] at f ⊢
/-- the byte that i2b leaves of a char -/
def lo8 (x : Int32) : Int32 := x.toInt8.toInt32
theorem fits_lo8 (y : Int32) : fits .byte (.int (lo8 y)) = true := by
  have h1 := y.toInt8.le_toInt
  have h2 := y.toInt8.toInt_lt
  simp only [lo8, fits, Bool.and_eq_true, decide_eq_true_eq, Int32.le_iff_toInt_le, Int8.toInt_toInt32, show (-128 : Int32).toInt = -128 from by decide, show (127 : Int32).toInt = 127 from by decide]
  omega
/-- A' is A but that each place j of lo .. hi - 1 holds f j -/
def Laid (A A' : Cell) (lo hi : Nat) (f : Nat → Value) : Prop := A'.cls = A.cls ∧ A'.vm = A.vm ∧ A'.slots.size = A.slots.size ∧ ∀ i, A'.slots[i]? = if lo ≤ i ∧ i < hi then some (f i) else A.slots[i]?
theorem Laid.zero (A : Cell) (lo : Nat) (f : Nat → Value) : Laid A A lo (lo + 0) f := ⟨rfl, rfl, rfl, fun i => by rw [if_neg (by omega)]⟩
theorem Laid.step {A Ak : Cell} {lo k : Nat} {f : Nat → Value} {v : Value} (h : Laid A Ak lo k f) (hlo : lo ≤ k) (hk : k < Ak.slots.size) (hv : v = f k) : Laid A (Ak.setSlot k v) lo (k + 1) f := by
  refine ⟨h.1, h.2.1, by simpa [Cell.setSlot] using h.2.2.1, fun i => ?_⟩
  by_cases e : k = i
  · subst e; rw [Cell.slots_setSlot_self v hk, if_pos (by omega), hv]
  · rw [Cell.slots_setSlot_ne v e, h.2.2.2 i]
    by_cases q : lo ≤ i ∧ i < k
    · rw [if_pos q, if_pos (by omega)]
    · rw [if_neg q, if_neg (by omega)]
def U16 : String := "java/lang/StringUTF16"
namespace Cmp5
def yN : MethodName := ⟨"java/lang/StringUTF16", "compress", "([CI[BII)I"⟩
abbrev yB : ByteArray := jdk_52_method_21_code
theorem d0 : decode yB 0 = .ok (.iconst 0, 1) := by decide +kernel
theorem d1 : decode yB 1 = .ok (.istore 5, 2) := by decide +kernel
theorem d3 : decode yB 3 = .ok (.iload 5, 2) := by decide +kernel
theorem d5 : decode yB 5 = .ok (.iload 4, 2) := by decide +kernel
theorem d7 : decode yB 7 = .ok (.if_icmp (.ge) 37, 3) := by decide +kernel
theorem d10 : decode yB 10 = .ok (.aload_n 0, 1) := by decide +kernel
theorem d11 : decode yB 11 = .ok (.iload_n 1, 1) := by decide +kernel
theorem d12 : decode yB 12 = .ok (.caload, 1) := by decide +kernel
theorem d13 : decode yB 13 = .ok (.istore 6, 2) := by decide +kernel
theorem d15 : decode yB 15 = .ok (.iload 6, 2) := by decide +kernel
theorem d17 : decode yB 17 = .ok (.sipush 255, 3) := by decide +kernel
theorem d20 : decode yB 20 = .ok (.if_icmp (.le) 6, 3) := by decide +kernel
theorem d26 : decode yB 26 = .ok (.aload_n 2, 1) := by decide +kernel
theorem d27 : decode yB 27 = .ok (.iload_n 3, 1) := by decide +kernel
theorem d28 : decode yB 28 = .ok (.iload 6, 2) := by decide +kernel
theorem d30 : decode yB 30 = .ok (.i2b, 1) := by decide +kernel
theorem d31 : decode yB 31 = .ok (.bastore, 1) := by decide +kernel
theorem d32 : decode yB 32 = .ok (.iinc 1 1, 3) := by decide +kernel
theorem d35 : decode yB 35 = .ok (.iinc 3 1, 3) := by decide +kernel
theorem d38 : decode yB 38 = .ok (.iinc 5 1, 3) := by decide +kernel
theorem d41 : decode yB 41 = .ok (.goto (-38), 3) := by decide +kernel
theorem d44 : decode yB 44 = .ok (.iload 4, 2) := by decide +kernel
theorem d46 : decode yB 46 = .ok (.ireturn, 1) := by decide +kernel
def site : List Cond := []
def tab : Cond := tabOf yN yB 7 (some .int) site
def P (b : Addr) (A : Cell) (d : Addr) (B : Cell) (o q len : Nat) (args : Array Value) (s : State) : Prop := args = #[.ref b, .int (Int32.ofNat o), .ref d, .int (Int32.ofNat q), .int (Int32.ofNat len)] ∧ Ch b A s ∧ Arr .byte d B s ∧ b ≠ d ∧ o + len ≤ A.slots.size ∧ q + len ≤ B.slots.size ∧ ∀ i, i < len → ¬ 255 < cv A (o + i)
def E (b : Addr) (A : Cell) (d : Addr) (B : Cell) (o q len : Nat) (r : Option Value) (s u : State) : Prop := r = some (.int (Int32.ofNat len)) ∧ ∃ B', Put d B' s u ∧ Laid B B' q (q + len) (fun j => Value.int (lo8 (cv A (o + (j - q)))))
/-- no char of the range above 255: len; the places written hold each char's low byte -/
theorem law (l : Launch) (b : Addr) (A : Cell) (d : Addr) (B : Cell) (o q len : Nat) : Law l yN 5 5 0 0 yB 7 (some .int) site (P b A d B o q len) (E b A d B o q len) (copyLocs d q len) 0 0 := by
  refine Law.of_walk (plainFor_of_name (by decide +kernel)) (by decide +kernel) (by decide +kernel) (by decide) (fun _ _ h => by rw [h.1]; rfl) (fun _ U U' hal hh h => ⟨h.1, h.2.1.mv hal hh, h.2.2.1.mv hal hh, h.2.2.2⟩) (fun r U U' V V' h1 hal h2 h => ⟨h.1, h.2.elim fun B' q => ⟨B', q.1.mv h1 h2, q.2⟩⟩) ?_
  intro p e s m args below meth c s₁ X0 hexec hbytes hml hret hlk hnm hown hh0 W hP
  obtain ⟨rfl, hA, hB, hne, l1, l2, hp⟩ := hP
  have c1 : Steps p.tables e below (s₁.setTop (entryFrame m #[.ref b, .int (Int32.ofNat o), .ref d, .int (Int32.ofNat q), .int (Int32.ofNat len)] 7)) (s₁.setTop (mkF m 0 #[.val (.ref b), .val (.int (Int32.ofNat o)), .val (.ref d), .val (.int (Int32.ofNat q)), .val (.int (Int32.ofNat len)), .unset, .unset] [])) := entry rfl
  have hA0 := hA.1.mv X0.warmed.alike hh0
  have hB0 := hB.mv X0.warmed.alike hh0
  have a31 := hA.1.2.2.2
  have c2 : Steps p.tables e below (s₁.setTop (entryFrame m #[.ref b, .int (Int32.ofNat o), .ref d, .int (Int32.ofNat q), .int (Int32.ofNat len)] 7)) (s₁.setTop (mkF m 3 #[.val (.ref b), .val (.int (Int32.ofNat o)), .val (.ref d), .val (.int (Int32.ofNat q)), .val (.int (Int32.ofNat len)), .val (.int 0), .unset] [])) := c1.trans (by
    refine iconstV X0.here hexec rfl 0 (hb hbytes d0) (by decide) ?_
    refine XS.istore X0.here hexec rfl (hb hbytes d1) rfl rfl ?_
    exact Steps.refl _)
  have loop : ∀ (r i : Nat), i + r = len → ∀ (z : Slot), (z = .unset ∨ ∃ w, z = .val w ∧ w.category = 1) → ∀ (Tl : State) (Bk : Cell), Stand p l e { frames := 0, locals := 0, cells := 0, slots := 0 } s m #[.ref b, .int (Int32.ofNat o), .ref d, .int (Int32.ofNat q), .int (Int32.ofNat len)] below meth c Tl ([] ++ copyLocs d q i) 0 0 → Put d Bk s₁ Tl → Laid B Bk q (q + i) (fun j => Value.int (lo8 (cv A (o + (j - q))))) →
      Steps p.tables e below (s₁.setTop (entryFrame m #[.ref b, .int (Int32.ofNat o), .ref d, .int (Int32.ofNat q), .int (Int32.ofNat len)] 7)) (Tl.setTop (mkF m 3 #[.val (.ref b), .val (.int (Int32.ofNat (o + i))), .val (.ref d), .val (.int (Int32.ofNat (q + i))), .val (.int (Int32.ofNat len)), .val (.int (Int32.ofNat i)), z] [])) → ∃ (T' : State) (B' : Cell) (z' : Slot), Stand p l e { frames := 0, locals := 0, cells := 0, slots := 0 } s m #[.ref b, .int (Int32.ofNat o), .ref d, .int (Int32.ofNat q), .int (Int32.ofNat len)] below meth c T' ([] ++ copyLocs d q len) 0 0 ∧ Put d B' s₁ T' ∧ Laid B B' q (q + len) (fun j => Value.int (lo8 (cv A (o + (j - q))))) ∧
      Steps p.tables e below (s₁.setTop (entryFrame m #[.ref b, .int (Int32.ofNat o), .ref d, .int (Int32.ofNat q), .int (Int32.ofNat len)] 7)) (T'.setTop (mkF m 3 #[.val (.ref b), .val (.int (Int32.ofNat (o + len))), .val (.ref d), .val (.int (Int32.ofNat (q + len))), .val (.int (Int32.ofNat len)), .val (.int (Int32.ofNat len)), z'] [])) := by
    intro r
    induction r with
    | zero =>
      intro i hi z hz Tl Bk Xl pl fl cl
      have hil : i = len := by omega
      rw [hil] at Xl fl cl
      exact ⟨Tl, Bk, z, Xl, pl, fl, cl⟩
    | succ r ih =>
      intro i hi z hz Tl Bk Xl pl fl cl
      have all := X0.warmed.alike.symm.trans Xl.warmed.alike
      have hAl := hA0.keep all (pl.other hne hA0.1)
      have hBk := hB0.like all pl.1 fl.1 fl.2.1 fl.2.2.1
      have hlt : q + i < Bk.slots.size := by rw [fl.2.2.1]; omega
      have c3 : Steps p.tables e below (s₁.setTop (entryFrame m #[.ref b, .int (Int32.ofNat o), .ref d, .int (Int32.ofNat q), .int (Int32.ofNat len)] 7)) (Tl.setTop (mkF m 12 #[.val (.ref b), .val (.int (Int32.ofNat (o + i))), .val (.ref d), .val (.int (Int32.ofNat (q + i))), .val (.int (Int32.ofNat len)), .val (.int (Int32.ofNat i)), z] [.int (Int32.ofNat (o + i)), .ref b])) := cl.trans (by
        refine XS.iload Xl.here hexec rfl (hb hbytes d3) rfl ?_
        refine XS.iload Xl.here hexec rfl (hb hbytes d5) rfl ?_
        refine XS.icmpNo Xl.here hexec rfl (hb hbytes d7) rfl (ii_ge_f (lt32 (by omega) (by omega))) ?_
        refine XS.aloadN Xl.here hexec rfl (hb hbytes d10) rfl rfl ?_
        refine XS.iloadN Xl.here hexec rfl (hb hbytes d11) rfl ?_
        exact Steps.refl _)
      have c4 : Steps p.tables e below (s₁.setTop (entryFrame m #[.ref b, .int (Int32.ofNat o), .ref d, .int (Int32.ofNat q), .int (Int32.ofNat len)] 7)) (Tl.setTop (mkF m 13 #[.val (.ref b), .val (.int (Int32.ofNat (o + i))), .val (.ref d), .val (.int (Int32.ofNat (q + i))), .val (.int (Int32.ofNat len)), .val (.int (Int32.ofNat i)), z] [.int (cv A (o + i))])) := c3.trans (by
        refine Xl.aget hexec hAl rfl (hA.get (i := o + i) (by omega)) rfl rfl (hb hbytes d12) ?_
        exact Steps.refl _)
      have c5 : Steps p.tables e below (s₁.setTop (entryFrame m #[.ref b, .int (Int32.ofNat o), .ref d, .int (Int32.ofNat q), .int (Int32.ofNat len)] 7)) (Tl.setTop (mkF m 15 #[.val (.ref b), .val (.int (Int32.ofNat (o + i))), .val (.ref d), .val (.int (Int32.ofNat (q + i))), .val (.int (Int32.ofNat len)), .val (.int (Int32.ofNat i)), .val (.int (cv A (o + i)))] [])) := c4.trans (by
        refine XS.istoreS Xl.here hexec rfl (hb hbytes d13) rfl rfl hz ?_
        exact Steps.refl _)
      have c6 : Steps p.tables e below (s₁.setTop (entryFrame m #[.ref b, .int (Int32.ofNat o), .ref d, .int (Int32.ofNat q), .int (Int32.ofNat len)] 7)) (Tl.setTop (mkF m 31 #[.val (.ref b), .val (.int (Int32.ofNat (o + i))), .val (.ref d), .val (.int (Int32.ofNat (q + i))), .val (.int (Int32.ofNat len)), .val (.int (Int32.ofNat i)), .val (.int (cv A (o + i)))] [.int (lo8 (cv A (o + i))), .int (Int32.ofNat (q + i)), .ref d])) := c5.trans (by
        refine XS.iload Xl.here hexec rfl (hb hbytes d15) rfl ?_
        refine sipushV Xl.here hexec rfl 255 (hb hbytes d17) (by decide) ?_
        refine XS.icmpYes Xl.here hexec rfl (pc0 := 20) rfl (hb hbytes d20) rfl (ii_le_t (hp i (by omega))) (by decide) rfl ?_
        refine XS.aloadN Xl.here hexec rfl (hb hbytes d26) rfl rfl ?_
        refine XS.iloadN Xl.here hexec rfl (hb hbytes d27) rfl ?_
        refine XS.iload Xl.here hexec rfl (hb hbytes d28) rfl ?_
        refine i2b Xl.here hexec rfl (hb hbytes d30) rfl ?_
        exact Steps.refl _)
      obtain ⟨T7, X7, p7, st7⟩ := Xl.aput hexec hBk rfl hlt rfl (fits_lo8 (cv A (o + i))) (g := (mkF m 31 #[.val (.ref b), .val (.int (Int32.ofNat (o + i))), .val (.ref d), .val (.int (Int32.ofNat (q + i))), .val (.int (Int32.ofNat len)), .val (.int (Int32.ofNat i)), .val (.int (cv A (o + i)))] [.int (lo8 (cv A (o + i))), .int (Int32.ofNat (q + i)), .ref d])) rfl (rest := []) rfl (hb hbytes d31)
      have c8 : Steps p.tables e below (s₁.setTop (entryFrame m #[.ref b, .int (Int32.ofNat o), .ref d, .int (Int32.ofNat q), .int (Int32.ofNat len)] 7)) (T7.setTop (mkF m 32 #[.val (.ref b), .val (.int (Int32.ofNat (o + i))), .val (.ref d), .val (.int (Int32.ofNat (q + i))), .val (.int (Int32.ofNat len)), .val (.int (Int32.ofNat i)), .val (.int (cv A (o + i)))] [])) := c6.trans (st7 _ (Steps.refl _))
      have c9 : Steps p.tables e below (s₁.setTop (entryFrame m #[.ref b, .int (Int32.ofNat o), .ref d, .int (Int32.ofNat q), .int (Int32.ofNat len)] 7)) (T7.setTop (mkF m 3 #[.val (.ref b), .val (.int (Int32.ofNat (o + i) + 1)), .val (.ref d), .val (.int (Int32.ofNat (q + i) + 1)), .val (.int (Int32.ofNat len)), .val (.int (Int32.ofNat i + 1)), .val (.int (cv A (o + i)))] [])) := c8.trans (by
        refine iincV X7.here hexec rfl 1 (hb hbytes d32) (by decide) rfl rfl ?_
        refine iincV X7.here hexec rfl 1 (hb hbytes d35) (by decide) rfl rfl ?_
        refine iincV X7.here hexec rfl 1 (hb hbytes d38) (by decide) rfl rfl ?_
        refine XS.goto X7.here hexec rfl (pc0 := 41) rfl (hb hbytes d41) (by decide) rfl ?_
        exact Steps.refl _)
      have c10 : Steps p.tables e below (s₁.setTop (entryFrame m #[.ref b, .int (Int32.ofNat o), .ref d, .int (Int32.ofNat q), .int (Int32.ofNat len)] 7)) (T7.setTop (mkF m 3 #[.val (.ref b), .val (.int (Int32.ofNat (o + (i + 1)))), .val (.ref d), .val (.int (Int32.ofNat (q + (i + 1)))), .val (.int (Int32.ofNat len)), .val (.int (Int32.ofNat (i + 1))), .val (.int (cv A (o + i)))] [])) := by
        have := c9
        rw [succ32, succ32, succ32] at this
        exact this
      exact ih (i + 1) (by omega) _ (Or.inr ⟨_, rfl, rfl⟩) T7 _ (by rw [copyLocs_step, ← List.append_assoc]; exact X7) (pl.trans p7) (fl.step (by omega) hlt (by simp)) c10
  obtain ⟨T9, B9, z9, X9, p9, f9, g9⟩ := loop len 0 (by omega) .unset (Or.inl rfl) s₁ B (by simpa [copyLocs] using X0) ⟨hB0.1, fun _ _ => rfl, rfl⟩ (Laid.zero _ _ _) c2
  have c11 : Steps p.tables e below (s₁.setTop (entryFrame m #[.ref b, .int (Int32.ofNat o), .ref d, .int (Int32.ofNat q), .int (Int32.ofNat len)] 7)) (T9.setTop (mkF m 46 #[.val (.ref b), .val (.int (Int32.ofNat (o + len))), .val (.ref d), .val (.int (Int32.ofNat (q + len))), .val (.int (Int32.ofNat len)), .val (.int (Int32.ofNat len)), z9] [.int (Int32.ofNat len)])) := g9.trans (by
    refine XS.iload X9.here hexec rfl (hb hbytes d3) rfl ?_
    refine XS.iload X9.here hexec rfl (hb hbytes d5) rfl ?_
    refine XS.icmpYes X9.here hexec rfl (pc0 := 7) rfl (hb hbytes d7) rfl (ii_ge_t (nlt32 (by omega) (Nat.le_refl _))) (by decide) rfl ?_
    refine XS.iload X9.here hexec rfl (hb hbytes d44) rfl ?_
    exact Steps.refl _)
  exact ⟨T9, some (.int (Int32.ofNat len)), _, _, _, X9, by simp, rfl, rfl, (fun h => by cases h), ⟨rfl, B9, p9.from hh0, f9⟩, fun fs hl => c11.trans (X9.ireturnOut hexec hret rfl (Or.inl rfl) (hb hbytes d46) hl)⟩
end Cmp5
namespace Cmp3
def yN : MethodName := ⟨"java/lang/StringUTF16", "compress", "([CII)[B"⟩
abbrev yB : ByteArray := jdk_52_method_16_code
theorem d0 : decode yB 0 = .ok (.iload_n 2, 1) := by decide +kernel
theorem d1 : decode yB 1 = .ok (.newarray .byte, 2) := by decide +kernel
theorem d3 : decode yB 3 = .ok (.astore_n 3, 1) := by decide +kernel
theorem d4 : decode yB 4 = .ok (.aload_n 0, 1) := by decide +kernel
theorem d5 : decode yB 5 = .ok (.iload_n 1, 1) := by decide +kernel
theorem d6 : decode yB 6 = .ok (.aload_n 3, 1) := by decide +kernel
theorem d7 : decode yB 7 = .ok (.iconst 0, 1) := by decide +kernel
theorem d8 : decode yB 8 = .ok (.iload_n 2, 1) := by decide +kernel
theorem d9 : decode yB 9 = .ok (.invokestatic 115, 3) := by decide +kernel
theorem d12 : decode yB 12 = .ok (.istore 4, 2) := by decide +kernel
theorem d14 : decode yB 14 = .ok (.iload 4, 2) := by decide +kernel
theorem d16 : decode yB 16 = .ok (.iload_n 2, 1) := by decide +kernel
theorem d17 : decode yB 17 = .ok (.if_icmp (.eq) 40, 3) := by decide +kernel
theorem d57 : decode yB 57 = .ok (.aload_n 3, 1) := by decide +kernel
theorem d58 : decode yB 58 = .ok (.areturn, 1) := by decide +kernel
def site : List Cond := [.arrayClass .byte, Cmp5.tab] ++ staticW U16 115 Cmp5.yN
def tab : Cond := tabOf yN yB 6 (some (.array .byte)) site
def P (b : Addr) (A : Cell) (o len : Nat) (args : Array Value) (s : State) : Prop := args = #[.ref b, .int (Int32.ofNat o), .int (Int32.ofNat len)] ∧ Ch b A s ∧ o + len ≤ A.slots.size ∧ len ≤ 536870912 ∧ ∀ i, i < len → ¬ 255 < cv A (o + i)
def E (b : Addr) (A : Cell) (o len : Nat) (r : Option Value) (s u : State) : Prop := NewArr .byte "[B" len (fun j => .int (lo8 (cv A (o + j)))) r s u ∧ u.heap.size = s.heap.size + 1
/-- no char of the range above 255: a new byte[] of their low bytes -/
theorem law (l : Launch) (b : Addr) (A : Cell) (o len : Nat) : Law l yN 3 3 1 18 yB 6 (some (.array .byte)) site (P b A o len) (E b A o len) [] 1 len := by
  refine Law.of_walk (plainFor_of_name (by decide +kernel)) (by decide +kernel) (by decide +kernel) (by decide) (fun _ _ h => by rw [h.1]; rfl) (fun _ U U' hal hh h => ⟨h.1, h.2.1.mv hal hh, h.2.2⟩) (fun r U U' V V' h1 hal h2 h => ⟨NewArr.mv r U U' V V' h1 hal h2 h.1, by rw [h1, h2]; exact h.2⟩) ?_
  intro p e s m args below meth c s₁ X0 hexec hbytes hml hret hlk hnm hown hh0 W hP
  obtain ⟨rfl, hA, l1, l2, hp⟩ := hP
  have a31 := hA.1.2.2.2
  have c1 : Steps p.tables e below (s₁.setTop (entryFrame m #[.ref b, .int (Int32.ofNat o), .int (Int32.ofNat len)] 6)) (s₁.setTop (mkF m 0 #[.val (.ref b), .val (.int (Int32.ofNat o)), .val (.int (Int32.ofNat len)), .unset, .unset, .unset] [])) := entry rfl
  have c2 : Steps p.tables e below (s₁.setTop (entryFrame m #[.ref b, .int (Int32.ofNat o), .int (Int32.ofNat len)] 6)) (s₁.setTop (mkF m 1 #[.val (.ref b), .val (.int (Int32.ofNat o)), .val (.int (Int32.ofNat len)), .unset, .unset, .unset] [.int (Int32.ofNat len)])) := c1.trans (by
    refine XS.iloadN X0.here hexec rfl (hb hbytes d0) rfl ?_
    exact Steps.refl _)
  obtain ⟨T3, B3, X3, ba3, bs3, bv3, bh3, bf3, st3⟩ := X0.anew hexec (atype := .byte) (wk W (.arrayClass .byte)) rfl (by show len * 1 ≤ _; omega) (by omega) (g := (mkF m 1 #[.val (.ref b), .val (.int (Int32.ofNat o)), .val (.int (Int32.ofNat len)), .unset, .unset, .unset] [.int (Int32.ofNat len)])) rfl (hb hbytes d1) (rest := []) rfl (Nat.le_refl _) (by show 0 + len ≤ len; omega)
  rw [hh0] at ba3 st3
  have kp3 : XT.Kept s T3 := (XT.Kept.of_eq hh0).push bh3
  have hA3 := hA.keep X3.warmed.alike (kp3 _ _ hA.1.1)
  have hne : b ≠ s.heap.size := hA.1.ne
  have c4 : Steps p.tables e below (s₁.setTop (entryFrame m #[.ref b, .int (Int32.ofNat o), .int (Int32.ofNat len)] 6)) (T3.setTop (mkF m 3 #[.val (.ref b), .val (.int (Int32.ofNat o)), .val (.int (Int32.ofNat len)), .unset, .unset, .unset] [.ref s.heap.size])) := c2.trans (st3 _ (Steps.refl _))
  have c5 : Steps p.tables e below (s₁.setTop (entryFrame m #[.ref b, .int (Int32.ofNat o), .int (Int32.ofNat len)] 6)) (T3.setTop (mkF m 9 #[.val (.ref b), .val (.int (Int32.ofNat o)), .val (.int (Int32.ofNat len)), .val (.ref s.heap.size), .unset, .unset] [.int (Int32.ofNat len), .int 0, .ref s.heap.size, .int (Int32.ofNat o), .ref b])) := c4.trans (by
    refine XS.astoreN X3.here hexec rfl (hb hbytes d3) rfl rfl rfl ?_
    refine XS.aloadN X3.here hexec rfl (hb hbytes d4) rfl rfl ?_
    refine XS.iloadN X3.here hexec rfl (hb hbytes d5) rfl ?_
    refine XS.aloadN X3.here hexec rfl (hb hbytes d6) rfl rfl ?_
    refine iconstV X3.here hexec rfl 0 (hb hbytes d7) (by decide) ?_
    refine XS.iloadN X3.here hexec rfl (hb hbytes d8) rfl ?_
    exact Steps.refl _)
  obtain ⟨v6, T6, X6, E6, g6⟩ := X3.callS hexec (Cmp5.law l b A s.heap.size B3 o 0 len) hown (wks W (staticW U16 115 Cmp5.yN)) (wk W Cmp5.tab) (W := 0) (Nat.le_of_ble_eq_true rfl) (Nat.le_of_ble_eq_true rfl) (Nat.le_refl _) (by show 0 + len + 0 ≤ len; omega) (g := (mkF m 9 #[.val (.ref b), .val (.int (Int32.ofNat o)), .val (.int (Int32.ofNat len)), .val (.ref s.heap.size), .unset, .unset] [.int (Int32.ofNat len), .int (Int32.ofNat 0), .ref s.heap.size, .int (Int32.ofNat o), .ref b])) rfl (by rw [hml]; rfl) c5 (argsL := [.ref b, .int (Int32.ofNat o), .ref s.heap.size, .int (Int32.ofNat 0), .int (Int32.ofNat len)]) (rest := []) rfl rfl (by show 2 * 0 + 0 ≤ _; decide) (hb hbytes d9) (⟨rfl, hA3, ba3, hne, l1, by rw [bs3]; simp, hp⟩)
  obtain ⟨rfl, B6, p6, f6⟩ := E6
  have c7 : Steps p.tables e below (s₁.setTop (entryFrame m #[.ref b, .int (Int32.ofNat o), .int (Int32.ofNat len)] 6)) (T6.setTop (mkF m 12 #[.val (.ref b), .val (.int (Int32.ofNat o)), .val (.int (Int32.ofNat len)), .val (.ref s.heap.size), .unset, .unset] [.int (Int32.ofNat len)])) := g6
  have c8 : Steps p.tables e below (s₁.setTop (entryFrame m #[.ref b, .int (Int32.ofNat o), .int (Int32.ofNat len)] 6)) (T6.setTop (mkF m 58 #[.val (.ref b), .val (.int (Int32.ofNat o)), .val (.int (Int32.ofNat len)), .val (.ref s.heap.size), .val (.int (Int32.ofNat len)), .unset] [.ref s.heap.size])) := c7.trans (by
    refine XS.istore X6.here hexec rfl (hb hbytes d12) rfl rfl ?_
    refine XS.iload X6.here hexec rfl (hb hbytes d14) rfl ?_
    refine XS.iloadN X6.here hexec rfl (hb hbytes d16) rfl ?_
    refine XS.icmpYes X6.here hexec rfl (pc0 := 17) rfl (hb hbytes d17) rfl (ii_eq_t rfl) (by decide) rfl ?_
    refine XS.aloadN X6.here hexec rfl (hb hbytes d57) rfl rfl ?_
    exact Steps.refl _)
  have X8 := X6.wide (L' := []) (cells' := 1) (slots' := len) (fun x hx hlt => by
    simp only [List.nil_append, copyLocs, List.mem_map, List.mem_range] at hx
    obtain ⟨i, -, rfl⟩ := hx
    exact absurd hlt (Nat.lt_irrefl _)) (Nat.le_refl _) (by omega)
  exact ⟨T6, some (.ref s.heap.size), _, _, _, X8, rfl, rfl, rfl, (fun h => by cases h), ⟨⟨rfl, B6, ba3.like (X3.warmed.alike.symm.trans X6.warmed.alike) p6.1 f6.1 f6.2.1 f6.2.2.1, f6.2.1.trans bv3, by rw [X6.warmed.alike.findClass, f6.1]; exact bf3, by rw [f6.2.2.1, bs3]; simp, fun j hj => by rw [f6.2.2.2 j, if_pos (by omega)]; rfl, kp3.put p6 (Nat.le_refl _)⟩, by rw [p6.2.2, bh3, hh0]; simp⟩, fun fs hl => c8.trans (X8.areturnOut hexec rfl hret rfl (hb hbytes d58) hl)⟩
end Cmp3
namespace CodL
def yN : MethodName := ⟨"java/lang/StringUTF16", "coderFromArrayLen", "([BI)B"⟩
abbrev yB : ByteArray := jdk_52_method_15_code
theorem d0 : decode yB 0 = .ok (.iload_n 1, 1) := by decide +kernel
theorem d1 : decode yB 1 = .ok (.aload_n 0, 1) := by decide +kernel
theorem d2 : decode yB 2 = .ok (.arraylength, 1) := by decide +kernel
theorem d3 : decode yB 3 = .ok (.isub, 1) := by decide +kernel
theorem d4 : decode yB 4 = .ok (.bipush 31, 2) := by decide +kernel
theorem d6 : decode yB 6 = .ok (.iushr, 1) := by decide +kernel
theorem d7 : decode yB 7 = .ok (.i2b, 1) := by decide +kernel
theorem d8 : decode yB 8 = .ok (.ireturn, 1) := by decide +kernel
def site : List Cond := []
def tab : Cond := tabOf yN yB 2 (some .byte) site
def P (d : Addr) (B : Cell) (args : Array Value) (s : State) : Prop := args = #[.ref d, .int (Int32.ofNat B.slots.size)] ∧ Arr .byte d B s
def E (r : Option Value) (s u : State) : Prop := XT.PureE (some (.int 0)) r s u
/-- an array as long as the number of chars: LATIN1 -/
theorem law (l : Launch) (d : Addr) (B : Cell) : Law l yN 2 2 0 0 yB 2 (some .byte) site (P d B) E [] 0 0 := by
  refine Law.of_walk (plainFor_of_name (by decide +kernel)) (by decide +kernel) (by decide +kernel) (by decide) (fun _ _ h => by rw [h.1]; rfl) (fun _ U U' hal hh h => ⟨h.1, h.2.mv hal hh⟩) (fun r U U' V V' h1 hal h2 h => XT.PureE.mv r U U' V V' h1 hal h2 h) ?_
  intro p e s m args below meth c s₁ X0 hexec hbytes hml hret hlk hnm hown hh0 W hP
  obtain ⟨rfl, hB⟩ := hP
  have hB0 := hB.mv X0.warmed.alike hh0
  have c1 : Steps p.tables e below (s₁.setTop (entryFrame m #[.ref d, .int (Int32.ofNat B.slots.size)] 2)) (s₁.setTop (mkF m 0 #[.val (.ref d), .val (.int (Int32.ofNat B.slots.size))] [])) := entry rfl
  have c2 : Steps p.tables e below (s₁.setTop (entryFrame m #[.ref d, .int (Int32.ofNat B.slots.size)] 2)) (s₁.setTop (mkF m 2 #[.val (.ref d), .val (.int (Int32.ofNat B.slots.size))] [.ref d, .int (Int32.ofNat B.slots.size)])) := c1.trans (by
    refine XS.iloadN X0.here hexec rfl (hb hbytes d0) rfl ?_
    refine XS.aloadN X0.here hexec rfl (hb hbytes d1) rfl rfl ?_
    exact Steps.refl _)
  have c3 : Steps p.tables e below (s₁.setTop (entryFrame m #[.ref d, .int (Int32.ofNat B.slots.size)] 2)) (s₁.setTop (mkF m 8 #[.val (.ref d), .val (.int (Int32.ofNat B.slots.size))] [.int (lo8 (ushr (Int32.ofNat B.slots.size - Int32.ofNat B.slots.size) 31))])) := c2.trans (by
    refine X0.alen hexec hB0 rfl rfl (hb hbytes d2) ?_
    refine XS.isub X0.here hexec rfl (hb hbytes d3) rfl ?_
    refine bipushV X0.here hexec rfl 31 (hb hbytes d4) (by decide) ?_
    refine iushr X0.here hexec rfl (hb hbytes d6) rfl ?_
    refine i2b X0.here hexec rfl (hb hbytes d7) rfl ?_
    exact Steps.refl _)
  have e0 : lo8 (ushr (Int32.ofNat B.slots.size - Int32.ofNat B.slots.size) 31) = 0 := by rw [Int32.sub_self]; decide
  rw [e0] at c3
  exact ⟨s₁, some (.int 0), _, _, _, X0, rfl, rfl, rfl, (fun h => by cases h), ⟨rfl, hh0⟩, fun fs hl => c3.trans (X0.ireturnOut hexec hret rfl (Or.inr (Or.inr (Or.inl rfl))) (hb hbytes d8) hl)⟩
end CodL
/-- the String at a is Latin-1 over a new byte[] (the heap's one new cell): the low bytes of the len chars of A from o on; every cell but a is kept -/
def Got (a : Addr) (D : Cell) (fV fC : Field) (A : Cell) (o len : Nat) (r : Option Value) (s u : State) : Prop := r = none ∧ ∃ D' V : Cell, Blank "java/lang/String" a D' u ∧ Same D D' [fV.slot, fC.slot] ∧ D'.slots[fV.slot]? = some (.ref s.heap.size) ∧ D'.slots[fC.slot]? = some (.int 0) ∧ Arr .byte s.heap.size V u ∧ V.vm = .none ∧ u.vm.findClass "[B" = some V.cls ∧ V.slots.size = len ∧ (∀ j, j < len → V.slots[j]? = some (.int (lo8 (cv A (o + j))))) ∧ (∀ (y : Addr) (c : Cell), y ≠ a → s.heap[y]? = some c → u.heap[y]? = some c) ∧ u.heap.size = s.heap.size + 1
theorem Got.mv {a : Addr} {D A : Cell} {fV fC : Field} {o len : Nat} : ∀ r (U U' V V' : State), U'.heap = U.heap → V.vm.Alike V'.vm → V'.heap = V.heap → Got a D fV fC A o len r U V → Got a D fV fC A o len r U' V' :=
  fun r U U' V V' h1 hal h2 ⟨e0, D', X, a1, a2, a3, a4, a5, a6, a7, a8, a9, a10, a11⟩ => ⟨e0, D', X, a1.mv hal h2, a2, by rw [h1]; exact a3, a4, by rw [h1]; exact a5.mv hal h2, a6, by rw [hal.findClass]; exact a7, a8, a9, by rw [h1, h2]; exact a10, by rw [h1, h2]; exact a11⟩
namespace New4
def yN : MethodName := ⟨"java/lang/String", "<init>", "([CIILjava/lang/Void;)V"⟩
abbrev yB : ByteArray := jdk_42_method_149_code
theorem d0 : decode yB 0 = .ok (.aload_n 0, 1) := by decide +kernel
theorem d1 : decode yB 1 = .ok (.invokespecial 1, 3) := by decide +kernel
theorem d4 : decode yB 4 = .ok (.iload_n 3, 1) := by decide +kernel
theorem d5 : decode yB 5 = .ok (.ifCond (.ne) 22, 3) := by decide +kernel
theorem d27 : decode yB 27 = .ok (.getstatic 38, 3) := by decide +kernel
theorem d30 : decode yB 30 = .ok (.ifCond (.eq) 28, 3) := by decide +kernel
theorem d33 : decode yB 33 = .ok (.aload_n 1, 1) := by decide +kernel
theorem d34 : decode yB 34 = .ok (.iload_n 2, 1) := by decide +kernel
theorem d35 : decode yB 35 = .ok (.iload_n 3, 1) := by decide +kernel
theorem d36 : decode yB 36 = .ok (.invokestatic 177, 3) := by decide +kernel
theorem d39 : decode yB 39 = .ok (.astore 5, 2) := by decide +kernel
theorem d41 : decode yB 41 = .ok (.aload_n 0, 1) := by decide +kernel
theorem d42 : decode yB 42 = .ok (.aload 5, 2) := by decide +kernel
theorem d44 : decode yB 44 = .ok (.iload_n 3, 1) := by decide +kernel
theorem d45 : decode yB 45 = .ok (.invokestatic 47, 3) := by decide +kernel
theorem d48 : decode yB 48 = .ok (.putfield 15, 3) := by decide +kernel
theorem d51 : decode yB 51 = .ok (.aload_n 0, 1) := by decide +kernel
theorem d52 : decode yB 52 = .ok (.aload 5, 2) := by decide +kernel
theorem d54 : decode yB 54 = .ok (.putfield 9, 3) := by decide +kernel
theorem d57 : decode yB 57 = .ok (.return_, 1) := by decide +kernel
def site : List Cond := [.fieldLink "java/lang/String" 38 "java/lang/String" "COMPACT_STRINGS" "Z", Cmp3.tab, CodL.tab, .laysFinal "java/lang/String" "java/lang/String" "value" "[B", .fieldLink "java/lang/String" 9 "java/lang/String" "value" "[B", .laysFinal "java/lang/String" "java/lang/String" "coder" "B", .fieldLink "java/lang/String" 15 "java/lang/String" "coder" "B"] ++ objW "java/lang/String" 1 ++ staticW "java/lang/String" 177 Cmp3.yN ++ staticW "java/lang/String" 47 CodL.yN
def tab : Cond := tabOf yN yB 6 none site
def P (a : Addr) (D : Cell) (fV fC : Field) (b : Addr) (A : Cell) (z : Int32) (o len : Nat) (args : Array Value) (s : State) : Prop := args = #[.ref a, .ref b, .int (Int32.ofNat o), .int (Int32.ofNat len), .null] ∧ Blank "java/lang/String" a D s ∧ Found "java/lang/String" "value" "[B" fV s ∧ Found "java/lang/String" "coder" "B" fC s ∧ Ch b A s ∧ StaticIs s "java/lang/String" "COMPACT_STRINGS" "Z" (.int z) ∧ ¬ z = 0 ∧ 0 < len ∧ o + len ≤ A.slots.size ∧ len ≤ 536870912 ∧ ∀ i, i < len → ¬ 255 < cv A (o + i)
def E (a : Addr) (D : Cell) (fV fC : Field) (A : Cell) (o len : Nat) (r : Option Value) (s u : State) : Prop := Got a D fV fC A o len r s u
/-- len > 0, no char of the range above 255: a Latin-1 String of their low bytes -/
theorem law (l : Launch) (a : Addr) (D : Cell) (fV fC : Field) (b : Addr) (A : Cell) (z : Int32) (o len : Nat) : Law l yN 5 4 2 35 yB 6 none site (P a D fV fC b A z o len) (E a D fV fC A o len) [⟨a, fC.slot⟩, ⟨a, fV.slot⟩] 1 len := by
  refine Law.of_walk (plainFor_of_name (by decide +kernel)) (by decide +kernel) (by decide +kernel) (by decide) (fun _ _ h => by rw [h.1]; rfl) (fun _ U U' hal hh h => ⟨h.1, h.2.1.mv hal hh, h.2.2.1.al hal, h.2.2.2.1.al hal, h.2.2.2.2.1.mv hal hh, h.2.2.2.2.2.1.there hal hh, h.2.2.2.2.2.2⟩) (fun r U U' V V' h1 hal h2 h => Got.mv r U U' V V' h1 hal h2 h) ?_
  intro p e s m args below meth c s₁ X0 hexec hbytes hml hret hlk hnm hown hh0 W hP
  obtain ⟨rfl, hB, f1, f2, hA, s1, hz, l0, l1, l2, hp⟩ := hP
  have a31 := hA.1.2.2.2
  have c1 : Steps p.tables e below (s₁.setTop (entryFrame m #[.ref a, .ref b, .int (Int32.ofNat o), .int (Int32.ofNat len), .null] 6)) (s₁.setTop (mkF m 0 #[.val (.ref a), .val (.ref b), .val (.int (Int32.ofNat o)), .val (.int (Int32.ofNat len)), .val .null, .unset] [])) := entry rfl
  have c2 : Steps p.tables e below (s₁.setTop (entryFrame m #[.ref a, .ref b, .int (Int32.ofNat o), .int (Int32.ofNat len), .null] 6)) (s₁.setTop (mkF m 1 #[.val (.ref a), .val (.ref b), .val (.int (Int32.ofNat o)), .val (.int (Int32.ofNat len)), .val .null, .unset] [.ref a])) := c1.trans (by
    refine XS.aloadN X0.here hexec rfl (hb hbytes d0) rfl rfl ?_
    exact Steps.refl _)
  obtain ⟨T3, X3, q3, st3⟩ := X0.oinit hexec hown (wks W (objW "java/lang/String" 1)) (g := (mkF m 1 #[.val (.ref a), .val (.ref b), .val (.int (Int32.ofNat o)), .val (.int (Int32.ofNat len)), .val .null, .unset] [.ref a])) rfl (by rw [hml]; rfl) (rest := []) rfl (hb hbytes d1) (W := 0) (by show 2 * 0 + 0 ≤ _; decide) (Nat.le_of_ble_eq_true rfl) (Nat.le_of_ble_eq_true rfl)
  have hh3 := q3.trans hh0
  have c4 : Steps p.tables e below (s₁.setTop (entryFrame m #[.ref a, .ref b, .int (Int32.ofNat o), .int (Int32.ofNat len), .null] 6)) (T3.setTop (mkF m 27 #[.val (.ref a), .val (.ref b), .val (.int (Int32.ofNat o)), .val (.int (Int32.ofNat len)), .val .null, .unset] [])) := (c2.trans (st3 _ (Steps.refl _))).trans (by
    refine XS.iloadN X3.here hexec rfl (hb hbytes d4) rfl ?_
    refine XS.ifYes X3.here hexec rfl (pc0 := 5) rfl (hb hbytes d5) rfl (i0_ne_t (nz32 (by omega) l0)) (by decide) rfl ?_
    exact Steps.refl _)
  obtain ⟨T5, X5, q5, st5⟩ := X3.sget hexec hown (wk W (.fieldLink "java/lang/String" 38 "java/lang/String" "COMPACT_STRINGS" "Z")) s1 (fun _ _ h => by rw [hh3]; exact h) (g := (mkF m 27 #[.val (.ref a), .val (.ref b), .val (.int (Int32.ofNat o)), .val (.int (Int32.ofNat len)), .val .null, .unset] [])) rfl (hb hbytes d27)
  have hh5 := q5.trans hh3
  have c6 : Steps p.tables e below (s₁.setTop (entryFrame m #[.ref a, .ref b, .int (Int32.ofNat o), .int (Int32.ofNat len), .null] 6)) (T5.setTop (mkF m 30 #[.val (.ref a), .val (.ref b), .val (.int (Int32.ofNat o)), .val (.int (Int32.ofNat len)), .val .null, .unset] [.int z])) := c4.trans (st5 _ (Steps.refl _))
  have c7 : Steps p.tables e below (s₁.setTop (entryFrame m #[.ref a, .ref b, .int (Int32.ofNat o), .int (Int32.ofNat len), .null] 6)) (T5.setTop (mkF m 36 #[.val (.ref a), .val (.ref b), .val (.int (Int32.ofNat o)), .val (.int (Int32.ofNat len)), .val .null, .unset] [.int (Int32.ofNat len), .int (Int32.ofNat o), .ref b])) := c6.trans (by
    refine XS.ifNo X5.here hexec rfl (hb hbytes d30) rfl (i0_eq_f hz) ?_
    refine XS.aloadN X5.here hexec rfl (hb hbytes d33) rfl rfl ?_
    refine XS.iloadN X5.here hexec rfl (hb hbytes d34) rfl ?_
    refine XS.iloadN X5.here hexec rfl (hb hbytes d35) rfl ?_
    exact Steps.refl _)
  obtain ⟨v8, T8, X8, E8, g8⟩ := X5.callS hexec (Cmp3.law l b A o len) hown (wks W (staticW "java/lang/String" 177 Cmp3.yN)) (wk W Cmp3.tab) (W := 0) (Nat.le_of_ble_eq_true rfl) (Nat.le_of_ble_eq_true rfl) (Nat.le_refl _) (by show 0 + len ≤ len; omega) (g := (mkF m 36 #[.val (.ref a), .val (.ref b), .val (.int (Int32.ofNat o)), .val (.int (Int32.ofNat len)), .val .null, .unset] [.int (Int32.ofNat len), .int (Int32.ofNat o), .ref b])) rfl (by rw [hml]; rfl) c7 (argsL := [.ref b, .int (Int32.ofNat o), .int (Int32.ofNat len)]) (rest := []) rfl rfl (by show 2 * 0 + 0 ≤ _; decide) (hb hbytes d36) (⟨rfl, hA.mv X5.warmed.alike hh5, l1, l2, hp⟩)
  obtain ⟨e8, z8⟩ := E8
  obtain ⟨rfl, N, n1, n2, n3, n4, n5, n6⟩ := NewArr.mv _ T5 s _ _ hh5.symm (Vm.Alike.refl _) rfl e8
  rw [hh5] at z8
  have hB1 := hB.keep X8.warmed.alike (n6 _ _ hB.1)
  have hne : s.heap.size ≠ a := (Nat.ne_of_lt (Array.getElem?_eq_some_iff.mp hB.1).1).symm
  have c9 : Steps p.tables e below (s₁.setTop (entryFrame m #[.ref a, .ref b, .int (Int32.ofNat o), .int (Int32.ofNat len), .null] 6)) (T8.setTop (mkF m 39 #[.val (.ref a), .val (.ref b), .val (.int (Int32.ofNat o)), .val (.int (Int32.ofNat len)), .val .null, .unset] [.ref s.heap.size])) := g8
  have c10 : Steps p.tables e below (s₁.setTop (entryFrame m #[.ref a, .ref b, .int (Int32.ofNat o), .int (Int32.ofNat len), .null] 6)) (T8.setTop (mkF m 45 #[.val (.ref a), .val (.ref b), .val (.int (Int32.ofNat o)), .val (.int (Int32.ofNat len)), .val .null, .val (.ref s.heap.size)] [.int (Int32.ofNat N.slots.size), .ref s.heap.size, .ref a])) := by
    have hc : Steps p.tables e below (s₁.setTop (entryFrame m #[.ref a, .ref b, .int (Int32.ofNat o), .int (Int32.ofNat len), .null] 6)) (T8.setTop (mkF m 45 #[.val (.ref a), .val (.ref b), .val (.int (Int32.ofNat o)), .val (.int (Int32.ofNat len)), .val .null, .val (.ref s.heap.size)] [.int (Int32.ofNat len), .ref s.heap.size, .ref a])) := c9.trans (by
      refine XS.astore X8.here hexec rfl (hb hbytes d39) rfl rfl rfl ?_
      refine XS.aloadN X8.here hexec rfl (hb hbytes d41) rfl rfl ?_
      refine XS.aload X8.here hexec rfl (hb hbytes d42) rfl rfl ?_
      refine XS.iloadN X8.here hexec rfl (hb hbytes d44) rfl ?_
      exact Steps.refl _)
    rw [n4]; exact hc
  obtain ⟨v11, T11, X11, E11, g11⟩ := X8.callS hexec (CodL.law l s.heap.size N) hown (wks W (staticW "java/lang/String" 47 CodL.yN)) (wk W CodL.tab) (W := 1) (Nat.le_of_ble_eq_true rfl) (Nat.le_of_ble_eq_true rfl) (Nat.le_refl _) (by show 0 + len + 0 ≤ len; omega) (g := (mkF m 45 #[.val (.ref a), .val (.ref b), .val (.int (Int32.ofNat o)), .val (.int (Int32.ofNat len)), .val .null, .val (.ref s.heap.size)] [.int (Int32.ofNat N.slots.size), .ref s.heap.size, .ref a])) rfl (by rw [hml]; rfl) c10 (argsL := [.ref s.heap.size, .int (Int32.ofNat N.slots.size)]) (rest := [.ref a]) rfl rfl (by show 2 * 0 + (1 + 0) ≤ _; decide) (hb hbytes d45) (⟨rfl, n1⟩)
  obtain ⟨rfl, q11⟩ := E11
  have hB11 := hB1.mv (X8.warmed.alike.symm.trans X11.warmed.alike) q11
  have c12 : Steps p.tables e below (s₁.setTop (entryFrame m #[.ref a, .ref b, .int (Int32.ofNat o), .int (Int32.ofNat len), .null] 6)) (T11.setTop (mkF m 48 #[.val (.ref a), .val (.ref b), .val (.int (Int32.ofNat o)), .val (.int (Int32.ofNat len)), .val .null, .val (.ref s.heap.size)] [.int 0, .ref a])) := g11
  obtain ⟨T13, X13, p13, bl13, sl13, st13⟩ := X11.finit hexec hown (wk W (.fieldLink "java/lang/String" 15 "java/lang/String" "coder" "B")) (Or.inr ⟨_, (wk W (.laysFinal "java/lang/String" "java/lang/String" "coder" "B"))⟩) (Or.inl ⟨rfl, hnm⟩) f2 (Or.inl rfl) hB11 (t := .byte) (by decide +kernel) rfl (g := (mkF m 48 #[.val (.ref a), .val (.ref b), .val (.int (Int32.ofNat o)), .val (.int (Int32.ofNat len)), .val .null, .val (.ref s.heap.size)] [.int 0, .ref a])) rfl (rest := []) rfl (hb hbytes d48)
  have c14 : Steps p.tables e below (s₁.setTop (entryFrame m #[.ref a, .ref b, .int (Int32.ofNat o), .int (Int32.ofNat len), .null] 6)) (T13.setTop (mkF m 54 #[.val (.ref a), .val (.ref b), .val (.int (Int32.ofNat o)), .val (.int (Int32.ofNat len)), .val .null, .val (.ref s.heap.size)] [.ref s.heap.size, .ref a])) := (c12.trans (st13 _ (Steps.refl _))).trans (by
    refine XS.aloadN X13.here hexec rfl (hb hbytes d51) rfl rfl ?_
    refine XS.aload X13.here hexec rfl (hb hbytes d52) rfl rfl ?_
    exact Steps.refl _)
  obtain ⟨T15, X15, p15, bl15, sl15, st15⟩ := X13.finit hexec hown (wk W (.fieldLink "java/lang/String" 9 "java/lang/String" "value" "[B")) (Or.inr ⟨_, (wk W (.laysFinal "java/lang/String" "java/lang/String" "value" "[B"))⟩) (Or.inl ⟨rfl, hnm⟩) f1 (Or.inl rfl) bl13 (t := (.array .byte)) (by decide +kernel) rfl (g := (mkF m 54 #[.val (.ref a), .val (.ref b), .val (.int (Int32.ofNat o)), .val (.int (Int32.ofNat len)), .val .null, .val (.ref s.heap.size)] [.ref s.heap.size, .ref a])) rfl (rest := []) rfl (hb hbytes d54)
  have c16 : Steps p.tables e below (s₁.setTop (entryFrame m #[.ref a, .ref b, .int (Int32.ofNat o), .int (Int32.ofNat len), .null] 6)) (T15.setTop (mkF m 57 #[.val (.ref a), .val (.ref b), .val (.int (Int32.ofNat o)), .val (.int (Int32.ofNat len)), .val .null, .val (.ref s.heap.size)] [])) := c14.trans (st15 _ (Steps.refl _))
  have ap := apart (Or.inr ⟨_, (wk W (.laysFinal "java/lang/String" "java/lang/String" "value" "[B"))⟩) (Or.inr ⟨_, (wk W (.laysFinal "java/lang/String" "java/lang/String" "coder" "B"))⟩) f1 f2 (t₁ := .array .byte) (t₂ := .byte) (by decide +kernel) (by decide +kernel) (by decide)
  have al := X8.warmed.alike.symm.trans X15.warmed.alike
  have n7 : T11.heap[s.heap.size]? = some N := by rw [q11]; exact n1.1
  exact ⟨T15, none, _, _, _, X15, by simp, rfl, by omega, (fun _ => rfl), ⟨rfl, _, N, bl15, ((Same.refl D _).set _ (by simp)).set _ (by simp), sl15, (Cell.slots_setSlot_ne _ ap).trans sl13, n1.keep al (p15.other hne (p13.other hne n7)), n2, by rw [al.findClass]; exact n3, n4, n5, fun y c h1 h2 => p15.other h1 (p13.other h1 (by rw [q11]; exact n6 y c h2)), by rw [p15.2.2, p13.2.2, q11]; exact z8⟩, fun fs hl => c16.trans (X15.returnOut hexec hret (hb hbytes d57) hl)⟩
end New4
namespace New1
def yN : MethodName := ⟨"java/lang/String", "<init>", "([C)V"⟩
abbrev yB : ByteArray := jdk_42_method_3_code
theorem d0 : decode yB 0 = .ok (.aload_n 0, 1) := by decide +kernel
theorem d1 : decode yB 1 = .ok (.aload_n 1, 1) := by decide +kernel
theorem d2 : decode yB 2 = .ok (.iconst 0, 1) := by decide +kernel
theorem d3 : decode yB 3 = .ok (.aload_n 1, 1) := by decide +kernel
theorem d4 : decode yB 4 = .ok (.arraylength, 1) := by decide +kernel
theorem d5 : decode yB 5 = .ok (.aconst_null, 1) := by decide +kernel
theorem d6 : decode yB 6 = .ok (.invokespecial 27, 3) := by decide +kernel
theorem d9 : decode yB 9 = .ok (.return_, 1) := by decide +kernel
def site : List Cond := [New4.tab] ++ initW "java/lang/String" 27 New4.yN
def tab : Cond := tabOf yN yB 2 none site
def P (a : Addr) (D : Cell) (fV fC : Field) (b : Addr) (A : Cell) (z : Int32) (args : Array Value) (s : State) : Prop := args = #[.ref a, .ref b] ∧ Blank "java/lang/String" a D s ∧ Found "java/lang/String" "value" "[B" fV s ∧ Found "java/lang/String" "coder" "B" fC s ∧ Ch b A s ∧ StaticIs s "java/lang/String" "COMPACT_STRINGS" "Z" (.int z) ∧ ¬ z = 0 ∧ 0 < A.slots.size ∧ A.slots.size ≤ 536870912 ∧ ∀ i, i < A.slots.size → ¬ 255 < cv A i
def E (a : Addr) (D : Cell) (fV fC : Field) (A : Cell) (r : Option Value) (s u : State) : Prop := Got a D fV fC A 0 A.slots.size r s u
/-- new String(chars), not empty, no char above 255: a Latin-1 String of their low bytes -/
theorem law (l : Launch) (a : Addr) (D : Cell) (fV fC : Field) (b : Addr) (A : Cell) (z : Int32) : Law l yN 2 1 3 52 yB 2 none site (P a D fV fC b A z) (E a D fV fC A) [⟨a, fC.slot⟩, ⟨a, fV.slot⟩] 1 A.slots.size := by
  refine Law.of_walk (plainFor_of_name (by decide +kernel)) (by decide +kernel) (by decide +kernel) (by decide) (fun _ _ h => by rw [h.1]; rfl) (fun _ U U' hal hh h => ⟨h.1, h.2.1.mv hal hh, h.2.2.1.al hal, h.2.2.2.1.al hal, h.2.2.2.2.1.mv hal hh, h.2.2.2.2.2.1.there hal hh, h.2.2.2.2.2.2⟩) (fun r U U' V V' h1 hal h2 h => Got.mv r U U' V V' h1 hal h2 h) ?_
  intro p e s m args below meth c s₁ X0 hexec hbytes hml hret hlk hnm hown hh0 W hP
  obtain ⟨rfl, hB, f1, f2, hA, s1, hz, l0, l2, hp⟩ := hP
  have c1 : Steps p.tables e below (s₁.setTop (entryFrame m #[.ref a, .ref b] 2)) (s₁.setTop (mkF m 0 #[.val (.ref a), .val (.ref b)] [])) := entry rfl
  have c2 : Steps p.tables e below (s₁.setTop (entryFrame m #[.ref a, .ref b] 2)) (s₁.setTop (mkF m 6 #[.val (.ref a), .val (.ref b)] [.null, .int (Int32.ofNat A.slots.size), .int 0, .ref b, .ref a])) := c1.trans (by
    refine XS.aloadN X0.here hexec rfl (hb hbytes d0) rfl rfl ?_
    refine XS.aloadN X0.here hexec rfl (hb hbytes d1) rfl rfl ?_
    refine iconstV X0.here hexec rfl 0 (hb hbytes d2) (by decide) ?_
    refine XS.aloadN X0.here hexec rfl (hb hbytes d3) rfl rfl ?_
    refine X0.alen hexec (hA.1.mv X0.warmed.alike hh0) rfl rfl (hb hbytes d4) ?_
    refine XS.aconstNull X0.here hexec rfl (hb hbytes d5) ?_
    exact Steps.refl _)
  obtain ⟨v3, T3, X3, E3, g3⟩ := X0.callN hexec (New4.law l a D fV fC b A z 0 A.slots.size) rfl hown (wks W (initW "java/lang/String" 27 New4.yN)) (W New4.tab (by simp only [site, List.mem_cons, List.mem_append, true_or, or_true])) (W := 0) (Nat.le_of_ble_eq_true rfl) (Nat.le_of_ble_eq_true rfl) (Nat.le_refl _) (by show 0 + A.slots.size ≤ A.slots.size; omega) (g := (mkF m 6 #[.val (.ref a), .val (.ref b)] [.null, .int (Int32.ofNat A.slots.size), .int (Int32.ofNat 0), .ref b, .ref a])) rfl (by rw [hml]; rfl) c2 (argsL := [.ref b, .int (Int32.ofNat 0), .int (Int32.ofNat A.slots.size), .null]) (rest := []) rfl rfl (by show 2 * 0 + 0 ≤ _; decide) (hb hbytes d6) (⟨rfl, hB.mv X0.warmed.alike hh0, f1.al X0.warmed.alike, f2.al X0.warmed.alike, hA.mv X0.warmed.alike hh0, s1.there X0.warmed.alike hh0, hz, l0, by omega, l2, fun i hi => by rw [Nat.zero_add]; exact hp i hi⟩)
  have e0 := Got.mv _ s₁ s _ _ hh0.symm (Vm.Alike.refl _) rfl E3
  obtain rfl := e0.1
  have c4 : Steps p.tables e below (s₁.setTop (entryFrame m #[.ref a, .ref b] 2)) (T3.setTop (mkF m 9 #[.val (.ref a), .val (.ref b)] [])) := g3
  exact ⟨T3, none, _, _, _, X3, by simp, rfl, by omega, (fun _ => rfl), e0, fun fs hl => c4.trans (X3.returnOut hexec hret (hb hbytes d9) hl)⟩
theorem pays {l : Launch} {R : Room} {p : Program} {e : Env} {below : List Frame} {s : State} {sargs : Array Value} {len W : Nat} (a : Addr) (D : Cell) (fV fC : Field) (b : Addr) (A : Cell) (z : Int32) (htab : tab.before sargs s = true) (hfr : 4 ≤ R.frames) (hlo : W + 65 ≤ R.locals) :
    Back l R p e below s sargs yN len W (fun A₁ a₁ => A₁.cells + 1 ≤ R.cells ∧ A₁.slots + A.slots.size ≤ R.slots ∧ P a D fV fC b A z a₁ A₁.U) (fun A₁ _ v₁ B₁ => E a D fV fC A v₁ A₁.U B₁.U ∧ B₁.locs = A₁.locs ++ [⟨a, fC.slot⟩, ⟨a, fV.slot⟩] ∧ B₁.cells = A₁.cells + 1 ∧ B₁.slots = A₁.slots + A.slots.size) :=
  (law l a D fV fC b A z).pays htab hfr (by omega)
end New1
end StrChars
namespace StrChars.Road
open Jvm Sem ClassFile Op Lib Jvm.Stand Jvm.Free Jvm.Free.XT
open Jvm.Lib.Cold (StaticIs)
abbrev ST : String := "java/lang/String"
/-- every table word that New1's law asks, flat -/
abbrev words : List Jvm.Cond := [.code New1.yN New1.yB 2 none, .initialized ST, .methodLink ST 27 New4.yN, .instanceMethod New4.yN,
  .code New4.yN New4.yB 6 none, .fieldLink ST 38 ST "COMPACT_STRINGS" "Z", .laysFinal ST ST "value" "[B", .fieldLink ST 9 ST "value" "[B", .laysFinal ST ST "coder" "B", .fieldLink ST 15 ST "coder" "B",
  .methodLink ST 1 Lib.objectInit, .instanceMethod Lib.objectInit, .code Lib.objectInit ⟨#[0xb1]⟩ 1 none, .methodLink ST 177 Cmp3.yN, .static Cmp3.yN, .methodLink ST 47 CodL.yN, .static CodL.yN,
  .code Cmp3.yN Cmp3.yB 6 (some (.array .byte)), .initialized U16, .arrayClass .byte, .methodLink U16 115 Cmp5.yN, .static Cmp5.yN, .code Cmp5.yN Cmp5.yB 7 (some .int), .code CodL.yN CodL.yB 2 (some .byte)]
theorem tab_of {a : Array Value} {s : State} (h : ∀ w ∈ words, w.before a s = true) : New1.tab.before a s = true := by
  have h5 : Cmp5.tab.before a s = true := unparts (wk h (.code Cmp5.yN Cmp5.yB 7 (some .int))) (wks h (.initialized Cmp5.yN.cls :: Cmp5.site))
  have hc : CodL.tab.before a s = true := unparts (wk h (.code CodL.yN CodL.yB 2 (some .byte))) (wks h (.initialized CodL.yN.cls :: CodL.site))
  have q5 : ∀ w ∈ Cmp5.tab :: words, w.before a s = true := fun w hw => (List.mem_cons.mp hw).elim (fun e => e ▸ h5) (h w)
  have h3 : Cmp3.tab.before a s = true := unparts (wk q5 (.code Cmp3.yN Cmp3.yB 6 (some (.array .byte)))) (wks q5 (.initialized Cmp3.yN.cls :: Cmp3.site))
  have q3 : ∀ w ∈ Cmp3.tab :: CodL.tab :: words, w.before a s = true := fun w hw => (List.mem_cons.mp hw).elim (fun e => e ▸ h3) fun hw => (List.mem_cons.mp hw).elim (fun e => e ▸ hc) (h w)
  have h4 : New4.tab.before a s = true := unparts (wk q3 (.code New4.yN New4.yB 6 none)) (wks q3 (.initialized New4.yN.cls :: New4.site))
  have q4 : ∀ w ∈ New4.tab :: words, w.before a s = true := fun w hw => (List.mem_cons.mp hw).elim (fun e => e ▸ h4) (h w)
  exact unparts (wk q4 (.code New1.yN New1.yB 2 none)) (wks q4 (.initialized New1.yN.cls :: New1.site))
/-- the words ride from the start Z to the walk's own state -/
theorem moved {Z s : State} {a0 args : Array Value} (hZ : Z.Warmed39 s.vm) (hw : ∀ d ∈ words, d.before a0 Z = true) : ∀ d ∈ words, d.before args s = true := fun d hd => by
  have q := hw d hd
  have t : ∀ d ∈ words, d = .arrayClass .byte ∨ (d.onTables && d.keepsFace) = true := by decide +kernel
  rcases t d hd with rfl | t
  · exact RoadKit.mvA hZ q
  · exact RoadKit.mv hZ q t
/-- WHAT COMES BACK, over the tables of the start Z: h the heap at the call, h' behind it -/
def Q (Z : State) (x : Addr) (A : Cell) (h : Heap) (v : Option Value) (h' : Heap) (L : List Loc) : Prop := v = none ∧ (∀ y ∈ L, y.base = x) ∧ RoadKit.Keep h h' [x] ∧ h'.size = h.size + 1 ∧ RoadKit.Exa Z h' x ST ∧ RoadKit.Fld Z h' x ST "value" "[B" (.ref h.size) ∧ RoadKit.Fld Z h' x ST "coder" "B" (.int 0) ∧
  (∃ V : Cell, RoadKit.Arr Z h' h.size V .byte ∧ V.vm = .none ∧ Z.vm.findClass "[B" = some V.cls ∧ V.slots.size = A.slots.size ∧ ∀ j, j < A.slots.size → V.slots[j]? = some (.int (lo8 (cv A j)))) ∧
  ∀ (O n d : String) (w : Value), RoadKit.Fld Z h x O n d w → RoadKit.slotOf Z O n d ≠ RoadKit.slotOf Z ST "value" "[B" → RoadKit.slotOf Z O n d ≠ RoadKit.slotOf Z ST "coder" "B" → RoadKit.Fld Z h' x O n d w
/-- **new String(chars) AT A CALL, IN THE ROAD'S FORM**: for specialBack behind newO: x the fresh String, b the char[] with the cell A -/
theorem back {p : Program} {l : Launch} {e : Env} {R : Room} {s : State} {args : Array Value} {below : List Frame} {len W : Nat} {Z : State} {a0 : Array Value} {h : Heap} (hZ : Z.Warmed39 s.vm) (hw : ∀ d ∈ words, d.before a0 Z = true) {kI : Nat} (wi : (Jvm.Cond.instantiable ST kI).before a0 Z = true)
    {x b : Addr} {A : Cell} {z : Int32} {v0 c0 : Value} (E : RoadKit.Exa Z h x ST) (V : RoadKit.Fld Z h x ST "value" "[B" v0) (C : RoadKit.Fld Z h x ST "coder" "B" c0) (K : RoadKit.Arr Z h b A .char) (hty : Typed .char A) (S : RoadKit.Sta Z h ST "COMPACT_STRINGS" "Z" (.int z)) (hz : ¬ z = 0)
    (l0 : 0 < A.slots.size) (l2 : A.slots.size ≤ 536870912) (hp : ∀ i, i < A.slots.size → ¬ 255 < cv A i) (hfr : 4 ≤ R.frames) (hlo : W + 65 ≤ R.locals) :
    Back l R p e below s args New1.yN len W (fun P a => a = #[.ref x, .ref b] ∧ P.U.heap = h ∧ P.cells + 1 ≤ R.cells ∧ P.slots + A.slots.size ≤ R.slots)
      (fun P _ v B => ∃ L, Q Z x A h v B.U.heap L ∧ B.locs = P.locs ++ L ∧ B.cells = P.cells + 1 ∧ B.slots = P.slots + A.slots.size) := by
  intro m meth c P g ig mk a X hg hsize hdg hW hn hp'
  obtain ⟨rfl, rfl, r1, r2⟩ := hp'
  have al : Z.vm.Alike P.U.vm := hZ.alike.trans X.warmed.alike
  obtain ⟨D, cfV, kV, iV, fV, hD, gV, stV, knV, obV, asV, slV⟩ := id V
  obtain ⟨D', cfC, kC, iC, fC, hD', gC, stC, -, -, asC, slC⟩ := id C
  cases hD.symm.trans hD'
  obtain ⟨D2, kD, e1, e2, e3, e4, e5⟩ := id E
  cases hD.symm.trans e1
  obtain ⟨c2, k2, i1, i2, i3, -⟩ := Cond.instantiable_spec wi
  cases e2.symm.trans i1
  cases e3.symm.trans i2
  obtain ⟨kU, u1, u2⟩ := al.2.2 _ _ e3
  have hB : Blank ST x D P.U := ⟨hD, ⟨knV, fun q hq => by rw [hq] at obV; cases obV⟩, by rw [al.findClass]; exact e2, kU, u1, by rw [u2]; exact i3, by rw [u2]; exact e5 i3⟩
  have F1 : Found ST "value" "[B" fV P.U := ⟨SBG.found_only al ⟨cfV, kV, iV, gV⟩, stV⟩
  have F2 : Found ST "coder" "B" fC P.U := ⟨SBG.found_only al ⟨cfC, kC, iC, gC⟩, stC⟩
  have hA : Ch b A P.U := ⟨⟨K.1, State.isArrayOf_alike al K.2.1, K.2.2, by omega⟩, hty⟩
  have hS : StaticIs P.U ST "COMPACT_STRINGS" "Z" (.int z) := by
    obtain ⟨cfS, iS, kS, fS, st, cS, t1, t2, t3, t4, t5, t6, t7⟩ := S
    exact StaticIs.there (s := { Z with heap := P.U.heap }) ⟨cfS, iS, kS, fS, st, cS, t1, t2, t3, t4, t5, (fun q => by rw [q] at t6; cases t6), t7⟩ al rfl
  obtain ⟨v, B, X', ⟨⟨hv, E', V', q1, q2, q3, q4, q5, q6, q7, q8, q9, q10, q11⟩, hl, hc, hs⟩, st⟩ := New1.pays x D fV fC b A z (tab_of (moved hZ hw)) hfr hlo m meth c P g ig mk _ X hg hsize hdg hW hn ⟨r1, r2, rfl, hB, F1, F2, hA, hS, hz, l0, l2, hp⟩
  have al' : Z.vm.Alike B.U.vm := hZ.alike.trans X'.warmed.alike
  have hsz : E'.slots.size = D.slots.size := by
    obtain ⟨-, -, -, kB, w1, w2, w3⟩ := q1
    obtain ⟨kB', y1, y2⟩ := al'.2.2 _ _ e3
    rw [q2.2.1] at w1
    cases w1.symm.trans y1
    rw [w3, e5 i3, y2]
  refine ⟨v, B, X', ⟨_, ⟨hv, ?_, ⟨by omega, fun y cy hy hn' => q10 y cy (by simpa using hn') hy, fun y cy hy => ?_⟩, q11, ⟨E', _, q1.1, by rw [q2.2.1]; exact e2, by rw [q2.2.1]; exact e3, by rw [q2.1]; exact obV, fun _ => by rw [hsz]; exact e5 i3⟩,
    ⟨E', cfV, kV, iV, fV, q1.1, gV, stV, by rw [q2.1]; exact knV, by rw [q2.1]; exact obV, by rw [q2.2.1]; exact asV, q3⟩, ⟨E', cfC, kC, iC, fC, q1.1, gC, stC, by rw [q2.1]; exact knV, by rw [q2.1]; exact obV, by rw [q2.2.1]; exact asC, q4⟩,
    ⟨V', ⟨q5.1, State.isArrayOf_alike al'.symm q5.2.1, q5.2.2.1⟩, q6, by rw [← al'.findClass]; exact q7, q8, fun j hj => by have := q9 j hj; rwa [Nat.zero_add] at this⟩, fun O n d w F n1 n2 => ?_⟩, hl, hc, hs⟩, st⟩
  · intro y hy
    simp only [List.mem_cons, List.not_mem_nil, or_false] at hy
    rcases hy with rfl | rfl <;> rfl
  · by_cases q : y = x
    · subst q
      cases hD.symm.trans hy
      exact ⟨E', q1.1, q2.2.1, q2.1, hsz⟩
    · exact ⟨cy, q10 y cy q hy, rfl, rfl, rfl⟩
  · obtain ⟨D3, cf, k, i, f, g1, g2, g3, g4, g5, g6, g7⟩ := F
    cases hD.symm.trans g1
    simp only [RoadKit.slotOf, g2, gV, gC, Option.map_some, Option.getD_some] at n1 n2
    exact ⟨E', cf, k, i, f, q1.1, g2, g3, by rw [q2.1]; exact g4, by rw [q2.1]; exact g5, by rw [q2.2.1]; exact g6, by rw [q2.2.2 f.slot (by simp [n1, n2])]; exact g7⟩
end StrChars.Road
namespace StrChars.Road
open Jvm Sem ClassFile Op Lib Jvm.Stand Jvm.Free Jvm.Free.XT
/-- WHAT COMES BACK, the byte[] as a list of values -/
def QA (Z : State) (x : Addr) (zn : Int32) (cs : List Int32) (h : Heap) (v : Option Value) (h' : Heap) (L : List Loc) : Prop := v = none ∧ (∀ y ∈ L, y.base = x) ∧ RoadKit.Keep h h' [x] ∧ h'.size = h.size + 1 ∧ RoadKit.Exa Z h' x ST ∧ RoadKit.Fld Z h' x ST "value" "[B" (.ref h.size) ∧ RoadKit.Fld Z h' x ST "coder" "B" (.int 0) ∧
  (∃ kb, Z.vm.findClass "[B" = some kb ∧ RoadKit.Arv Z h' h.size kb .byte zn (cs.map fun c => .int (lo8 c)) (.int 0)) ∧
  ∀ (O n d : String) (w : Value), RoadKit.Fld Z h x O n d w → RoadKit.slotOf Z O n d ≠ RoadKit.slotOf Z ST "value" "[B" → RoadKit.slotOf Z O n d ≠ RoadKit.slotOf Z ST "coder" "B" → RoadKit.Fld Z h' x O n d w
/-- **new String(chars) AT A CALL, THE ARRAYS AS LISTS**: the char[] at b holds cs, not empty, no char above 255 -/
theorem backArv {p : Program} {l : Launch} {e : Env} {R : Room} {s : State} {args : Array Value} {below : List Frame} {len W : Nat} {Z : State} {a0 : Array Value} {h : Heap} (hZ : Z.Warmed39 s.vm) (hw : ∀ d ∈ words, d.before a0 Z = true) {kI : Nat} (wi : (Jvm.Cond.instantiable ST kI).before a0 Z = true)
    {x b : Addr} {k : ClassId} {zn z : Int32} {cs : List Int32} {dv v0 c0 : Value} (E : RoadKit.Exa Z h x ST) (V : RoadKit.Fld Z h x ST "value" "[B" v0) (C : RoadKit.Fld Z h x ST "coder" "B" c0) (K : RoadKit.Arv Z h b k .char zn (cs.map Value.int) dv) (S : RoadKit.Sta Z h ST "COMPACT_STRINGS" "Z" (.int z)) (hz : ¬ z = 0)
    (hlen : zn.toNatClampNeg = cs.length) (h0 : 0 < cs.length) (hbig : cs.length ≤ 536870912) (hall : ∀ c ∈ cs, ¬ 255 < c) (hfr : 4 ≤ R.frames) (hlo : W + 65 ≤ R.locals) :
    Back l R p e below s args New1.yN len W (fun P a => a = #[.ref x, .ref b] ∧ P.U.heap = h ∧ P.cells + 1 ≤ R.cells ∧ P.slots + cs.length ≤ R.slots)
      (fun P _ v B => ∃ L, QA Z x zn cs h v B.U.heap L ∧ B.locs = P.locs ++ L ∧ B.cells = P.cells + 1 ∧ B.slots = P.slots + cs.length) := by
  obtain ⟨A, K1, K2, K3, K4, K5, K6⟩ := K
  have e : A.slots.size = cs.length := K3.trans hlen
  have hat : ∀ (i : Nat) (hi : i < cs.length), A.slots[i]? = some (.int cs[i]) := fun i hi => by rw [K5 i (by omega)]; simp [List.getD_eq_getElem?_getD, hi]
  have hcv : ∀ (i : Nat) (hi : i < cs.length), cv A i = cs[i] := fun i hi => by unfold cv; rw [hat i hi]
  have hty : Typed .char A := fun i v hv => by
    have hi : i < A.slots.size := (Array.getElem?_eq_some_iff.mp hv).1
    have q := K5 i hi
    rw [hv] at q
    rw [Option.some.inj q]
    exact K6 i hi
  refine Back.mono (back hZ hw wi E V C K1 hty S hz (by omega) (by omega) (fun i hi => by rw [hcv i (by omega)]; exact hall _ (List.getElem_mem _)) hfr hlo) (fun P a hp => ⟨hp.1, hp.2.1, hp.2.2.1, by rw [e]; exact hp.2.2.2⟩) (fun P a v B hp hq => ?_)
  obtain ⟨L, ⟨q1, q2, q3, q4, q5, q6, q7, ⟨V', v1, v2, v3, v4, v5⟩, q9⟩, hl, hc, hs⟩ := hq
  refine ⟨L, ⟨q1, q2, q3, q4, q5, q6, q7, ⟨V'.cls, v3, V', v1, rfl, by rw [v4, e, hlen], K4, fun i hi => ?_, fun i hi => ?_⟩, q9⟩, hl, hc, by rw [hs, e]⟩
  · have hi' : i < cs.length := by omega
    rw [v5 i (by omega), hcv i hi']; simp [List.getD_eq_getElem?_getD, hi']
  · have hi' : i < cs.length := by omega
    simp only [List.getD_eq_getElem?_getD, List.getElem?_map, List.getElem?_eq_getElem hi', Option.map_some, Option.getD_some]
    exact fits_lo8 _
end StrChars.Road
namespace StrChars.Road
open Jvm Sem ClassFile Op Lib Jvm.Stand Jvm.Free Jvm.Free.XT
/-- WHAT COMES BACK, in the writer's own shape -/
def QV (Z : State) (x : Addr) (N : Int32) (bs : List Int32) (h : Heap) (n0 : Nat) (v : Option Value) (h' : Heap) (L : List Loc) : Prop := v = none ∧ RoadKit.Fr n0 L ∧ RoadKit.Keep h h' [x] ∧ RoadKit.Exa Z h' x ST ∧ RoadKit.Fld Z h' x ST "coder" "B" (.int 0) ∧
  ∃ (t : Addr) (kb : ClassId), n0 ≤ t ∧ h.size ≤ t ∧ ¬ t = x ∧ RoadKit.Fld Z h' x ST "value" "[B" (.ref t) ∧ RoadKit.Arv Z h' t kb .byte N (bs.map Value.int) (.int 0)
/-- **new String(chars) AT A CALL, FOR THE WRITER**: a char[] of n known ints, each 0 to 255 -/
theorem backV {p : Program} {l : Launch} {e : Env} {R : Room} {s : State} {args : Array Value} {below : List Frame} {len W : Nat} {Z : State} {a0 : Array Value} {h : Heap} (hZ : Z.Warmed39 s.vm) (hw : ∀ d ∈ words, d.before a0 Z = true) {kI : Nat} (wi : (Jvm.Cond.instantiable ST kI).before a0 Z = true)
    {x b : Addr} {kC : ClassId} {cs bs : List Int32} {d v0 c0 : Value} {z N : Int32} {n n0 : Nat} (hx0 : n0 ≤ x) (hh0 : n0 ≤ h.size) (E : RoadKit.Exa Z h x ST) (V : RoadKit.Fld Z h x ST "value" "[B" v0) (C : RoadKit.Fld Z h x ST "coder" "B" c0) (K : RoadKit.Arv Z h b kC .char N (cs.map Value.int) d) (S : RoadKit.Sta Z h ST "COMPACT_STRINGS" "Z" (.int z)) (hz : ¬ z = 0)
    (hn : cs.length = n) (hN : N = Int32.ofNat n) (l0 : 0 < n) (l2 : n ≤ 4000) (hp : ∀ c ∈ cs, ¬ c < 0 ∧ ¬ (255 : Int32) < c) (hb : bs = cs.map (fun c => c.toInt8.toInt32)) (hfr : 4 ≤ R.frames) (hlo : W + 65 ≤ R.locals) :
    Back l R p e below s args (⟨"java/lang/String", "<init>", "([C)V"⟩ : MethodName) len W (fun P a => a = #[.ref x, .ref b] ∧ P.U.heap = h ∧ P.cells + 1 ≤ R.cells ∧ P.slots + n ≤ R.slots)
      (fun P _ v B => ∃ L, QV Z x N bs h n0 v B.U.heap L ∧ B.locs = P.locs ++ L ∧ B.cells = P.cells + 1 ∧ B.slots = P.slots + n) := by
  subst hn hN hb
  refine Back.mono (backArv hZ hw wi E V C K S hz (n32 (by omega)) l0 (by omega) (fun c hc => (hp c hc).2) hfr hlo) (fun P a hp => hp) (fun P a v B hp hq => ?_)
  obtain ⟨L, ⟨q1, q2, q3, q4, q5, q6, q7, ⟨kb, v1, v2⟩, q9⟩, hl, hc, hs⟩ := hq
  exact ⟨L, ⟨q1, fun y hy => by rw [q2 y hy]; exact hx0, q3, q5, q7, h.size, kb, hh0, Nat.le_refl _, Nat.ne_of_gt E.lt, q6, by rw [List.map_map]; exact v2⟩, hl, hc, hs⟩
end StrChars.Road
end Jvm.Pilot.@@N@@

namespace Jvm.Pilot.@@N@@
open Jvm Jvm.ClassFile Sem Op Lib Jvm.Free Jvm.Stand Jvm.LawKit Jvm.RoadKit Bundle Jvm.Pilot.@@N@@.Jvm.D
theorem own_and255 (x : Int32) : ∃ k : Fin 256, x &&& 255 = Int32.ofNat k.val := by
  have h : (x &&& 255).toBitVec.toNat < 256 := by
    simp only [Int32.toBitVec_and, BitVec.toNat_and]
    exact Nat.lt_succ_of_le Nat.and_le_right
  refine ⟨⟨_, h⟩, ?_⟩
  apply Int32.toBitVec_inj.mp
  show _ = BitVec.ofNat 32 _
  rw [BitVec.ofNat_toNat]; simp
theorem own_lat (x : Int32) : ¬ (((x &&& (255 : Int32))).toUInt32.toUInt16.toUInt32.toInt32) < 0 ∧ ¬ (255 : Int32) < (((x &&& (255 : Int32))).toUInt32.toUInt16.toUInt32.toInt32) := by
  obtain ⟨k, e⟩ := own_and255 x
  have t : ∀ k : Fin 256, ¬ ((Int32.ofNat k.val).toUInt32.toUInt16.toUInt32.toInt32) < 0 ∧ ¬ (255 : Int32) < ((Int32.ofNat k.val).toUInt32.toUInt16.toUInt32.toInt32) := by decide +kernel
  rw [e]; exact t k
theorem own_lat7 (x : Int32) : ¬ (((x &&& (127 : Int32))).toUInt32.toUInt16.toUInt32.toInt32) < 0 ∧ ¬ (255 : Int32) < (((x &&& (127 : Int32))).toUInt32.toUInt16.toUInt32.toInt32) := by
  have e : x &&& (127 : Int32) = (x &&& (127 : Int32)) &&& 255 := by rw [Int32.and_assoc]; rfl
  rw [e]; exact own_lat _
theorem own_nar_i2c (x : Int32) : nar .char (x.toUInt32.toUInt16.toUInt32.toInt32) = x.toUInt32.toUInt16.toUInt32.toInt32 := by simp only [nar, UInt32.toUInt32_toInt32, UInt16.toUInt16_toUInt32]
theorem own_nar_i2b (x : Int32) : nar .byte (x.toInt8.toInt32) = x.toInt8.toInt32 := by simp [nar]
theorem own_nar_lat {x : Int32} (h : ¬ x < 0 ∧ ¬ (255 : Int32) < x) : nar .char x = x := by
  have e0 : (0 : Int32).toInt = 0 := rfl
  have e1 : (255 : Int32).toInt = 255 := rfl
  have h1 := h.1
  have h2 := h.2
  rw [Int32.lt_iff_toInt_lt, e0] at h1
  rw [Int32.lt_iff_toInt_lt, e1] at h2
  have e : x = Int32.ofNat x.toInt.toNat := by
    apply Int32.toInt_inj.mp
    rw [Int32.toInt_ofNat_small (by omega)]; omega
  have t : ∀ k : Fin 256, nar .char (Int32.ofNat k.val) = Int32.ofNat k.val := by decide +kernel
  rw [e]; exact t ⟨x.toInt.toNat, by omega⟩
theorem own_up (cs : List Int32) (h : ∀ c ∈ cs, ¬ c < 0 ∧ ¬ (255 : Int32) < c) : ∀ c ∈ cs, ¬ c < 0 ∧ ¬ (65535 : Int32) < c := fun c hc => ⟨(h c hc).1, fun q => (h c hc).2 (by rw [Int32.lt_iff_toInt_lt] at q ⊢; have e1 : (65535 : Int32).toInt = 65535 := rfl; have e2 : (255 : Int32).toInt = 255 := rfl; omega)⟩
theorem own_and3 (x : Int32) : x &&& (3 : Int32) = 0 ∨ x &&& (3 : Int32) = 1 ∨ x &&& (3 : Int32) = 2 ∨ x &&& (3 : Int32) = 3 := by
  have h : (x &&& 3).toBitVec.toNat < 4 := by
    simp only [Int32.toBitVec_and, BitVec.toNat_and]
    exact Nat.lt_succ_of_le Nat.and_le_right
  have e : x &&& 3 = Int32.ofNat (x &&& 3).toBitVec.toNat := by
    apply Int32.toBitVec_inj.mp
    show _ = BitVec.ofNat 32 _
    rw [BitVec.ofNat_toNat]; simp
  rw [e]
  generalize (x &&& 3).toBitVec.toNat = n at h
  have : n = 0 ∨ n = 1 ∨ n = 2 ∨ n = 3 := by omega
  rcases this with rfl | rfl | rfl | rfl <;> simp
theorem own_three3 {x : Int32} (h0 : ¬ (x &&& (3 : Int32)) = (0 : Int32)) (h1 : ¬ (x &&& (3 : Int32)) = (1 : Int32)) (h2 : ¬ (x &&& (3 : Int32)) = (2 : Int32)) : (x &&& (3 : Int32)) = (3 : Int32) := by
  rcases own_and3 x with h | h | h | h
  · exact absurd h h0
  · exact absurd h h1
  · exact absurd h h2
  · exact h
theorem own_nf {s : State} {args : Array Value} {y x z : MethodName} {C : String} (h : (Cond.selects C x z).before args s = true) (e : z.cls = y.cls) : NotFace s y := fun r0 h0 => by
  obtain ⟨c2, r2, m2, q1, q2, q3, q4, kP, hkP, hkPi⟩ := Cond.selects_spec h
  have h1 := findClass_of_methodNamed q3
  have h2 := findClass_of_methodNamed h0
  rw [e] at h1
  have e2 : m2.cls = r0.cls := Option.some.inj (h1.symm.trans h2)
  exact ⟨kP, e2 ▸ hkP, hkPi⟩
theorem own_same {s : State} {args : Array Value} {y x z : MethodName} {C : String} (hi : (Cond.instanceMethod y).before args s = true) (h : (Cond.selects C x z).before args s = true) (e : z.cls = y.cls) (hy : y.cls ≠ "java/lang/invoke/MethodHandle" ∧ y.cls ≠ "java/lang/invoke/VarHandle") : (Cond.sameMethod y.cls y.cls y.name y.desc).before args s = true := by
  obtain ⟨mk, methM, hnamed, hmethM, -, -⟩ := Cond.instanceMethod_spec hi
  have hfound : s.methodFound? y.cls y.name y.desc = some mk := State.methodFound?_of_named hnamed hy
  obtain ⟨kr, k1, k2⟩ := own_nf (y := y) h e mk hnamed
  have hc := findClass_of_methodNamed hnamed
  have hn : s.methodNamed? ⟨y.cls, y.name, y.desc⟩ = some mk := hnamed
  simp [Cond.before, Cond.holds, Cond.value, hc, hfound, hn, k1, k2]
theorem own_ws {a0 : Array Value} {Z : State} (hw : ∀ d ∈ tables_1, d.before a0 Z = true) : ∀ d ∈ StrChars.Road.words, d.before a0 Z = true := fun d hd => hw d ((by decide +kernel : ∀ d ∈ StrChars.Road.words, d ∈ tables_1) d hd)
theorem own_wS {a0 : Array Value} {Z : State} (hw : ∀ d ∈ tables_1, d.before a0 Z = true) : ∀ d ∈ Bundle.stringAtoms, d.before a0 Z = true := fun d hd => hw d ((by decide +kernel : ∀ d ∈ Bundle.stringAtoms, d ∈ tables_1) d hd)
theorem own_safe_null {Z : State} {EL : List (String × Nat)} {vm : Vm} {h : Heap} {x : Addr} (hal : Z.vm.Alike vm) (E : Exa Z h x "java/lang/String") (F : Fld Z h x "java/lang/String" "value" "[B" .null) : Safe Z EL vm h x := fun B => by
  obtain ⟨cell, k, e1, e2, e3, -, -⟩ := E
  obtain ⟨cell', cf, k', i, f, f1, f2, f3, -, -, -, f7⟩ := F
  cases e1.symm.trans f1
  obtain ⟨p, -, u, a, -, q, -, G, rfl | rfl⟩ := B
  · cases (show h[q.sa]? = some q.sC from G.ha).symm.trans e1
    obtain ⟨cS, ⟨⟨s1, s2, s3, ⟨cv, kv, iv, s4, s4'⟩, -, s6, s7, s8, -⟩, -, -⟩, -⟩ := G
    obtain ⟨kv', z4⟩ := ff_back (U := Wst Z vm h) hal s4
    cases z4.symm.trans f2
    rw [s8] at f7
    cases f7
  · cases (show h[q.sd]? = some q.SA from G.hd).symm.trans e1
    obtain ⟨cS, -, -, hB, -⟩ := G
    have hB : vm.findClass "[B" = some q.SA.cls := hB
    rw [hal.findClass] at hB
    obtain ⟨k1, q1, q2⟩ := Vm.findClass_spec hB
    obtain ⟨k2, q3, q4⟩ := Vm.findClass_spec e2
    cases q1.symm.trans q3
    exact absurd (q2.symm.trans q4) (by decide)
theorem own_EW {a0 : Array Value} {Z : State} (hw : ∀ d ∈ tables_1, d.before a0 Z = true) : EW Z a0 ([] : List (String × Nat)) := EW.nil
def own_HasE (args : Array Value) (s : State) (t : Term) : Nat → List Value → Prop
  | _, [] => True
  | i, v :: r => (Term.elem t (.int (Int32.ofNat i))).eval args s none [] s = some v ∧ own_HasE args s t (i + 1) r
theorem own_eqv_r {s : State} {args : Array Value} {X F : Term} {a : Addr} (hF : F.eval args s none [] s = some (.ref a)) (h : (Cond.eq X F).value args s none s [] = some true) : X.eval args s none [] s = some (.ref a) := by
  obtain ⟨x, y', e1, e2, k1, k2⟩ := cmp_v (Or.inl h)
  cases hF.symm.trans e2
  have hx : x.isRef = true := k2.2
  exact e1.trans (congrArg some (gotT (eq_R e1 e2 hx rfl) h))
theorem own_hasL {args : Array Value} {s : State} {t : Term} {a : Addr} {c : Cell} (ev : t.eval args s none [] s = some (.ref a)) (hc : s.heap[a]? = some c) : ∀ (vs : List Value) (i : Nat), i + vs.length < 2 ^ 31 → own_HasE args s t i vs → HasL c i vs
  | [], _, _, _ => trivial
  | v :: r, i, hi, ⟨h1, h2⟩ => by
    have hi' : i < 2 ^ 31 := by simp only [List.length_cons] at hi; omega
    have e1 : (Int32.ofNat i).toNatClampNeg = i := by
      have := Int32.toInt_ofNat_small (n := i) (by omega)
      simp only [Int32.toNatClampNeg]; omega
    have q := (elem_in h1 ev rfl hc).2
    rw [e1] at q
    exact ⟨q, own_hasL ev hc r (i + 1) (by simp only [List.length_cons] at hi; omega) h2⟩
theorem own_arr {s : State} {args : Array Value} (hf : Fit s) {t : Term} {a : Addr} {ty : FieldType} {n : Int32} {vs : List Value} {dv : Value} (ev : t.eval args s none [] s = some (.ref a)) (h1 : (Cond.arrayOf t ty).value args s none s [] = some true)
    (h2 : (Term.length t).eval args s none [] s = some (.int n)) (hn : ¬ n < 0) (hl : n.toNatClampNeg = vs.length) (he : own_HasE args s t 0 vs) : ∃ k, Arv s s.heap a k ty n vs dv := by
  obtain ⟨c, A⟩ := Arr.start ev h1
  have ha := A.fin (Vm.Alike.refl _)
  obtain ⟨a', c', e1, e2, e3⟩ := Term.length_spec h2
  cases ev.symm.trans e1
  cases ha.symm.trans e2
  have hsz : c.slots.size < 2 ^ 31 := by
    refine Nat.lt_of_not_le fun q => ?_
    simp [Term.eval, ev, ha, Nat.not_lt.mpr q] at h2
  have hb := (back32 hn).2
  exact ⟨_, Arv.start hf A hsz (Value.int.inj e3).symm hn hl (own_hasL ev A.1 vs 0 (by omega) he)⟩
def OwnEN (Z : State) (g_IS_NULL : Addr) (g_AND : Addr) (g_OR : Addr) : Prop := Sta Z Z.heap "com/example/ratatoskr/ratatoskr/criteria/ComparisonOperator" "IS_NULL" "Lcom/example/ratatoskr/ratatoskr/criteria/ComparisonOperator;" (.ref g_IS_NULL) ∧ Exa Z Z.heap g_IS_NULL "com/example/ratatoskr/ratatoskr/criteria/ComparisonOperator" ∧ Sta Z Z.heap "com/example/ratatoskr/ratatoskr/criteria/Filter$Junction" "AND" "Lcom/example/ratatoskr/ratatoskr/criteria/Filter$Junction;" (.ref g_AND) ∧ Exa Z Z.heap g_AND "com/example/ratatoskr/ratatoskr/criteria/Filter$Junction" ∧ Sta Z Z.heap "com/example/ratatoskr/ratatoskr/criteria/Filter$Junction" "OR" "Lcom/example/ratatoskr/ratatoskr/criteria/Filter$Junction;" (.ref g_OR) ∧ Exa Z Z.heap g_OR "com/example/ratatoskr/ratatoskr/criteria/Filter$Junction" ∧ Fld Z Z.heap g_IS_NULL "com/example/ratatoskr/ratatoskr/criteria/ComparisonOperator" "operand" "Ljava/lang/Class;" .null
theorem ef0 (m : MethodId) (x0 : Int32) (x1 : Int32) (x2 : Int32) : entryFrame m #[(.int x0), (.int x1), (.int x2)] maxLocals = mkF m 0 #[.val (.int x0), .val (.int x1), .val (.int x2), .unset, .unset, .unset, .unset, .unset, .unset, .unset, .unset, .unset] [] := by first | (simp [entryFrame, mkF, argsToLocals, Value.category, maxLocals]; done) | rfl
theorem pn0 : plainName "com/example/ratatoskr/ratatoskr/criteria/FilterAndPinLaw" = true := by first | (simp [plainName, overriddenIn]; done) | decide +kernel
theorem pd0 : parseMethodDescriptor "([C)V" = some ⟨[(.array .char)], none⟩ := by decide +kernel
theorem ef1 (m : MethodId) (x0 : Addr) (x1 : Addr) (x2 : Addr) : entryFrame m #[(.ref x0), (.ref x1), (.ref x2)] 3 = mkF m 0 #[.val (.ref x0), .val (.ref x1), .val (.ref x2)] [] := by first | (simp [entryFrame, mkF, argsToLocals, Value.category]; done) | rfl
theorem pn1 : plainName "com/example/ratatoskr/ratatoskr/criteria/Filter" = true := by first | (simp [plainName, overriddenIn]; done) | decide +kernel
theorem d0_0 : decode prog_13_method_2_code 0 = .ok (.aload_n 0, 1) := by decide +kernel
theorem d0_1 : decode prog_13_method_2_code 1 = .ok (.new 1, 3) := by decide +kernel
theorem d0_4 : decode prog_13_method_2_code 4 = .ok (.dup, 1) := by decide +kernel
theorem d0_5 : decode prog_13_method_2_code 5 = .ok (.aload_n 1, 1) := by decide +kernel
theorem d0_6 : decode prog_13_method_2_code 6 = .ok (.aload_n 2, 1) := by decide +kernel
theorem d0_7 : decode prog_13_method_2_code 7 = .ok (.aconst_null, 1) := by decide +kernel
theorem d0_8 : decode prog_13_method_2_code 8 = .ok (.invokespecial 3, 3) := by decide +kernel
theorem ef2 (m : MethodId) (x0 : Addr) (x1 : Addr) (x2 : Addr) : entryFrame m #[(.ref x0), (.ref x1), (.ref x2), .null] 6 = mkF m 0 #[.val (.ref x0), .val (.ref x1), .val (.ref x2), .val .null, .unset, .unset] [] := by first | (simp [entryFrame, mkF, argsToLocals, Value.category]; done) | rfl
theorem pn2 : plainName "com/example/ratatoskr/ratatoskr/criteria/Filter$Comparison" = true := by first | (simp [plainName, overriddenIn]; done) | decide +kernel
theorem d1_0 : decode prog_14_method_1_code 0 = .ok (.aload_n 0, 1) := by decide +kernel
theorem d1_1 : decode prog_14_method_1_code 1 = .ok (.invokespecial 1, 3) := by decide +kernel
theorem ef3 (m : MethodId) (x0 : Addr) : entryFrame m #[(.ref x0)] 1 = mkF m 0 #[.val (.ref x0)] [] := by first | (simp [entryFrame, mkF, argsToLocals, Value.category]; done) | rfl
theorem pn3 : plainName "java/lang/Record" = true := by first | (simp [plainName, overriddenIn]; done) | decide +kernel
theorem d2_0 : decode jdk_30_method_1_code 0 = .ok (.aload_n 0, 1) := by decide +kernel
theorem d2_1 : decode jdk_30_method_1_code 1 = .ok (.invokespecial 1, 3) := by decide +kernel
theorem d2_4 : decode jdk_30_method_1_code 4 = .ok (.return_, 1) := by decide +kernel
-- java/lang/Record.<init>()V
def Q1 (Z : State) (qa1 : Addr) (h0 : Heap) (n0 : Nat) (v : Option Value) (h : Heap) (L : List Loc) : Prop := v = none ∧ Fr n0 L ∧ h = h0
set_option maxRecDepth 65536 in
set_option maxHeartbeats 40000000 in
theorem rm1 (l : Launch) (Z : State) (a0 : Array Value) (hw : ∀ d ∈ tables_1, d.before a0 Z = true) (ws : List Jvm.Cond) (qa1 : Addr) (h0 : Heap) (n0 : Nat) (X00 : Old Z n0 h0)  :
    MetFree l (⟨"java/lang/Record", "<init>", "()V"⟩ : MethodName) (head1 (Jvm.Cond.code (⟨"java/lang/Record", "<init>", "()V"⟩ : MethodName) jdk_30_method_1_code 1 none :: ws) ({ frames := 1, cells := 0, slots := 0, locals := 12 } : Room)) (fun a U => a = #[(.ref qa1)] ∧ Z.Warmed39 U.vm ∧ U.heap = h0) (fun _ _ _ _ _ => True) (fun _ U o U' => ∃ v L, o = .returned v ∧ Q1 Z qa1 h0 n0 v U'.heap L ∧ FrameEnd U o U' L ({ frames := 1, cells := 0, slots := 0, locals := 12 } : Room).cells ({ frames := 1, cells := 0, slots := 0, locals := 12 } : Room).slots) := by
  refine MetFree.of_bodySF (plainFor_of_name pn3) hisR ?_
  intro p e s m args below meth c s₁ Bd hml0 hP hK
  obtain ⟨rfl, hZ, hh⟩ := hP
  have hx := Bd.exec
  have hby := Bd.bytes
  have hml : c.maxLocals = 1 := hml0
  have hown : s.vm.findClass "java/lang/Record" = some m.cls := findClass_of_methodNamed Bd.named
  have hnm := (name_of_methodNamed Bd.named Bd.method).1
  have X0 : Stand p l e ({ frames := 1, cells := 0, slots := 0, locals := 12 } : Room) s m #[(.ref qa1)] below meth c s₁ [] 0 0 := Stand.of_body Bd
  have e0 : s₁.heap = h0 := by rw [← hh, Bd.state]; rfl
  have N0 := Fr.nil n0
  have pre0 : ∀ t, Steps p.tables e below (s₁.setTop (mkF m 0 #[.val (.ref qa1)] [])) t → Steps p.tables e below (s₁.setTop (entryFrame m #[(.ref qa1)] 1)) t := fun t k => castTop (ef3 m qa1) k
  obtain ⟨T1, X1, e1, st1⟩ := initO X0 hx hZ hown (hw _ (List.mem_of_getElem? (i := 50) rfl)) (hw _ (List.mem_of_getElem? (i := 15) rfl)) (hw _ (List.mem_of_getElem? (i := 16) rfl)) e0 (g := (mkF m 1 #[.val (.ref qa1)] [(.ref qa1)])) rfl (by rw [hml]; rfl) rfl (hb hby d2_1) (by decide) (W := 0) (by show 2 * 0 + _ ≤ _; exact Nat.le_of_eq rfl) (by decide)
  obtain ⟨fs, hr, hrun, hended, hW, hsame⟩ := X1.leave (v := none) (fun _ => rfl)
  refine ⟨_, _, pre0 _ ?_, hrun, hended, _, _, rfl, ?_, ⟨_, rfl⟩, hW, hsame.mono (by decide) (by decide)⟩
  · show Steps p.tables e below (s₁.setTop (mkF m 0 #[.val (.ref qa1)] [])) _
    refine XS.aloadN X0.here hx rfl (hb hby d2_0) rfl rfl ?_
    show Steps p.tables e below (s₁.setTop (mkF m 1 #[.val (.ref qa1)] [(.ref qa1)])) _
    refine st1 _ ?_
    show Steps p.tables e below (T1.setTop (mkF m 4 #[.val (.ref qa1)] [])) _
    exact X1.returnOut hx Bd.returns (hb hby d2_4) hr
  · show Q1 Z qa1 h0 n0 _ T1.heap _
    rw [show T1.heap = h0 from e1]
    exact ⟨rfl, N0, rfl⟩
theorem pd1 : parseMethodDescriptor "()V" = some ⟨[], none⟩ := by decide +kernel
theorem d1_4 : decode prog_14_method_1_code 4 = .ok (.aload_n 1, 1) := by decide +kernel
theorem d1_5 : decode prog_14_method_1_code 5 = .ok (.ldc 7, 2) := by decide +kernel
theorem d1_7 : decode prog_14_method_1_code 7 = .ok (.invokestatic 9, 3) := by decide +kernel
theorem ef4 (m : MethodId) (x0 : Addr) (x1 : Addr) : entryFrame m #[(.ref x0), (.ref x1)] 2 = mkF m 0 #[.val (.ref x0), .val (.ref x1)] [] := by first | (simp [entryFrame, mkF, argsToLocals, Value.category]; done) | rfl
theorem pn4 : plainName "java/util/Objects" = true := by first | (simp [plainName, overriddenIn]; done) | decide +kernel
theorem d3_0 : decode jdk_31_method_11_code 0 = .ok (.aload_n 0, 1) := by decide +kernel
theorem d3_1 : decode jdk_31_method_11_code 1 = .ok (.ifnonnull 12, 3) := by decide +kernel
theorem d3_13 : decode jdk_31_method_11_code 13 = .ok (.aload_n 0, 1) := by decide +kernel
theorem d3_14 : decode jdk_31_method_11_code 14 = .ok (.areturn, 1) := by decide +kernel
-- java/util/Objects.requireNonNull(Ljava/lang/Object;Ljava/lang/String;)Ljava/lang/Object;
def Q2 (Z : State) (qa1 : Addr) (qa2 : Addr) (h0 : Heap) (n0 : Nat) (v : Option Value) (h : Heap) (L : List Loc) : Prop := v = some (.ref qa1) ∧ Fr n0 L ∧ h = h0
set_option maxRecDepth 65536 in
set_option maxHeartbeats 40000000 in
theorem rm2 (l : Launch) (Z : State) (a0 : Array Value) (hw : ∀ d ∈ tables_1, d.before a0 Z = true) (ws : List Jvm.Cond) (qa1 : Addr) (qa2 : Addr) (h0 : Heap) (n0 : Nat) (X00 : Old Z n0 h0)  :
    MetFree l (⟨"java/util/Objects", "requireNonNull", "(Ljava/lang/Object;Ljava/lang/String;)Ljava/lang/Object;"⟩ : MethodName) (head1 (Jvm.Cond.code (⟨"java/util/Objects", "requireNonNull", "(Ljava/lang/Object;Ljava/lang/String;)Ljava/lang/Object;"⟩ : MethodName) jdk_31_method_11_code 2 (some (.object "java/lang/Object")) :: ws) ({ frames := 0, cells := 0, slots := 0, locals := 0 } : Room)) (fun a U => a = #[(.ref qa1), (.ref qa2)] ∧ Z.Warmed39 U.vm ∧ U.heap = h0) (fun _ _ _ _ _ => True) (fun _ U o U' => ∃ v L, o = .returned v ∧ Q2 Z qa1 qa2 h0 n0 v U'.heap L ∧ FrameEnd U o U' L ({ frames := 0, cells := 0, slots := 0, locals := 0 } : Room).cells ({ frames := 0, cells := 0, slots := 0, locals := 0 } : Room).slots) := by
  refine MetFree.of_bodySF (plainFor_of_name pn4) hisR ?_
  intro p e s m args below meth c s₁ Bd hml0 hP hK
  obtain ⟨rfl, hZ, hh⟩ := hP
  have hx := Bd.exec
  have hby := Bd.bytes
  have hml : c.maxLocals = 2 := hml0
  have hown : s.vm.findClass "java/util/Objects" = some m.cls := findClass_of_methodNamed Bd.named
  have hnm := (name_of_methodNamed Bd.named Bd.method).1
  have X0 : Stand p l e ({ frames := 0, cells := 0, slots := 0, locals := 0 } : Room) s m #[(.ref qa1), (.ref qa2)] below meth c s₁ [] 0 0 := Stand.of_body Bd
  have e0 : s₁.heap = h0 := by rw [← hh, Bd.state]; rfl
  have N0 := Fr.nil n0
  have pre0 : ∀ t, Steps p.tables e below (s₁.setTop (mkF m 0 #[.val (.ref qa1), .val (.ref qa2)] [])) t → Steps p.tables e below (s₁.setTop (entryFrame m #[(.ref qa1), (.ref qa2)] 2)) t := fun t k => castTop (ef4 m qa1 qa2) k
  obtain ⟨fs, hr, hrun, hended, hW, hsame⟩ := X0.leave (v := (some (.ref qa1))) (fun h => by rw [Bd.returns] at h; cases h)
  refine ⟨_, _, pre0 _ ?_, hrun, hended, _, _, rfl, ?_, ⟨_, rfl⟩, hW, hsame.mono (by decide) (by decide)⟩
  · show Steps p.tables e below (s₁.setTop (mkF m 0 #[.val (.ref qa1), .val (.ref qa2)] [])) _
    refine XS.aloadN X0.here hx rfl (hb hby d3_0) rfl rfl ?_
    show Steps p.tables e below (s₁.setTop (mkF m 1 #[.val (.ref qa1), .val (.ref qa2)] [(.ref qa1)])) _
    refine XS.ifnonnullYes X0.here hx rfl (pc0 := 1) (pc' := 13) rfl (hb hby d3_1) rfl (by decide) (by decide) ?_
    show Steps p.tables e below (s₁.setTop (mkF m 13 #[.val (.ref qa1), .val (.ref qa2)] [])) _
    refine XS.aloadN X0.here hx rfl (hb hby d3_13) rfl rfl ?_
    show Steps p.tables e below (s₁.setTop (mkF m 14 #[.val (.ref qa1), .val (.ref qa2)] [(.ref qa1)])) _
    exact retOut X0 hx Bd.returns rfl (Or.inr (Or.inr (Or.inr (Or.inr ⟨rfl, rfl, rfl⟩)))) (hb hby d3_14) hr
  · show Q2 Z qa1 qa2 h0 n0 _ s₁.heap _
    rw [show s₁.heap = h0 from e0]
    exact ⟨rfl, N0, rfl⟩
theorem pd2 : parseMethodDescriptor "(Ljava/lang/Object;Ljava/lang/String;)Ljava/lang/Object;" = some ⟨[(.object "java/lang/Object"), (.object "java/lang/String")], some (.object "java/lang/Object")⟩ := by decide +kernel
theorem d1_10 : decode prog_14_method_1_code 10 = .ok (.pop, 1) := by decide +kernel
theorem d1_11 : decode prog_14_method_1_code 11 = .ok (.aload_n 2, 1) := by decide +kernel
theorem d1_12 : decode prog_14_method_1_code 12 = .ok (.ldc 15, 2) := by decide +kernel
theorem d1_14 : decode prog_14_method_1_code 14 = .ok (.invokestatic 9, 3) := by decide +kernel
-- java/util/Objects.requireNonNull(Ljava/lang/Object;Ljava/lang/String;)Ljava/lang/Object;
def Q3 (Z : State) (g_IS_NULL : Addr) (g_AND : Addr) (g_OR : Addr) (qa1 : Addr) (h0 : Heap) (n0 : Nat) (v : Option Value) (h : Heap) (L : List Loc) : Prop := v = some (.ref g_IS_NULL) ∧ Fr n0 L ∧ h = h0
set_option maxRecDepth 65536 in
set_option maxHeartbeats 40000000 in
theorem rm3 (l : Launch) (Z : State) (a0 : Array Value) (hw : ∀ d ∈ tables_1, d.before a0 Z = true) (ws : List Jvm.Cond) (g_IS_NULL : Addr) (g_AND : Addr) (g_OR : Addr) (qa1 : Addr) (h0 : Heap) (n0 : Nat) (X00 : Old Z n0 h0) (hEN : OwnEN Z g_IS_NULL g_AND g_OR) :
    MetFree l (⟨"java/util/Objects", "requireNonNull", "(Ljava/lang/Object;Ljava/lang/String;)Ljava/lang/Object;"⟩ : MethodName) (head1 (Jvm.Cond.code (⟨"java/util/Objects", "requireNonNull", "(Ljava/lang/Object;Ljava/lang/String;)Ljava/lang/Object;"⟩ : MethodName) jdk_31_method_11_code 2 (some (.object "java/lang/Object")) :: ws) ({ frames := 0, cells := 0, slots := 0, locals := 0 } : Room)) (fun a U => a = #[(.ref g_IS_NULL), (.ref qa1)] ∧ Z.Warmed39 U.vm ∧ U.heap = h0) (fun _ _ _ _ _ => True) (fun _ U o U' => ∃ v L, o = .returned v ∧ Q3 Z g_IS_NULL g_AND g_OR qa1 h0 n0 v U'.heap L ∧ FrameEnd U o U' L ({ frames := 0, cells := 0, slots := 0, locals := 0 } : Room).cells ({ frames := 0, cells := 0, slots := 0, locals := 0 } : Room).slots) := by
  refine MetFree.of_bodySF (plainFor_of_name pn4) hisR ?_
  intro p e s m args below meth c s₁ Bd hml0 hP hK
  obtain ⟨rfl, hZ, hh⟩ := hP
  have hx := Bd.exec
  have hby := Bd.bytes
  have hml : c.maxLocals = 2 := hml0
  have hown : s.vm.findClass "java/util/Objects" = some m.cls := findClass_of_methodNamed Bd.named
  have hnm := (name_of_methodNamed Bd.named Bd.method).1
  have X0 : Stand p l e ({ frames := 0, cells := 0, slots := 0, locals := 0 } : Room) s m #[(.ref g_IS_NULL), (.ref qa1)] below meth c s₁ [] 0 0 := Stand.of_body Bd
  have e0 : s₁.heap = h0 := by rw [← hh, Bd.state]; rfl
  have N0 := Fr.nil n0
  have pre0 : ∀ t, Steps p.tables e below (s₁.setTop (mkF m 0 #[.val (.ref g_IS_NULL), .val (.ref qa1)] [])) t → Steps p.tables e below (s₁.setTop (entryFrame m #[(.ref g_IS_NULL), (.ref qa1)] 2)) t := fun t k => castTop (ef4 m g_IS_NULL qa1) k
  obtain ⟨fs, hr, hrun, hended, hW, hsame⟩ := X0.leave (v := (some (.ref g_IS_NULL))) (fun h => by rw [Bd.returns] at h; cases h)
  refine ⟨_, _, pre0 _ ?_, hrun, hended, _, _, rfl, ?_, ⟨_, rfl⟩, hW, hsame.mono (by decide) (by decide)⟩
  · show Steps p.tables e below (s₁.setTop (mkF m 0 #[.val (.ref g_IS_NULL), .val (.ref qa1)] [])) _
    refine XS.aloadN X0.here hx rfl (hb hby d3_0) rfl rfl ?_
    show Steps p.tables e below (s₁.setTop (mkF m 1 #[.val (.ref g_IS_NULL), .val (.ref qa1)] [(.ref g_IS_NULL)])) _
    refine XS.ifnonnullYes X0.here hx rfl (pc0 := 1) (pc' := 13) rfl (hb hby d3_1) rfl (by decide) (by decide) ?_
    show Steps p.tables e below (s₁.setTop (mkF m 13 #[.val (.ref g_IS_NULL), .val (.ref qa1)] [])) _
    refine XS.aloadN X0.here hx rfl (hb hby d3_13) rfl rfl ?_
    show Steps p.tables e below (s₁.setTop (mkF m 14 #[.val (.ref g_IS_NULL), .val (.ref qa1)] [(.ref g_IS_NULL)])) _
    exact retOut X0 hx Bd.returns rfl (Or.inr (Or.inr (Or.inr (Or.inr ⟨rfl, rfl, rfl⟩)))) (hb hby d3_14) hr
  · show Q3 Z g_IS_NULL g_AND g_OR qa1 h0 n0 _ s₁.heap _
    rw [show s₁.heap = h0 from e0]
    exact ⟨rfl, N0, rfl⟩
theorem d1_17 : decode prog_14_method_1_code 17 = .ok (.pop, 1) := by decide +kernel
theorem d1_18 : decode prog_14_method_1_code 18 = .ok (.aload_n 2, 1) := by decide +kernel
theorem d1_19 : decode prog_14_method_1_code 19 = .ok (.invokevirtual 17, 3) := by decide +kernel
theorem pn5 : plainName "com/example/ratatoskr/ratatoskr/criteria/ComparisonOperator" = true := by first | (simp [plainName, overriddenIn]; done) | decide +kernel
theorem d4_0 : decode prog_12_method_4_code 0 = .ok (.aload_n 0, 1) := by decide +kernel
theorem d4_1 : decode prog_12_method_4_code 1 = .ok (.getfield 50, 3) := by decide +kernel
theorem d4_4 : decode prog_12_method_4_code 4 = .ok (.areturn, 1) := by decide +kernel
-- com/example/ratatoskr/ratatoskr/criteria/ComparisonOperator.operand()Ljava/lang/Class;
def Q4 (Z : State) (g_IS_NULL : Addr) (g_AND : Addr) (g_OR : Addr) (h0 : Heap) (n0 : Nat) (v : Option Value) (h : Heap) (L : List Loc) : Prop := v = some .null ∧ Fr n0 L ∧ h = h0
set_option maxRecDepth 65536 in
set_option maxHeartbeats 40000000 in
theorem rm4 (l : Launch) (Z : State) (a0 : Array Value) (hw : ∀ d ∈ tables_1, d.before a0 Z = true) (ws : List Jvm.Cond) (g_IS_NULL : Addr) (g_AND : Addr) (g_OR : Addr) (h0 : Heap) (n0 : Nat) (X00 : Old Z n0 h0) (hEN : OwnEN Z g_IS_NULL g_AND g_OR) :
    MetFree l (⟨"com/example/ratatoskr/ratatoskr/criteria/ComparisonOperator", "operand", "()Ljava/lang/Class;"⟩ : MethodName) (head1 (Jvm.Cond.code (⟨"com/example/ratatoskr/ratatoskr/criteria/ComparisonOperator", "operand", "()Ljava/lang/Class;"⟩ : MethodName) prog_12_method_4_code 1 (some (.object "java/lang/Class")) :: ws) ({ frames := 0, cells := 0, slots := 0, locals := 0 } : Room)) (fun a U => a = #[(.ref g_IS_NULL)] ∧ Z.Warmed39 U.vm ∧ U.heap = h0) (fun _ _ _ _ _ => True) (fun _ U o U' => ∃ v L, o = .returned v ∧ Q4 Z g_IS_NULL g_AND g_OR h0 n0 v U'.heap L ∧ FrameEnd U o U' L ({ frames := 0, cells := 0, slots := 0, locals := 0 } : Room).cells ({ frames := 0, cells := 0, slots := 0, locals := 0 } : Room).slots) := by
  refine MetFree.of_bodySF (plainFor_of_name pn5) hisR ?_
  intro p e s m args below meth c s₁ Bd hml0 hP hK
  obtain ⟨rfl, hZ, hh⟩ := hP
  have hx := Bd.exec
  have hby := Bd.bytes
  have hml : c.maxLocals = 1 := hml0
  have hown : s.vm.findClass "com/example/ratatoskr/ratatoskr/criteria/ComparisonOperator" = some m.cls := findClass_of_methodNamed Bd.named
  have hnm := (name_of_methodNamed Bd.named Bd.method).1
  have X0 : Stand p l e ({ frames := 0, cells := 0, slots := 0, locals := 0 } : Room) s m #[(.ref g_IS_NULL)] below meth c s₁ [] 0 0 := Stand.of_body Bd
  have e0 : s₁.heap = h0 := by rw [← hh, Bd.state]; rfl
  have N0 := Fr.nil n0
  have pre0 : ∀ t, Steps p.tables e below (s₁.setTop (mkF m 0 #[.val (.ref g_IS_NULL)] [])) t → Steps p.tables e below (s₁.setTop (entryFrame m #[(.ref g_IS_NULL)] 1)) t := fun t k => castTop (ef3 m g_IS_NULL) k
  obtain ⟨T1, X1, e1, st1⟩ := getF X0 hx hZ hown (host := "") (Or.inl (hw _ (List.mem_of_getElem? (i := 64) rfl))) Via.refl e0 (hEN.2.2.2.2.2.2.ext X00.2) (g := (mkF m 1 #[.val (.ref g_IS_NULL)] [(.ref g_IS_NULL)])) rfl rfl (hb hby d4_1)
  obtain ⟨fs, hr, hrun, hended, hW, hsame⟩ := X1.leave (v := (some .null)) (fun h => by rw [Bd.returns] at h; cases h)
  refine ⟨_, _, pre0 _ ?_, hrun, hended, _, _, rfl, ?_, ⟨_, rfl⟩, hW, hsame.mono (by decide) (by decide)⟩
  · show Steps p.tables e below (s₁.setTop (mkF m 0 #[.val (.ref g_IS_NULL)] [])) _
    refine XS.aloadN X0.here hx rfl (hb hby d4_0) rfl rfl ?_
    show Steps p.tables e below (s₁.setTop (mkF m 1 #[.val (.ref g_IS_NULL)] [(.ref g_IS_NULL)])) _
    refine st1 _ ?_
    show Steps p.tables e below (T1.setTop (mkF m 4 #[.val (.ref g_IS_NULL)] [.null])) _
    exact retOut X1 hx Bd.returns rfl (Or.inr (Or.inr (Or.inr (Or.inr ⟨rfl, rfl, rfl⟩)))) (hb hby d4_4) hr
  · show Q4 Z g_IS_NULL g_AND g_OR h0 n0 _ T1.heap _
    rw [show T1.heap = h0 from e1]
    exact ⟨rfl, N0, rfl⟩
theorem pd3 : parseMethodDescriptor "()Ljava/lang/Class;" = some ⟨[], some (.object "java/lang/Class")⟩ := by decide +kernel
theorem d1_22 : decode prog_14_method_1_code 22 = .ok (.astore 4, 2) := by decide +kernel
theorem d1_24 : decode prog_14_method_1_code 24 = .ok (.aload 4, 2) := by decide +kernel
theorem d1_26 : decode prog_14_method_1_code 26 = .ok (.ifnonnull 24, 3) := by decide +kernel
theorem d1_29 : decode prog_14_method_1_code 29 = .ok (.aload_n 3, 1) := by decide +kernel
theorem d1_30 : decode prog_14_method_1_code 30 = .ok (.ifnull 20, 3) := by decide +kernel
theorem d1_50 : decode prog_14_method_1_code 50 = .ok (.aload 4, 2) := by decide +kernel
theorem d1_52 : decode prog_14_method_1_code 52 = .ok (.ifnull 59, 3) := by decide +kernel
theorem d1_111 : decode prog_14_method_1_code 111 = .ok (.aload_n 3, 1) := by decide +kernel
theorem d1_112 : decode prog_14_method_1_code 112 = .ok (.instanceof 57, 3) := by decide +kernel
theorem d1_115 : decode prog_14_method_1_code 115 = .ok (.ifCond .eq 15, 3) := by decide +kernel
theorem d1_130 : decode prog_14_method_1_code 130 = .ok (.aload_n 0, 1) := by decide +kernel
theorem d1_131 : decode prog_14_method_1_code 131 = .ok (.aload_n 1, 1) := by decide +kernel
theorem d1_132 : decode prog_14_method_1_code 132 = .ok (.putfield 65, 3) := by decide +kernel
theorem d1_135 : decode prog_14_method_1_code 135 = .ok (.aload_n 0, 1) := by decide +kernel
theorem d1_136 : decode prog_14_method_1_code 136 = .ok (.aload_n 2, 1) := by decide +kernel
theorem d1_137 : decode prog_14_method_1_code 137 = .ok (.putfield 68, 3) := by decide +kernel
theorem d1_140 : decode prog_14_method_1_code 140 = .ok (.aload_n 0, 1) := by decide +kernel
theorem d1_141 : decode prog_14_method_1_code 141 = .ok (.aload_n 3, 1) := by decide +kernel
theorem d1_142 : decode prog_14_method_1_code 142 = .ok (.putfield 71, 3) := by decide +kernel
theorem d1_145 : decode prog_14_method_1_code 145 = .ok (.return_, 1) := by decide +kernel
-- com/example/ratatoskr/ratatoskr/criteria/Filter$Comparison.<init>(Ljava/lang/String;Lcom/example/ratatoskr/ratatoskr/criteria/ComparisonOperator;Ljava/lang/Object;)V
def Q5 (Z : State) (g_IS_NULL : Addr) (g_AND : Addr) (g_OR : Addr) (qa1 : Addr) (qa2 : Addr) (h0 : Heap) (n0 : Nat) (v : Option Value) (h : Heap) (L : List Loc) : Prop := v = none ∧ Fr n0 L ∧ Keep h0 h [qa1] ∧ Exa Z h qa1 "com/example/ratatoskr/ratatoskr/criteria/Filter$Comparison" ∧ Fld Z h qa1 "com/example/ratatoskr/ratatoskr/criteria/Filter$Comparison" "property" "Ljava/lang/String;" (.ref qa2) ∧ Fld Z h qa1 "com/example/ratatoskr/ratatoskr/criteria/Filter$Comparison" "operator" "Lcom/example/ratatoskr/ratatoskr/criteria/ComparisonOperator;" (.ref g_IS_NULL) ∧ Fld Z h qa1 "com/example/ratatoskr/ratatoskr/criteria/Filter$Comparison" "value" "Ljava/lang/Object;" .null
set_option maxRecDepth 65536 in
set_option maxHeartbeats 40000000 in
theorem rm5 (l : Launch) (Z : State) (a0 : Array Value) (hw : ∀ d ∈ tables_1, d.before a0 Z = true) (ws : List Jvm.Cond) (g_IS_NULL : Addr) (g_AND : Addr) (g_OR : Addr) (qa1 : Addr) (qa2 : Addr) (h0 : Heap) (n0 : Nat) (X00 : Old Z n0 h0) (hEN : OwnEN Z g_IS_NULL g_AND g_OR) (E_qa1 : Exa Z h0 qa1 "com/example/ratatoskr/ratatoskr/criteria/Filter$Comparison") (F_qa1_property : Fld Z h0 qa1 "com/example/ratatoskr/ratatoskr/criteria/Filter$Comparison" "property" "Ljava/lang/String;" .null) (g_qa1 : n0 ≤ qa1) (F_qa1_operator : Fld Z h0 qa1 "com/example/ratatoskr/ratatoskr/criteria/Filter$Comparison" "operator" "Lcom/example/ratatoskr/ratatoskr/criteria/ComparisonOperator;" .null) (F_qa1_value : Fld Z h0 qa1 "com/example/ratatoskr/ratatoskr/criteria/Filter$Comparison" "value" "Ljava/lang/Object;" .null) :
    MetFree l (⟨"com/example/ratatoskr/ratatoskr/criteria/Filter$Comparison", "<init>", "(Ljava/lang/String;Lcom/example/ratatoskr/ratatoskr/criteria/ComparisonOperator;Ljava/lang/Object;)V"⟩ : MethodName) (head1 (Jvm.Cond.code (⟨"com/example/ratatoskr/ratatoskr/criteria/Filter$Comparison", "<init>", "(Ljava/lang/String;Lcom/example/ratatoskr/ratatoskr/criteria/ComparisonOperator;Ljava/lang/Object;)V"⟩ : MethodName) prog_14_method_1_code 6 none :: ws) ({ frames := 2, cells := 4, slots := 72, locals := 24 } : Room)) (fun a U => a = #[(.ref qa1), (.ref qa2), (.ref g_IS_NULL), .null] ∧ Z.Warmed39 U.vm ∧ U.heap = h0 ∧ CHv Z ([] : List (String × Nat)) U.vm h0) (fun _ _ _ _ _ => True) (fun _ U o U' => ∃ v L, o = .returned v ∧ Q5 Z g_IS_NULL g_AND g_OR qa1 qa2 h0 n0 v U'.heap L ∧ CHr Z ([] : List (String × Nat)) U.vm U.heap U'.vm U'.heap ∧ ReturnedEndW U o U' L ({ frames := 2, cells := 4, slots := 72, locals := 24 } : Room).cells ({ frames := 2, cells := 4, slots := 72, locals := 24 } : Room).slots) := by
  refine MetFree.of_bodySF (plainFor_of_name pn2) hisR ?_
  intro p e s m args below meth c s₁ Bd hml0 hP hK
  obtain ⟨rfl, hZ, hh, hC0⟩ := hP
  have hx := Bd.exec
  have hby := Bd.bytes
  have hml : c.maxLocals = 6 := hml0
  have hown : s.vm.findClass "com/example/ratatoskr/ratatoskr/criteria/Filter$Comparison" = some m.cls := findClass_of_methodNamed Bd.named
  have hnm := (name_of_methodNamed Bd.named Bd.method).1
  have X0 : Stand p l e ({ frames := 2, cells := 4, slots := 72, locals := 24 } : Room) (s.setVm s.vm) m #[(.ref qa1), (.ref qa2), (.ref g_IS_NULL), .null] below meth c s₁ [] 0 0 := Stand.of_body Bd
  have e0 : s₁.heap = h0 := by rw [← hh, Bd.state]; rfl
  have N0 := Fr.nil n0
  have pre0 : ∀ t, Steps p.tables e below (s₁.setTop (mkF m 0 #[.val (.ref qa1), .val (.ref qa2), .val (.ref g_IS_NULL), .val .null, .unset, .unset] [])) t → Steps p.tables e below (s₁.setTop (entryFrame m #[(.ref qa1), (.ref qa2), (.ref g_IS_NULL), .null] 6)) t := fun t k => castTop (ef2 m qa1 qa2 g_IS_NULL) k
  have hS0 : s.Since s.vm h0.size := (State.WarmedH.refl s).since _
  have hk0 : h0.size ≤ h0.size := Nat.le_refl _
  have hR0 : CHr Z ([] : List (String × Nat)) s.vm h0 s.vm h0 := CHr.refl hC0
  have hEL := own_EW hw
  have hwS := own_wS hw
  obtain ⟨_, _, ⟨T1, L1, k1, n1⟩, -, X1, ⟨Lc1, hQ1, l1, y1, z1⟩, st1⟩ := X0.specialBack hx (y := (⟨"java/lang/Record", "<init>", "()V"⟩ : MethodName)) rfl hown (mvT hZ (hw _ (List.mem_of_getElem? (i := 45) rfl))) (mvT hZ (hw _ (List.mem_of_getElem? (i := 46) rfl))) (mvT hZ (hw _ (List.mem_of_getElem? (i := 49) rfl))) (by decide) (backOf (s := s.setVm s.vm) (W := 0) (rm1 l Z a0 hw []  qa1 h0 n0 X00 ) hZ (hw _ (List.mem_of_getElem? (i := 49) rfl)) (hw _ (List.mem_of_getElem? (i := 48) rfl)) (by decide) (by decide)) (g := (mkF m 1 #[.val (.ref qa1), .val (.ref qa2), .val (.ref g_IS_NULL), .val .null, .unset, .unset] [(.ref qa1)])) rfl (by rw [hml]; rfl) (Steps.refl _) (a := qa1) (argsL := []) (rest := []) (lenOf pd1 rfl) rfl (by show 2 * 0 + _ ≤ _; exact Nat.le_of_eq rfl) (hb hby d1_1) (fun _ _ => ⟨rfl, e0, (by decide : 0 + 0 ≤ _), (by decide : 0 + 0 ≤ _)⟩)
  dsimp only [Pt.U, Pt.locs, Pt.cells, Pt.slots] at X1 l1 y1 z1 st1 hQ1
  subst l1 y1 z1
  obtain ⟨rfl, N1q, e1q⟩ := hQ1
  have N1 := Fr.app N0 N1q
  obtain ⟨b2, T2, h2, k2, X2, e2, E2, hS2, hk2, hZ2, ho2, CR2, -, st2⟩ := ldcOH (text := "property") (EL := ([] : List (String × Nat))) X1 hx hZ hown (hw _ (List.mem_of_getElem? (i := 51) rfl)) hwS e1q hS0 hk0 hEL hC0 (g := (mkF m 5 #[.val (.ref qa1), .val (.ref qa2), .val (.ref g_IS_NULL), .val .null, .unset, .unset] [(.ref qa2)])) rfl (hb hby d1_5) (n := 32) (by decide) (by decide) (by decide) (by decide)
  have K3 : Keep h0 h2 [qa1] := (Keep.refl h0 [qa1]).ext E2
  have R5 : CHr Z ([] : List (String × Nat)) s.vm h0 T2.vm h2 := hR0.trans CR2
  have O7 : Old Z n0 h2 := X00.ext E2
  obtain ⟨_, _, ⟨T6, L6, k6, n6⟩, -, X6, ⟨Lc6, hQ6, l6, y6, z6⟩, st6⟩ := Jvm.LawKit.callS X2 hx (y := (⟨"java/util/Objects", "requireNonNull", "(Ljava/lang/Object;Ljava/lang/String;)Ljava/lang/Object;"⟩ : MethodName)) ho2 (mvT hZ2 (hw _ (List.mem_of_getElem? (i := 54) rfl))) (mvT hZ2 (hw _ (List.mem_of_getElem? (i := 55) rfl))) (mvT hZ2 (hw _ (List.mem_of_getElem? (i := 56) rfl))) (mvT hZ2 (hw _ (List.mem_of_getElem? (i := 57) rfl))) (by decide) (backOf (s := s.setVm T2.vm) (W := 0) (rm2 l Z a0 hw []  qa2 b2 h2 n0 O7 ) hZ2 (hw _ (List.mem_of_getElem? (i := 57) rfl)) (hw _ (List.mem_of_getElem? (i := 56) rfl)) (by decide) (by decide)) (g := (mkF m 7 #[.val (.ref qa1), .val (.ref qa2), .val (.ref g_IS_NULL), .val .null, .unset, .unset] [(.ref b2), (.ref qa2)])) rfl (by rw [hml]; rfl) (argsL := [(.ref qa2), (.ref b2)]) (rest := []) (lenOf pd2 rfl) rfl (by show 2 * 0 + _ ≤ _; exact Nat.le_of_eq rfl) (hb hby d1_7) (fun _ _ => ⟨rfl, e2, (by decide : 2 + 0 ≤ _), (by decide : 36 + 0 ≤ _)⟩)
  dsimp only [Pt.U, Pt.locs, Pt.cells, Pt.slots] at X6 l6 y6 z6 st6 hQ6
  subst l6 y6 z6
  obtain ⟨rfl, N6q, e6q⟩ := hQ6
  have N6 := Fr.app N1 N6q
  obtain ⟨b8, T8, h8, k8, X8, e8, E8, hS8, hk8, hZ8, ho8, CR8, -, st8⟩ := ldcOH (text := "operator") (EL := ([] : List (String × Nat))) X6 hx hZ2 ho2 (hw _ (List.mem_of_getElem? (i := 58) rfl)) hwS e6q hS2 hk2 hEL CR2.1 (g := (mkF m 12 #[.val (.ref qa1), .val (.ref qa2), .val (.ref g_IS_NULL), .val .null, .unset, .unset] [(.ref g_IS_NULL)])) rfl (hb hby d1_12) (n := 32) (by decide) (by decide) (by decide) (by decide)
  have K9 : Keep h0 h8 [qa1] := K3.ext E8
  have R11 : CHr Z ([] : List (String × Nat)) s.vm h0 T8.vm h8 := R5.trans CR8
  have O13 : Old Z n0 h8 := O7.ext E8
  obtain ⟨_, _, ⟨T12, L12, k12, n12⟩, -, X12, ⟨Lc12, hQ12, l12, y12, z12⟩, st12⟩ := Jvm.LawKit.callS X8 hx (y := (⟨"java/util/Objects", "requireNonNull", "(Ljava/lang/Object;Ljava/lang/String;)Ljava/lang/Object;"⟩ : MethodName)) ho8 (mvT hZ8 (hw _ (List.mem_of_getElem? (i := 54) rfl))) (mvT hZ8 (hw _ (List.mem_of_getElem? (i := 55) rfl))) (mvT hZ8 (hw _ (List.mem_of_getElem? (i := 56) rfl))) (mvT hZ8 (hw _ (List.mem_of_getElem? (i := 57) rfl))) (by decide) (backOf (s := s.setVm T8.vm) (W := 0) (rm3 l Z a0 hw [] g_IS_NULL g_AND g_OR b8 h8 n0 O13 hEN) hZ8 (hw _ (List.mem_of_getElem? (i := 57) rfl)) (hw _ (List.mem_of_getElem? (i := 56) rfl)) (by decide) (by decide)) (g := (mkF m 14 #[.val (.ref qa1), .val (.ref qa2), .val (.ref g_IS_NULL), .val .null, .unset, .unset] [(.ref b8), (.ref g_IS_NULL)])) rfl (by rw [hml]; rfl) (argsL := [(.ref g_IS_NULL), (.ref b8)]) (rest := []) (lenOf pd2 rfl) rfl (by show 2 * 0 + _ ≤ _; exact Nat.le_of_eq rfl) (hb hby d1_14) (fun _ _ => ⟨rfl, e8, (by decide : 4 + 0 ≤ _), (by decide : 72 + 0 ≤ _)⟩)
  dsimp only [Pt.U, Pt.locs, Pt.cells, Pt.slots] at X12 l12 y12 z12 st12 hQ12
  subst l12 y12 z12
  obtain ⟨rfl, N12q, e12q⟩ := hQ12
  have N12 := Fr.app N6 N12q
  obtain ⟨cq14, kq14, q14a, q14b, q14c⟩ := isOf hZ8 e12q (hEN.2.1.ext O13.2)
  obtain ⟨_, _, ⟨T14, L14, k14, n14⟩, -, X14, ⟨Lc14, hQ14, l14, y14, z14⟩, st14⟩ := X12.virtualBack hx (y := (⟨"com/example/ratatoskr/ratatoskr/criteria/ComparisonOperator", "operand", "()Ljava/lang/Class;"⟩ : MethodName)) (z := (⟨"com/example/ratatoskr/ratatoskr/criteria/ComparisonOperator", "operand", "()Ljava/lang/Class;"⟩ : MethodName)) ho8 (mvT hZ8 (hw _ (List.mem_of_getElem? (i := 59) rfl))) (mvT hZ8 (hw _ (List.mem_of_getElem? (i := 60) rfl))) (notFace_of_selects (args := #[]) (mvT hZ8 (hw _ (List.mem_of_getElem? (i := 62) rfl)))) (mvT hZ8 (hw _ (List.mem_of_getElem? (i := 62) rfl))) (mvT hZ8 (hw _ (List.mem_of_getElem? (i := 61) rfl))) (by decide) (backOf (s := s.setVm T8.vm) (W := 0) (rm4 l Z a0 hw [] g_IS_NULL g_AND g_OR  h8 n0 O13 hEN) hZ8 (hw _ (List.mem_of_getElem? (i := 63) rfl)) (hw _ (List.mem_of_getElem? (i := 34) rfl)) (by decide) (by decide)) q14a q14c (g := (mkF m 19 #[.val (.ref qa1), .val (.ref qa2), .val (.ref g_IS_NULL), .val .null, .unset, .unset] [(.ref g_IS_NULL)])) rfl (by rw [hml]; rfl) (Steps.refl _) (argsL := []) (rest := []) (lenOf pd3 rfl) rfl (by show 2 * 0 + _ ≤ _; exact Nat.le_of_eq rfl) (hb hby d1_19) (fun _ _ => ⟨rfl, e12q, (by decide : 4 + 0 ≤ _), (by decide : 72 + 0 ≤ _)⟩)
  dsimp only [Pt.U, Pt.locs, Pt.cells, Pt.slots] at X14 l14 y14 z14 st14 hQ14
  subst l14 y14 z14
  obtain ⟨rfl, N14q, e14q⟩ := hQ14
  have N14 := Fr.app N12 N14q
  have F15_ : Fld Z h2 qa1 "com/example/ratatoskr/ratatoskr/criteria/Filter$Comparison" "property" "Ljava/lang/String;" .null := F_qa1_property.ext E2
  have F16_ : Fld Z h8 qa1 "com/example/ratatoskr/ratatoskr/criteria/Filter$Comparison" "property" "Ljava/lang/String;" .null := F15_.ext E8
  have E17_ : Exa Z h2 qa1 "com/example/ratatoskr/ratatoskr/criteria/Filter$Comparison" := E_qa1.ext E2
  have E18_ : Exa Z h8 qa1 "com/example/ratatoskr/ratatoskr/criteria/Filter$Comparison" := E17_.ext E8
  obtain ⟨T19, h19, X19, e19, W19, st19⟩ := putF X14 hx hZ8 ho8 (host := "") (Or.inl (hw _ (List.mem_of_getElem? (i := 66) rfl))) Via.refl e14q F16_ E18_ (Or.inr ⟨(hw _ (List.mem_of_getElem? (i := 67) rfl)), rfl, hnm⟩) (hw _ (List.mem_of_getElem? (i := 40) rfl)) (ty := (.object "java/lang/String")) (by decide) rfl rfl (g := (mkF m 132 #[.val (.ref qa1), .val (.ref qa2), .val (.ref g_IS_NULL), .val .null, .val .null, .unset] [(.ref qa2), (.ref qa1)])) rfl rfl (hb hby d1_132)
  have N19 := Fr.snoc X19 N14 g_qa1
  have K20 : Keep h0 h19 [qa1] := K9.wr W19 (Or.inl (List.mem_of_getElem? (i := 0) rfl))
  have C21 : CHv Z ([] : List (String × Nat)) T8.vm h19 := CHv.wr W19 (Safe.exa hZ8.alike E18_ (by decide) (by decide)) CR8.1
  have R22 : CHr Z ([] : List (String × Nat)) s.vm h0 T8.vm h19 := R11.trans (CHr.wr W19 (Safe.exa hZ8.alike E18_ (by decide) (by decide)) CR8.1)
  have F23_ : Fld Z h19 qa1 "com/example/ratatoskr/ratatoskr/criteria/Filter$Comparison" "property" "Ljava/lang/String;" (.ref qa2) := F16_.same W19
  have F24_ : Fld Z h2 qa1 "com/example/ratatoskr/ratatoskr/criteria/Filter$Comparison" "operator" "Lcom/example/ratatoskr/ratatoskr/criteria/ComparisonOperator;" .null := F_qa1_operator.ext E2
  have F25_ : Fld Z h8 qa1 "com/example/ratatoskr/ratatoskr/criteria/Filter$Comparison" "operator" "Lcom/example/ratatoskr/ratatoskr/criteria/ComparisonOperator;" .null := F24_.ext E8
  have F26_ : Fld Z h19 qa1 "com/example/ratatoskr/ratatoskr/criteria/Filter$Comparison" "operator" "Lcom/example/ratatoskr/ratatoskr/criteria/ComparisonOperator;" .null := F25_.other W19 (Or.inr (slot_ne (Or.inr (hw _ (List.mem_of_getElem? (i := 69) rfl))) (Or.inr (hw _ (List.mem_of_getElem? (i := 67) rfl))) (by decide) (t := (.object "com/example/ratatoskr/ratatoskr/criteria/ComparisonOperator")) (t' := (.object "java/lang/String")) (by decide) (by decide)))
  have E27_ : Exa Z h19 qa1 "com/example/ratatoskr/ratatoskr/criteria/Filter$Comparison" := E18_.wr W19
  obtain ⟨T28, h28, X28, e28, W28, st28⟩ := putF X19 hx hZ8 ho8 (host := "") (Or.inl (hw _ (List.mem_of_getElem? (i := 68) rfl))) Via.refl e19 F26_ E27_ (Or.inr ⟨(hw _ (List.mem_of_getElem? (i := 69) rfl)), rfl, hnm⟩) (hw _ (List.mem_of_getElem? (i := 40) rfl)) (ty := (.object "com/example/ratatoskr/ratatoskr/criteria/ComparisonOperator")) (by decide) rfl rfl (g := (mkF m 137 #[.val (.ref qa1), .val (.ref qa2), .val (.ref g_IS_NULL), .val .null, .val .null, .unset] [(.ref g_IS_NULL), (.ref qa1)])) rfl rfl (hb hby d1_137)
  have N28 := Fr.snoc X28 N19 g_qa1
  have K29 : Keep h0 h28 [qa1] := K20.wr W28 (Or.inl (List.mem_of_getElem? (i := 0) rfl))
  have C30 : CHv Z ([] : List (String × Nat)) T8.vm h28 := CHv.wr W28 (Safe.exa hZ8.alike E27_ (by decide) (by decide)) C21
  have R31 : CHr Z ([] : List (String × Nat)) s.vm h0 T8.vm h28 := R22.trans (CHr.wr W28 (Safe.exa hZ8.alike E27_ (by decide) (by decide)) C21)
  have F32_ : Fld Z h28 qa1 "com/example/ratatoskr/ratatoskr/criteria/Filter$Comparison" "operator" "Lcom/example/ratatoskr/ratatoskr/criteria/ComparisonOperator;" (.ref g_IS_NULL) := F26_.same W28
  have F33_ : Fld Z h2 qa1 "com/example/ratatoskr/ratatoskr/criteria/Filter$Comparison" "value" "Ljava/lang/Object;" .null := F_qa1_value.ext E2
  have F34_ : Fld Z h8 qa1 "com/example/ratatoskr/ratatoskr/criteria/Filter$Comparison" "value" "Ljava/lang/Object;" .null := F33_.ext E8
  have F35_ : Fld Z h19 qa1 "com/example/ratatoskr/ratatoskr/criteria/Filter$Comparison" "value" "Ljava/lang/Object;" .null := F34_.other W19 (Or.inr (slot_ne (Or.inr (hw _ (List.mem_of_getElem? (i := 71) rfl))) (Or.inr (hw _ (List.mem_of_getElem? (i := 67) rfl))) (by decide) (t := (.object "java/lang/Object")) (t' := (.object "java/lang/String")) (by decide) (by decide)))
  have F36_ : Fld Z h28 qa1 "com/example/ratatoskr/ratatoskr/criteria/Filter$Comparison" "value" "Ljava/lang/Object;" .null := F35_.other W28 (Or.inr (slot_ne (Or.inr (hw _ (List.mem_of_getElem? (i := 71) rfl))) (Or.inr (hw _ (List.mem_of_getElem? (i := 69) rfl))) (by decide) (t := (.object "java/lang/Object")) (t' := (.object "com/example/ratatoskr/ratatoskr/criteria/ComparisonOperator")) (by decide) (by decide)))
  have E37_ : Exa Z h28 qa1 "com/example/ratatoskr/ratatoskr/criteria/Filter$Comparison" := E27_.wr W28
  obtain ⟨T38, h38, X38, e38, W38, st38⟩ := putF X28 hx hZ8 ho8 (host := "") (Or.inl (hw _ (List.mem_of_getElem? (i := 70) rfl))) Via.refl e28 F36_ E37_ (Or.inr ⟨(hw _ (List.mem_of_getElem? (i := 71) rfl)), rfl, hnm⟩) (hw _ (List.mem_of_getElem? (i := 40) rfl)) (ty := (.object "java/lang/Object")) (by decide) rfl rfl (g := (mkF m 142 #[.val (.ref qa1), .val (.ref qa2), .val (.ref g_IS_NULL), .val .null, .val .null, .unset] [.null, (.ref qa1)])) rfl rfl (hb hby d1_142)
  have N38 := Fr.snoc X38 N28 g_qa1
  have K39 : Keep h0 h38 [qa1] := K29.wr W38 (Or.inl (List.mem_of_getElem? (i := 0) rfl))
  have C40 : CHv Z ([] : List (String × Nat)) T8.vm h38 := CHv.wr W38 (Safe.exa hZ8.alike E37_ (by decide) (by decide)) C30
  have R41 : CHr Z ([] : List (String × Nat)) s.vm h0 T8.vm h38 := R31.trans (CHr.wr W38 (Safe.exa hZ8.alike E37_ (by decide) (by decide)) C30)
  have F42_ : Fld Z h38 qa1 "com/example/ratatoskr/ratatoskr/criteria/Filter$Comparison" "value" "Ljava/lang/Object;" .null := F36_.same W38
  have E43_ : Exa Z h38 qa1 "com/example/ratatoskr/ratatoskr/criteria/Filter$Comparison" := E37_.wr W38
  have F44_ : Fld Z h28 qa1 "com/example/ratatoskr/ratatoskr/criteria/Filter$Comparison" "property" "Ljava/lang/String;" (.ref qa2) := F23_.other W28 (Or.inr (slot_ne (Or.inr (hw _ (List.mem_of_getElem? (i := 67) rfl))) (Or.inr (hw _ (List.mem_of_getElem? (i := 69) rfl))) (by decide) (t := (.object "java/lang/String")) (t' := (.object "com/example/ratatoskr/ratatoskr/criteria/ComparisonOperator")) (by decide) (by decide)))
  have F45_ : Fld Z h38 qa1 "com/example/ratatoskr/ratatoskr/criteria/Filter$Comparison" "property" "Ljava/lang/String;" (.ref qa2) := F44_.other W38 (Or.inr (slot_ne (Or.inr (hw _ (List.mem_of_getElem? (i := 67) rfl))) (Or.inr (hw _ (List.mem_of_getElem? (i := 71) rfl))) (by decide) (t := (.object "java/lang/String")) (t' := (.object "java/lang/Object")) (by decide) (by decide)))
  have F46_ : Fld Z h38 qa1 "com/example/ratatoskr/ratatoskr/criteria/Filter$Comparison" "operator" "Lcom/example/ratatoskr/ratatoskr/criteria/ComparisonOperator;" (.ref g_IS_NULL) := F32_.other W38 (Or.inr (slot_ne (Or.inr (hw _ (List.mem_of_getElem? (i := 69) rfl))) (Or.inr (hw _ (List.mem_of_getElem? (i := 71) rfl))) (by decide) (t := (.object "com/example/ratatoskr/ratatoskr/criteria/ComparisonOperator")) (t' := (.object "java/lang/Object")) (by decide) (by decide)))
  have hk47' : _ ≤ h38.size := (Nat.le_trans (Nat.le_trans (Nat.le_trans hk8 (Nat.le_of_eq W19.size.symm)) (Nat.le_of_eq W28.size.symm)) (Nat.le_of_eq W38.size.symm))
  obtain ⟨fs, hr, hrun, hended, hEnd⟩ := X38.leaveW (s := s) hS8 (by rw [show T38.heap = h38 from e38]; exact hk47') (v := none) (fun _ => rfl)
  have hCe : CHr Z ([] : List (String × Nat)) s.vm h0 T38.vm h38 := R41.trans (CHv.at X38 hZ8 hEL C40)
  refine ⟨_, _, pre0 _ ?_, hrun, hended, _, _, rfl, ?_, ?_, hEnd.1, hEnd.2.1, hEnd.2.2.1, hEnd.2.2.2.mono (by decide) (by decide)⟩
  · show Steps p.tables e below (s₁.setTop (mkF m 0 #[.val (.ref qa1), .val (.ref qa2), .val (.ref g_IS_NULL), .val .null, .unset, .unset] [])) _
    refine XS.aloadN X0.here hx rfl (hb hby d1_0) rfl rfl ?_
    show Steps p.tables e below (s₁.setTop (mkF m 1 #[.val (.ref qa1), .val (.ref qa2), .val (.ref g_IS_NULL), .val .null, .unset, .unset] [(.ref qa1)])) _
    refine st1.trans ?_
    show Steps p.tables e below (T1.setTop (mkF m 4 #[.val (.ref qa1), .val (.ref qa2), .val (.ref g_IS_NULL), .val .null, .unset, .unset] [])) _
    refine XS.aloadN X1.here hx rfl (hb hby d1_4) rfl rfl ?_
    show Steps p.tables e below (T1.setTop (mkF m 5 #[.val (.ref qa1), .val (.ref qa2), .val (.ref g_IS_NULL), .val .null, .unset, .unset] [(.ref qa2)])) _
    refine st2 _ ?_
    show Steps p.tables e below (T2.setTop (mkF m 7 #[.val (.ref qa1), .val (.ref qa2), .val (.ref g_IS_NULL), .val .null, .unset, .unset] [(.ref b2), (.ref qa2)])) _
    refine st6 _ ?_
    show Steps p.tables e below (T6.setTop (mkF m 10 #[.val (.ref qa1), .val (.ref qa2), .val (.ref g_IS_NULL), .val .null, .unset, .unset] [(.ref qa2)])) _
    refine XS.pop X6.here hx rfl (hb hby d1_10) rfl rfl ?_
    show Steps p.tables e below (T6.setTop (mkF m 11 #[.val (.ref qa1), .val (.ref qa2), .val (.ref g_IS_NULL), .val .null, .unset, .unset] [])) _
    refine XS.aloadN X6.here hx rfl (hb hby d1_11) rfl rfl ?_
    show Steps p.tables e below (T6.setTop (mkF m 12 #[.val (.ref qa1), .val (.ref qa2), .val (.ref g_IS_NULL), .val .null, .unset, .unset] [(.ref g_IS_NULL)])) _
    refine st8 _ ?_
    show Steps p.tables e below (T8.setTop (mkF m 14 #[.val (.ref qa1), .val (.ref qa2), .val (.ref g_IS_NULL), .val .null, .unset, .unset] [(.ref b8), (.ref g_IS_NULL)])) _
    refine st12 _ ?_
    show Steps p.tables e below (T12.setTop (mkF m 17 #[.val (.ref qa1), .val (.ref qa2), .val (.ref g_IS_NULL), .val .null, .unset, .unset] [(.ref g_IS_NULL)])) _
    refine XS.pop X12.here hx rfl (hb hby d1_17) rfl rfl ?_
    show Steps p.tables e below (T12.setTop (mkF m 18 #[.val (.ref qa1), .val (.ref qa2), .val (.ref g_IS_NULL), .val .null, .unset, .unset] [])) _
    refine XS.aloadN X12.here hx rfl (hb hby d1_18) rfl rfl ?_
    show Steps p.tables e below (T12.setTop (mkF m 19 #[.val (.ref qa1), .val (.ref qa2), .val (.ref g_IS_NULL), .val .null, .unset, .unset] [(.ref g_IS_NULL)])) _
    refine st14.trans ?_
    show Steps p.tables e below (T14.setTop (mkF m 22 #[.val (.ref qa1), .val (.ref qa2), .val (.ref g_IS_NULL), .val .null, .unset, .unset] [.null])) _
    refine XS.astore X14.here hx rfl (hb hby d1_22) rfl rfl (l' := #[.val (.ref qa1), .val (.ref qa2), .val (.ref g_IS_NULL), .val .null, .val .null, .unset]) rfl ?_
    show Steps p.tables e below (T14.setTop (mkF m 24 #[.val (.ref qa1), .val (.ref qa2), .val (.ref g_IS_NULL), .val .null, .val .null, .unset] [])) _
    refine XS.aload X14.here hx rfl (hb hby d1_24) rfl rfl ?_
    show Steps p.tables e below (T14.setTop (mkF m 26 #[.val (.ref qa1), .val (.ref qa2), .val (.ref g_IS_NULL), .val .null, .val .null, .unset] [.null])) _
    refine XS.ifnonnullNo X14.here hx rfl (hb hby d1_26) rfl ?_
    show Steps p.tables e below (T14.setTop (mkF m 29 #[.val (.ref qa1), .val (.ref qa2), .val (.ref g_IS_NULL), .val .null, .val .null, .unset] [])) _
    refine XS.aloadN X14.here hx rfl (hb hby d1_29) rfl rfl ?_
    show Steps p.tables e below (T14.setTop (mkF m 30 #[.val (.ref qa1), .val (.ref qa2), .val (.ref g_IS_NULL), .val .null, .val .null, .unset] [.null])) _
    refine XS.ifnullYes X14.here hx rfl (pc0 := 30) (pc' := 50) rfl (hb hby d1_30) rfl (by decide) (by decide) ?_
    show Steps p.tables e below (T14.setTop (mkF m 50 #[.val (.ref qa1), .val (.ref qa2), .val (.ref g_IS_NULL), .val .null, .val .null, .unset] [])) _
    refine XS.aload X14.here hx rfl (hb hby d1_50) rfl rfl ?_
    show Steps p.tables e below (T14.setTop (mkF m 52 #[.val (.ref qa1), .val (.ref qa2), .val (.ref g_IS_NULL), .val .null, .val .null, .unset] [.null])) _
    refine XS.ifnullYes X14.here hx rfl (pc0 := 52) (pc' := 111) rfl (hb hby d1_52) rfl (by decide) (by decide) ?_
    show Steps p.tables e below (T14.setTop (mkF m 111 #[.val (.ref qa1), .val (.ref qa2), .val (.ref g_IS_NULL), .val .null, .val .null, .unset] [])) _
    refine XS.aloadN X14.here hx rfl (hb hby d1_111) rfl rfl ?_
    show Steps p.tables e below (T14.setTop (mkF m 112 #[.val (.ref qa1), .val (.ref qa2), .val (.ref g_IS_NULL), .val .null, .val .null, .unset] [.null])) _
    refine X14.instanceofNull hx (g := (mkF m 112 #[.val (.ref qa1), .val (.ref qa2), .val (.ref g_IS_NULL), .val .null, .val .null, .unset] [.null])) rfl rfl (hb hby d1_112) _ ?_
    show Steps p.tables e below (T14.setTop (mkF m 115 #[.val (.ref qa1), .val (.ref qa2), .val (.ref g_IS_NULL), .val .null, .val .null, .unset] [(.int (0 : Int32))])) _
    refine XS.ifYes X14.here hx rfl (pc0 := 115) (pc' := 130) rfl (hb hby d1_115) rfl (XT.i0_eq_t ((by decide) : (0 : Int32) = (0 : Int32))) (by decide) (by decide) ?_
    show Steps p.tables e below (T14.setTop (mkF m 130 #[.val (.ref qa1), .val (.ref qa2), .val (.ref g_IS_NULL), .val .null, .val .null, .unset] [])) _
    refine XS.aloadN X14.here hx rfl (hb hby d1_130) rfl rfl ?_
    show Steps p.tables e below (T14.setTop (mkF m 131 #[.val (.ref qa1), .val (.ref qa2), .val (.ref g_IS_NULL), .val .null, .val .null, .unset] [(.ref qa1)])) _
    refine XS.aloadN X14.here hx rfl (hb hby d1_131) rfl rfl ?_
    show Steps p.tables e below (T14.setTop (mkF m 132 #[.val (.ref qa1), .val (.ref qa2), .val (.ref g_IS_NULL), .val .null, .val .null, .unset] [(.ref qa2), (.ref qa1)])) _
    refine st19 _ ?_
    show Steps p.tables e below (T19.setTop (mkF m 135 #[.val (.ref qa1), .val (.ref qa2), .val (.ref g_IS_NULL), .val .null, .val .null, .unset] [])) _
    refine XS.aloadN X19.here hx rfl (hb hby d1_135) rfl rfl ?_
    show Steps p.tables e below (T19.setTop (mkF m 136 #[.val (.ref qa1), .val (.ref qa2), .val (.ref g_IS_NULL), .val .null, .val .null, .unset] [(.ref qa1)])) _
    refine XS.aloadN X19.here hx rfl (hb hby d1_136) rfl rfl ?_
    show Steps p.tables e below (T19.setTop (mkF m 137 #[.val (.ref qa1), .val (.ref qa2), .val (.ref g_IS_NULL), .val .null, .val .null, .unset] [(.ref g_IS_NULL), (.ref qa1)])) _
    refine st28 _ ?_
    show Steps p.tables e below (T28.setTop (mkF m 140 #[.val (.ref qa1), .val (.ref qa2), .val (.ref g_IS_NULL), .val .null, .val .null, .unset] [])) _
    refine XS.aloadN X28.here hx rfl (hb hby d1_140) rfl rfl ?_
    show Steps p.tables e below (T28.setTop (mkF m 141 #[.val (.ref qa1), .val (.ref qa2), .val (.ref g_IS_NULL), .val .null, .val .null, .unset] [(.ref qa1)])) _
    refine XS.aloadN X28.here hx rfl (hb hby d1_141) rfl rfl ?_
    show Steps p.tables e below (T28.setTop (mkF m 142 #[.val (.ref qa1), .val (.ref qa2), .val (.ref g_IS_NULL), .val .null, .val .null, .unset] [.null, (.ref qa1)])) _
    refine st38 _ ?_
    show Steps p.tables e below (T38.setTop (mkF m 145 #[.val (.ref qa1), .val (.ref qa2), .val (.ref g_IS_NULL), .val .null, .val .null, .unset] [])) _
    exact X38.returnOut hx Bd.returns (hb hby d1_145) hr
  · show Q5 Z g_IS_NULL g_AND g_OR qa1 qa2 h0 n0 _ T38.heap _
    rw [show T38.heap = h38 from e38]
    exact ⟨rfl, N38, K39, E43_, F45_, F46_, F42_⟩
  · show CHr Z ([] : List (String × Nat)) s.vm s.heap T38.vm T38.heap
    rw [hh]
    rw [show T38.heap = h38 from e38]
    exact hCe
theorem pd4 : parseMethodDescriptor "(Ljava/lang/String;Lcom/example/ratatoskr/ratatoskr/criteria/ComparisonOperator;Ljava/lang/Object;)V" = some ⟨[(.object "java/lang/String"), (.object "com/example/ratatoskr/ratatoskr/criteria/ComparisonOperator"), (.object "java/lang/Object")], none⟩ := by decide +kernel
theorem d0_11 : decode prog_13_method_2_code 11 = .ok (.invokespecial 7, 3) := by decide +kernel
theorem d5_0 : decode prog_13_method_3_code 0 = .ok (.aload_n 0, 1) := by decide +kernel
theorem d5_1 : decode prog_13_method_3_code 1 = .ok (.invokespecial 12, 3) := by decide +kernel
theorem d5_4 : decode prog_13_method_3_code 4 = .ok (.aload_n 0, 1) := by decide +kernel
theorem d5_5 : decode prog_13_method_3_code 5 = .ok (.aload_n 1, 1) := by decide +kernel
theorem d5_6 : decode prog_13_method_3_code 6 = .ok (.putfield 17, 3) := by decide +kernel
theorem d5_9 : decode prog_13_method_3_code 9 = .ok (.aload_n 0, 1) := by decide +kernel
theorem d5_10 : decode prog_13_method_3_code 10 = .ok (.aconst_null, 1) := by decide +kernel
theorem d5_11 : decode prog_13_method_3_code 11 = .ok (.putfield 21, 3) := by decide +kernel
theorem d5_14 : decode prog_13_method_3_code 14 = .ok (.aload_n 0, 1) := by decide +kernel
theorem d5_15 : decode prog_13_method_3_code 15 = .ok (.aconst_null, 1) := by decide +kernel
theorem d5_16 : decode prog_13_method_3_code 16 = .ok (.putfield 25, 3) := by decide +kernel
theorem d5_19 : decode prog_13_method_3_code 19 = .ok (.aload_n 0, 1) := by decide +kernel
theorem d5_20 : decode prog_13_method_3_code 20 = .ok (.aconst_null, 1) := by decide +kernel
theorem d5_21 : decode prog_13_method_3_code 21 = .ok (.putfield 29, 3) := by decide +kernel
theorem d5_24 : decode prog_13_method_3_code 24 = .ok (.return_, 1) := by decide +kernel
-- com/example/ratatoskr/ratatoskr/criteria/Filter.<init>(Lcom/example/ratatoskr/ratatoskr/criteria/Filter$Comparison;)V
def Q6 (Z : State) (qa1 : Addr) (qa2 : Addr) (h0 : Heap) (n0 : Nat) (v : Option Value) (h : Heap) (L : List Loc) : Prop := v = none ∧ Fr n0 L ∧ Keep h0 h [qa1] ∧ Exa Z h qa1 "com/example/ratatoskr/ratatoskr/criteria/Filter" ∧ Fld Z h qa1 "com/example/ratatoskr/ratatoskr/criteria/Filter" "comparison" "Lcom/example/ratatoskr/ratatoskr/criteria/Filter$Comparison;" (.ref qa2) ∧ Fld Z h qa1 "com/example/ratatoskr/ratatoskr/criteria/Filter" "left" "Lcom/example/ratatoskr/ratatoskr/criteria/Filter;" .null ∧ Fld Z h qa1 "com/example/ratatoskr/ratatoskr/criteria/Filter" "junction" "Lcom/example/ratatoskr/ratatoskr/criteria/Filter$Junction;" .null ∧ Fld Z h qa1 "com/example/ratatoskr/ratatoskr/criteria/Filter" "right" "Lcom/example/ratatoskr/ratatoskr/criteria/Filter;" .null
set_option maxRecDepth 65536 in
set_option maxHeartbeats 40000000 in
theorem rm6 (l : Launch) (Z : State) (a0 : Array Value) (hw : ∀ d ∈ tables_1, d.before a0 Z = true) (ws : List Jvm.Cond) (qa1 : Addr) (qa2 : Addr) (h0 : Heap) (n0 : Nat) (X00 : Old Z n0 h0) (E_qa1 : Exa Z h0 qa1 "com/example/ratatoskr/ratatoskr/criteria/Filter") (F_qa1_comparison : Fld Z h0 qa1 "com/example/ratatoskr/ratatoskr/criteria/Filter" "comparison" "Lcom/example/ratatoskr/ratatoskr/criteria/Filter$Comparison;" .null) (g_qa1 : n0 ≤ qa1) (F_qa1_left : Fld Z h0 qa1 "com/example/ratatoskr/ratatoskr/criteria/Filter" "left" "Lcom/example/ratatoskr/ratatoskr/criteria/Filter;" .null) (F_qa1_junction : Fld Z h0 qa1 "com/example/ratatoskr/ratatoskr/criteria/Filter" "junction" "Lcom/example/ratatoskr/ratatoskr/criteria/Filter$Junction;" .null) (F_qa1_right : Fld Z h0 qa1 "com/example/ratatoskr/ratatoskr/criteria/Filter" "right" "Lcom/example/ratatoskr/ratatoskr/criteria/Filter;" .null) :
    MetFree l (⟨"com/example/ratatoskr/ratatoskr/criteria/Filter", "<init>", "(Lcom/example/ratatoskr/ratatoskr/criteria/Filter$Comparison;)V"⟩ : MethodName) (head1 (Jvm.Cond.code (⟨"com/example/ratatoskr/ratatoskr/criteria/Filter", "<init>", "(Lcom/example/ratatoskr/ratatoskr/criteria/Filter$Comparison;)V"⟩ : MethodName) prog_13_method_3_code 2 none :: ws) ({ frames := 1, cells := 0, slots := 0, locals := 12 } : Room)) (fun a U => a = #[(.ref qa1), (.ref qa2)] ∧ Z.Warmed39 U.vm ∧ U.heap = h0) (fun _ _ _ _ _ => True) (fun _ U o U' => ∃ v L, o = .returned v ∧ Q6 Z qa1 qa2 h0 n0 v U'.heap L ∧ FrameEnd U o U' L ({ frames := 1, cells := 0, slots := 0, locals := 12 } : Room).cells ({ frames := 1, cells := 0, slots := 0, locals := 12 } : Room).slots) := by
  refine MetFree.of_bodySF (plainFor_of_name pn1) hisR ?_
  intro p e s m args below meth c s₁ Bd hml0 hP hK
  obtain ⟨rfl, hZ, hh⟩ := hP
  have hx := Bd.exec
  have hby := Bd.bytes
  have hml : c.maxLocals = 2 := hml0
  have hown : s.vm.findClass "com/example/ratatoskr/ratatoskr/criteria/Filter" = some m.cls := findClass_of_methodNamed Bd.named
  have hnm := (name_of_methodNamed Bd.named Bd.method).1
  have X0 : Stand p l e ({ frames := 1, cells := 0, slots := 0, locals := 12 } : Room) s m #[(.ref qa1), (.ref qa2)] below meth c s₁ [] 0 0 := Stand.of_body Bd
  have e0 : s₁.heap = h0 := by rw [← hh, Bd.state]; rfl
  have N0 := Fr.nil n0
  have pre0 : ∀ t, Steps p.tables e below (s₁.setTop (mkF m 0 #[.val (.ref qa1), .val (.ref qa2)] [])) t → Steps p.tables e below (s₁.setTop (entryFrame m #[(.ref qa1), (.ref qa2)] 2)) t := fun t k => castTop (ef4 m qa1 qa2) k
  obtain ⟨T1, X1, e1, st1⟩ := initO X0 hx hZ hown (hw _ (List.mem_of_getElem? (i := 75) rfl)) (hw _ (List.mem_of_getElem? (i := 15) rfl)) (hw _ (List.mem_of_getElem? (i := 16) rfl)) e0 (g := (mkF m 1 #[.val (.ref qa1), .val (.ref qa2)] [(.ref qa1)])) rfl (by rw [hml]; rfl) rfl (hb hby d5_1) (by decide) (W := 0) (by show 2 * 0 + _ ≤ _; exact Nat.le_of_eq rfl) (by decide)
  obtain ⟨T2, h2, X2, e2, W2, st2⟩ := putF X1 hx hZ hown (host := "") (Or.inl (hw _ (List.mem_of_getElem? (i := 76) rfl))) Via.refl e1 F_qa1_comparison E_qa1 (Or.inr ⟨(hw _ (List.mem_of_getElem? (i := 77) rfl)), rfl, hnm⟩) (hw _ (List.mem_of_getElem? (i := 2) rfl)) (ty := (.object "com/example/ratatoskr/ratatoskr/criteria/Filter$Comparison")) (by decide) rfl rfl (g := (mkF m 6 #[.val (.ref qa1), .val (.ref qa2)] [(.ref qa2), (.ref qa1)])) rfl rfl (hb hby d5_6)
  have N2 := Fr.snoc X2 N0 g_qa1
  have K3 : Keep h0 h2 [qa1] := (Keep.refl h0 [qa1]).wr W2 (Or.inl (List.mem_of_getElem? (i := 0) rfl))
  have F4_ : Fld Z h2 qa1 "com/example/ratatoskr/ratatoskr/criteria/Filter" "comparison" "Lcom/example/ratatoskr/ratatoskr/criteria/Filter$Comparison;" (.ref qa2) := F_qa1_comparison.same W2
  have F5_ : Fld Z h2 qa1 "com/example/ratatoskr/ratatoskr/criteria/Filter" "left" "Lcom/example/ratatoskr/ratatoskr/criteria/Filter;" .null := F_qa1_left.other W2 (Or.inr (slot_ne (Or.inr (hw _ (List.mem_of_getElem? (i := 79) rfl))) (Or.inr (hw _ (List.mem_of_getElem? (i := 77) rfl))) (by decide) (t := (.object "com/example/ratatoskr/ratatoskr/criteria/Filter")) (t' := (.object "com/example/ratatoskr/ratatoskr/criteria/Filter$Comparison")) (by decide) (by decide)))
  have E6_ : Exa Z h2 qa1 "com/example/ratatoskr/ratatoskr/criteria/Filter" := E_qa1.wr W2
  obtain ⟨T7, h7, X7, e7, W7, st7⟩ := putF X2 hx hZ hown (host := "") (Or.inl (hw _ (List.mem_of_getElem? (i := 78) rfl))) Via.refl e2 F5_ E6_ (Or.inr ⟨(hw _ (List.mem_of_getElem? (i := 79) rfl)), rfl, hnm⟩) (hw _ (List.mem_of_getElem? (i := 2) rfl)) (ty := (.object "com/example/ratatoskr/ratatoskr/criteria/Filter")) (by decide) rfl rfl (g := (mkF m 11 #[.val (.ref qa1), .val (.ref qa2)] [.null, (.ref qa1)])) rfl rfl (hb hby d5_11)
  have N7 := Fr.snoc X7 N2 g_qa1
  have K8 : Keep h0 h7 [qa1] := K3.wr W7 (Or.inl (List.mem_of_getElem? (i := 0) rfl))
  have F9_ : Fld Z h7 qa1 "com/example/ratatoskr/ratatoskr/criteria/Filter" "left" "Lcom/example/ratatoskr/ratatoskr/criteria/Filter;" .null := F5_.same W7
  have F10_ : Fld Z h2 qa1 "com/example/ratatoskr/ratatoskr/criteria/Filter" "junction" "Lcom/example/ratatoskr/ratatoskr/criteria/Filter$Junction;" .null := F_qa1_junction.other W2 (Or.inr (slot_ne (Or.inr (hw _ (List.mem_of_getElem? (i := 81) rfl))) (Or.inr (hw _ (List.mem_of_getElem? (i := 77) rfl))) (by decide) (t := (.object "com/example/ratatoskr/ratatoskr/criteria/Filter$Junction")) (t' := (.object "com/example/ratatoskr/ratatoskr/criteria/Filter$Comparison")) (by decide) (by decide)))
  have F11_ : Fld Z h7 qa1 "com/example/ratatoskr/ratatoskr/criteria/Filter" "junction" "Lcom/example/ratatoskr/ratatoskr/criteria/Filter$Junction;" .null := F10_.other W7 (Or.inr (slot_ne (Or.inr (hw _ (List.mem_of_getElem? (i := 81) rfl))) (Or.inr (hw _ (List.mem_of_getElem? (i := 79) rfl))) (by decide) (t := (.object "com/example/ratatoskr/ratatoskr/criteria/Filter$Junction")) (t' := (.object "com/example/ratatoskr/ratatoskr/criteria/Filter")) (by decide) (by decide)))
  have E12_ : Exa Z h7 qa1 "com/example/ratatoskr/ratatoskr/criteria/Filter" := E6_.wr W7
  obtain ⟨T13, h13, X13, e13, W13, st13⟩ := putF X7 hx hZ hown (host := "") (Or.inl (hw _ (List.mem_of_getElem? (i := 80) rfl))) Via.refl e7 F11_ E12_ (Or.inr ⟨(hw _ (List.mem_of_getElem? (i := 81) rfl)), rfl, hnm⟩) (hw _ (List.mem_of_getElem? (i := 2) rfl)) (ty := (.object "com/example/ratatoskr/ratatoskr/criteria/Filter$Junction")) (by decide) rfl rfl (g := (mkF m 16 #[.val (.ref qa1), .val (.ref qa2)] [.null, (.ref qa1)])) rfl rfl (hb hby d5_16)
  have N13 := Fr.snoc X13 N7 g_qa1
  have K14 : Keep h0 h13 [qa1] := K8.wr W13 (Or.inl (List.mem_of_getElem? (i := 0) rfl))
  have F15_ : Fld Z h13 qa1 "com/example/ratatoskr/ratatoskr/criteria/Filter" "junction" "Lcom/example/ratatoskr/ratatoskr/criteria/Filter$Junction;" .null := F11_.same W13
  have F16_ : Fld Z h2 qa1 "com/example/ratatoskr/ratatoskr/criteria/Filter" "right" "Lcom/example/ratatoskr/ratatoskr/criteria/Filter;" .null := F_qa1_right.other W2 (Or.inr (slot_ne (Or.inr (hw _ (List.mem_of_getElem? (i := 83) rfl))) (Or.inr (hw _ (List.mem_of_getElem? (i := 77) rfl))) (by decide) (t := (.object "com/example/ratatoskr/ratatoskr/criteria/Filter")) (t' := (.object "com/example/ratatoskr/ratatoskr/criteria/Filter$Comparison")) (by decide) (by decide)))
  have F17_ : Fld Z h7 qa1 "com/example/ratatoskr/ratatoskr/criteria/Filter" "right" "Lcom/example/ratatoskr/ratatoskr/criteria/Filter;" .null := F16_.other W7 (Or.inr (slot_ne (Or.inr (hw _ (List.mem_of_getElem? (i := 83) rfl))) (Or.inr (hw _ (List.mem_of_getElem? (i := 79) rfl))) (by decide) (t := (.object "com/example/ratatoskr/ratatoskr/criteria/Filter")) (t' := (.object "com/example/ratatoskr/ratatoskr/criteria/Filter")) (by decide) (by decide)))
  have F18_ : Fld Z h13 qa1 "com/example/ratatoskr/ratatoskr/criteria/Filter" "right" "Lcom/example/ratatoskr/ratatoskr/criteria/Filter;" .null := F17_.other W13 (Or.inr (slot_ne (Or.inr (hw _ (List.mem_of_getElem? (i := 83) rfl))) (Or.inr (hw _ (List.mem_of_getElem? (i := 81) rfl))) (by decide) (t := (.object "com/example/ratatoskr/ratatoskr/criteria/Filter")) (t' := (.object "com/example/ratatoskr/ratatoskr/criteria/Filter$Junction")) (by decide) (by decide)))
  have E19_ : Exa Z h13 qa1 "com/example/ratatoskr/ratatoskr/criteria/Filter" := E12_.wr W13
  obtain ⟨T20, h20, X20, e20, W20, st20⟩ := putF X13 hx hZ hown (host := "") (Or.inl (hw _ (List.mem_of_getElem? (i := 82) rfl))) Via.refl e13 F18_ E19_ (Or.inr ⟨(hw _ (List.mem_of_getElem? (i := 83) rfl)), rfl, hnm⟩) (hw _ (List.mem_of_getElem? (i := 2) rfl)) (ty := (.object "com/example/ratatoskr/ratatoskr/criteria/Filter")) (by decide) rfl rfl (g := (mkF m 21 #[.val (.ref qa1), .val (.ref qa2)] [.null, (.ref qa1)])) rfl rfl (hb hby d5_21)
  have N20 := Fr.snoc X20 N13 g_qa1
  have K21 : Keep h0 h20 [qa1] := K14.wr W20 (Or.inl (List.mem_of_getElem? (i := 0) rfl))
  have F22_ : Fld Z h20 qa1 "com/example/ratatoskr/ratatoskr/criteria/Filter" "right" "Lcom/example/ratatoskr/ratatoskr/criteria/Filter;" .null := F18_.same W20
  have E23_ : Exa Z h20 qa1 "com/example/ratatoskr/ratatoskr/criteria/Filter" := E19_.wr W20
  have F24_ : Fld Z h7 qa1 "com/example/ratatoskr/ratatoskr/criteria/Filter" "comparison" "Lcom/example/ratatoskr/ratatoskr/criteria/Filter$Comparison;" (.ref qa2) := F4_.other W7 (Or.inr (slot_ne (Or.inr (hw _ (List.mem_of_getElem? (i := 77) rfl))) (Or.inr (hw _ (List.mem_of_getElem? (i := 79) rfl))) (by decide) (t := (.object "com/example/ratatoskr/ratatoskr/criteria/Filter$Comparison")) (t' := (.object "com/example/ratatoskr/ratatoskr/criteria/Filter")) (by decide) (by decide)))
  have F25_ : Fld Z h13 qa1 "com/example/ratatoskr/ratatoskr/criteria/Filter" "comparison" "Lcom/example/ratatoskr/ratatoskr/criteria/Filter$Comparison;" (.ref qa2) := F24_.other W13 (Or.inr (slot_ne (Or.inr (hw _ (List.mem_of_getElem? (i := 77) rfl))) (Or.inr (hw _ (List.mem_of_getElem? (i := 81) rfl))) (by decide) (t := (.object "com/example/ratatoskr/ratatoskr/criteria/Filter$Comparison")) (t' := (.object "com/example/ratatoskr/ratatoskr/criteria/Filter$Junction")) (by decide) (by decide)))
  have F26_ : Fld Z h20 qa1 "com/example/ratatoskr/ratatoskr/criteria/Filter" "comparison" "Lcom/example/ratatoskr/ratatoskr/criteria/Filter$Comparison;" (.ref qa2) := F25_.other W20 (Or.inr (slot_ne (Or.inr (hw _ (List.mem_of_getElem? (i := 77) rfl))) (Or.inr (hw _ (List.mem_of_getElem? (i := 83) rfl))) (by decide) (t := (.object "com/example/ratatoskr/ratatoskr/criteria/Filter$Comparison")) (t' := (.object "com/example/ratatoskr/ratatoskr/criteria/Filter")) (by decide) (by decide)))
  have F27_ : Fld Z h13 qa1 "com/example/ratatoskr/ratatoskr/criteria/Filter" "left" "Lcom/example/ratatoskr/ratatoskr/criteria/Filter;" .null := F9_.other W13 (Or.inr (slot_ne (Or.inr (hw _ (List.mem_of_getElem? (i := 79) rfl))) (Or.inr (hw _ (List.mem_of_getElem? (i := 81) rfl))) (by decide) (t := (.object "com/example/ratatoskr/ratatoskr/criteria/Filter")) (t' := (.object "com/example/ratatoskr/ratatoskr/criteria/Filter$Junction")) (by decide) (by decide)))
  have F28_ : Fld Z h20 qa1 "com/example/ratatoskr/ratatoskr/criteria/Filter" "left" "Lcom/example/ratatoskr/ratatoskr/criteria/Filter;" .null := F27_.other W20 (Or.inr (slot_ne (Or.inr (hw _ (List.mem_of_getElem? (i := 79) rfl))) (Or.inr (hw _ (List.mem_of_getElem? (i := 83) rfl))) (by decide) (t := (.object "com/example/ratatoskr/ratatoskr/criteria/Filter")) (t' := (.object "com/example/ratatoskr/ratatoskr/criteria/Filter")) (by decide) (by decide)))
  have F29_ : Fld Z h20 qa1 "com/example/ratatoskr/ratatoskr/criteria/Filter" "junction" "Lcom/example/ratatoskr/ratatoskr/criteria/Filter$Junction;" .null := F15_.other W20 (Or.inr (slot_ne (Or.inr (hw _ (List.mem_of_getElem? (i := 81) rfl))) (Or.inr (hw _ (List.mem_of_getElem? (i := 83) rfl))) (by decide) (t := (.object "com/example/ratatoskr/ratatoskr/criteria/Filter$Junction")) (t' := (.object "com/example/ratatoskr/ratatoskr/criteria/Filter")) (by decide) (by decide)))
  obtain ⟨fs, hr, hrun, hended, hW, hsame⟩ := X20.leave (v := none) (fun _ => rfl)
  refine ⟨_, _, pre0 _ ?_, hrun, hended, _, _, rfl, ?_, ⟨_, rfl⟩, hW, hsame.mono (by decide) (by decide)⟩
  · show Steps p.tables e below (s₁.setTop (mkF m 0 #[.val (.ref qa1), .val (.ref qa2)] [])) _
    refine XS.aloadN X0.here hx rfl (hb hby d5_0) rfl rfl ?_
    show Steps p.tables e below (s₁.setTop (mkF m 1 #[.val (.ref qa1), .val (.ref qa2)] [(.ref qa1)])) _
    refine st1 _ ?_
    show Steps p.tables e below (T1.setTop (mkF m 4 #[.val (.ref qa1), .val (.ref qa2)] [])) _
    refine XS.aloadN X1.here hx rfl (hb hby d5_4) rfl rfl ?_
    show Steps p.tables e below (T1.setTop (mkF m 5 #[.val (.ref qa1), .val (.ref qa2)] [(.ref qa1)])) _
    refine XS.aloadN X1.here hx rfl (hb hby d5_5) rfl rfl ?_
    show Steps p.tables e below (T1.setTop (mkF m 6 #[.val (.ref qa1), .val (.ref qa2)] [(.ref qa2), (.ref qa1)])) _
    refine st2 _ ?_
    show Steps p.tables e below (T2.setTop (mkF m 9 #[.val (.ref qa1), .val (.ref qa2)] [])) _
    refine XS.aloadN X2.here hx rfl (hb hby d5_9) rfl rfl ?_
    show Steps p.tables e below (T2.setTop (mkF m 10 #[.val (.ref qa1), .val (.ref qa2)] [(.ref qa1)])) _
    refine XS.aconstNull X2.here hx rfl (hb hby d5_10) ?_
    show Steps p.tables e below (T2.setTop (mkF m 11 #[.val (.ref qa1), .val (.ref qa2)] [.null, (.ref qa1)])) _
    refine st7 _ ?_
    show Steps p.tables e below (T7.setTop (mkF m 14 #[.val (.ref qa1), .val (.ref qa2)] [])) _
    refine XS.aloadN X7.here hx rfl (hb hby d5_14) rfl rfl ?_
    show Steps p.tables e below (T7.setTop (mkF m 15 #[.val (.ref qa1), .val (.ref qa2)] [(.ref qa1)])) _
    refine XS.aconstNull X7.here hx rfl (hb hby d5_15) ?_
    show Steps p.tables e below (T7.setTop (mkF m 16 #[.val (.ref qa1), .val (.ref qa2)] [.null, (.ref qa1)])) _
    refine st13 _ ?_
    show Steps p.tables e below (T13.setTop (mkF m 19 #[.val (.ref qa1), .val (.ref qa2)] [])) _
    refine XS.aloadN X13.here hx rfl (hb hby d5_19) rfl rfl ?_
    show Steps p.tables e below (T13.setTop (mkF m 20 #[.val (.ref qa1), .val (.ref qa2)] [(.ref qa1)])) _
    refine XS.aconstNull X13.here hx rfl (hb hby d5_20) ?_
    show Steps p.tables e below (T13.setTop (mkF m 21 #[.val (.ref qa1), .val (.ref qa2)] [.null, (.ref qa1)])) _
    refine st20 _ ?_
    show Steps p.tables e below (T20.setTop (mkF m 24 #[.val (.ref qa1), .val (.ref qa2)] [])) _
    exact X20.returnOut hx Bd.returns (hb hby d5_24) hr
  · show Q6 Z qa1 qa2 h0 n0 _ T20.heap _
    rw [show T20.heap = h20 from e20]
    exact ⟨rfl, N20, K21, E23_, F26_, F28_, F29_, F22_⟩
theorem pd5 : parseMethodDescriptor "(Lcom/example/ratatoskr/ratatoskr/criteria/Filter$Comparison;)V" = some ⟨[(.object "com/example/ratatoskr/ratatoskr/criteria/Filter$Comparison")], none⟩ := by decide +kernel
theorem d0_14 : decode prog_13_method_2_code 14 = .ok (.return_, 1) := by decide +kernel
-- com/example/ratatoskr/ratatoskr/criteria/Filter.<init>(Ljava/lang/String;Lcom/example/ratatoskr/ratatoskr/criteria/ComparisonOperator;)V
def Q7 (Z : State) (g_IS_NULL : Addr) (g_AND : Addr) (g_OR : Addr) (qa1 : Addr) (qa2 : Addr) (h0 : Heap) (n0 : Nat) (v : Option Value) (h : Heap) (L : List Loc) : Prop := ∃ b1 : Addr, v = none ∧ Fr n0 L ∧ Keep h0 h [qa1] ∧ h0.size ≤ b1 ∧ Exa Z h qa1 "com/example/ratatoskr/ratatoskr/criteria/Filter" ∧ Fld Z h qa1 "com/example/ratatoskr/ratatoskr/criteria/Filter" "comparison" "Lcom/example/ratatoskr/ratatoskr/criteria/Filter$Comparison;" (.ref b1) ∧ Fld Z h qa1 "com/example/ratatoskr/ratatoskr/criteria/Filter" "left" "Lcom/example/ratatoskr/ratatoskr/criteria/Filter;" .null ∧ Fld Z h qa1 "com/example/ratatoskr/ratatoskr/criteria/Filter" "junction" "Lcom/example/ratatoskr/ratatoskr/criteria/Filter$Junction;" .null ∧ Fld Z h qa1 "com/example/ratatoskr/ratatoskr/criteria/Filter" "right" "Lcom/example/ratatoskr/ratatoskr/criteria/Filter;" .null ∧ Exa Z h b1 "com/example/ratatoskr/ratatoskr/criteria/Filter$Comparison" ∧ Fld Z h b1 "com/example/ratatoskr/ratatoskr/criteria/Filter$Comparison" "property" "Ljava/lang/String;" (.ref qa2) ∧ Fld Z h b1 "com/example/ratatoskr/ratatoskr/criteria/Filter$Comparison" "operator" "Lcom/example/ratatoskr/ratatoskr/criteria/ComparisonOperator;" (.ref g_IS_NULL) ∧ Fld Z h b1 "com/example/ratatoskr/ratatoskr/criteria/Filter$Comparison" "value" "Ljava/lang/Object;" .null
set_option maxRecDepth 65536 in
set_option maxHeartbeats 40000000 in
theorem rm7 (l : Launch) (Z : State) (a0 : Array Value) (hw : ∀ d ∈ tables_1, d.before a0 Z = true) (ws : List Jvm.Cond) (g_IS_NULL : Addr) (g_AND : Addr) (g_OR : Addr) (qa1 : Addr) (qa2 : Addr) (h0 : Heap) (n0 : Nat) (X00 : Old Z n0 h0) (hEN : OwnEN Z g_IS_NULL g_AND g_OR) (E_qa1 : Exa Z h0 qa1 "com/example/ratatoskr/ratatoskr/criteria/Filter") (F_qa1_comparison : Fld Z h0 qa1 "com/example/ratatoskr/ratatoskr/criteria/Filter" "comparison" "Lcom/example/ratatoskr/ratatoskr/criteria/Filter$Comparison;" .null) (g_qa1 : n0 ≤ qa1) (F_qa1_left : Fld Z h0 qa1 "com/example/ratatoskr/ratatoskr/criteria/Filter" "left" "Lcom/example/ratatoskr/ratatoskr/criteria/Filter;" .null) (F_qa1_junction : Fld Z h0 qa1 "com/example/ratatoskr/ratatoskr/criteria/Filter" "junction" "Lcom/example/ratatoskr/ratatoskr/criteria/Filter$Junction;" .null) (F_qa1_right : Fld Z h0 qa1 "com/example/ratatoskr/ratatoskr/criteria/Filter" "right" "Lcom/example/ratatoskr/ratatoskr/criteria/Filter;" .null) :
    MetFree l (⟨"com/example/ratatoskr/ratatoskr/criteria/Filter", "<init>", "(Ljava/lang/String;Lcom/example/ratatoskr/ratatoskr/criteria/ComparisonOperator;)V"⟩ : MethodName) (head1 (Jvm.Cond.code (⟨"com/example/ratatoskr/ratatoskr/criteria/Filter", "<init>", "(Ljava/lang/String;Lcom/example/ratatoskr/ratatoskr/criteria/ComparisonOperator;)V"⟩ : MethodName) prog_13_method_2_code 3 none :: ws) ({ frames := 3, cells := 5, slots := 75, locals := 43 } : Room)) (fun a U => a = #[(.ref qa1), (.ref qa2), (.ref g_IS_NULL)] ∧ Z.Warmed39 U.vm ∧ U.heap = h0 ∧ CHv Z ([] : List (String × Nat)) U.vm h0) (fun _ _ _ _ _ => True) (fun _ U o U' => ∃ v L, o = .returned v ∧ Q7 Z g_IS_NULL g_AND g_OR qa1 qa2 h0 n0 v U'.heap L ∧ CHr Z ([] : List (String × Nat)) U.vm U.heap U'.vm U'.heap ∧ ReturnedEndW U o U' L ({ frames := 3, cells := 5, slots := 75, locals := 43 } : Room).cells ({ frames := 3, cells := 5, slots := 75, locals := 43 } : Room).slots) := by
  refine MetFree.of_bodySF (plainFor_of_name pn1) hisR ?_
  intro p e s m args below meth c s₁ Bd hml0 hP hK
  obtain ⟨rfl, hZ, hh, hC0⟩ := hP
  have hx := Bd.exec
  have hby := Bd.bytes
  have hml : c.maxLocals = 3 := hml0
  have hown : s.vm.findClass "com/example/ratatoskr/ratatoskr/criteria/Filter" = some m.cls := findClass_of_methodNamed Bd.named
  have hnm := (name_of_methodNamed Bd.named Bd.method).1
  have X0 : Stand p l e ({ frames := 3, cells := 5, slots := 75, locals := 43 } : Room) (s.setVm s.vm) m #[(.ref qa1), (.ref qa2), (.ref g_IS_NULL)] below meth c s₁ [] 0 0 := Stand.of_body Bd
  have e0 : s₁.heap = h0 := by rw [← hh, Bd.state]; rfl
  have N0 := Fr.nil n0
  have pre0 : ∀ t, Steps p.tables e below (s₁.setTop (mkF m 0 #[.val (.ref qa1), .val (.ref qa2), .val (.ref g_IS_NULL)] [])) t → Steps p.tables e below (s₁.setTop (entryFrame m #[(.ref qa1), (.ref qa2), (.ref g_IS_NULL)] 3)) t := fun t k => castTop (ef1 m qa1 qa2 g_IS_NULL) k
  have hS0 : s.Since s.vm h0.size := (State.WarmedH.refl s).since _
  have hk0 : h0.size ≤ h0.size := Nat.le_refl _
  have hR0 : CHr Z ([] : List (String × Nat)) s.vm h0 s.vm h0 := CHr.refl hC0
  have hEL := own_EW hw
  have hwS := own_wS hw
  obtain ⟨T1, h1, X1, e1, E1, A1, D1, -, st1⟩ := newO X0 hx hZ hown (hw _ (List.mem_of_getElem? (i := 39) rfl)) (hw _ (List.mem_of_getElem? (i := 40) rfl)) (hw _ (List.mem_of_getElem? (i := 41) rfl)) e0 (g := (mkF m 1 #[.val (.ref qa1), .val (.ref qa2), .val (.ref g_IS_NULL)] [(.ref qa1)])) rfl (hb hby d0_1) (by decide) (by decide)
  obtain ⟨b1, g1⟩ : ∃ z, z = h0.size := ⟨_, rfl⟩
  rw [← g1] at A1 D1 st1
  have K2 : Keep h0 h1 [qa1] := (Keep.refl h0 [qa1]).ext E1
  have C3 : CHv Z ([] : List (String × Nat)) s.vm h1 := CHv.ext E1 hC0
  have R4 : CHr Z ([] : List (String × Nat)) s.vm h0 s.vm h1 := hR0.trans (CHr.ext E1 hC0)
  have F5_ : Fld Z h1 b1 "com/example/ratatoskr/ratatoskr/criteria/Filter$Comparison" "property" "Ljava/lang/String;" .null := D1 (Or.inr (hw _ (List.mem_of_getElem? (i := 67) rfl))) (ty := (.object "java/lang/String")) (by decide)
  have F6_ : Fld Z h1 b1 "com/example/ratatoskr/ratatoskr/criteria/Filter$Comparison" "operator" "Lcom/example/ratatoskr/ratatoskr/criteria/ComparisonOperator;" .null := D1 (Or.inr (hw _ (List.mem_of_getElem? (i := 69) rfl))) (ty := (.object "com/example/ratatoskr/ratatoskr/criteria/ComparisonOperator")) (by decide)
  have F7_ : Fld Z h1 b1 "com/example/ratatoskr/ratatoskr/criteria/Filter$Comparison" "value" "Ljava/lang/Object;" .null := D1 (Or.inr (hw _ (List.mem_of_getElem? (i := 71) rfl))) (ty := (.object "java/lang/Object")) (by decide)
  have g_b1 : n0 ≤ b1 := Nat.le_trans (Nat.le_trans (Nat.le_of_eq X00.1.symm) X00.2.1) (Nat.le_of_eq g1.symm)
  have O9 : Old Z n0 h1 := X00.ext E1
  obtain ⟨_, _, ⟨T8, L8, k8, n8⟩, -, X8, hS8, hgr8, ⟨Lc8, hQ8, l8, y8, z8, CR8⟩, st8⟩ := X1.specialBackS hx (y := (⟨"com/example/ratatoskr/ratatoskr/criteria/Filter$Comparison", "<init>", "(Ljava/lang/String;Lcom/example/ratatoskr/ratatoskr/criteria/ComparisonOperator;Ljava/lang/Object;)V"⟩ : MethodName)) rfl hown (mvT hZ (hw _ (List.mem_of_getElem? (i := 42) rfl))) (mvT hZ (hw _ (List.mem_of_getElem? (i := 43) rfl))) (mvT hZ (hw _ (List.mem_of_getElem? (i := 44) rfl))) (by decide) (backOfSH (W := 2) (EL := ([] : List (String × Nat))) (s := s) (rm5 l Z a0 hw [] g_IS_NULL g_AND g_OR b1 qa2 h1 n0 O9 hEN A1 F5_ g_b1 F6_ F7_) hZ (hw _ (List.mem_of_getElem? (i := 44) rfl)) (hw _ (List.mem_of_getElem? (i := 41) rfl)) (by decide) (by decide) hEL C3) (g := (mkF m 8 #[.val (.ref qa1), .val (.ref qa2), .val (.ref g_IS_NULL)] [.null, (.ref g_IS_NULL), (.ref qa2), (.ref b1), (.ref b1), (.ref qa1)])) rfl (by rw [hml]; rfl) (Steps.refl _) (a := b1) (argsL := [(.ref qa2), (.ref g_IS_NULL), .null]) (rest := [(.ref b1), (.ref qa1)]) (lenOf pd4 rfl) rfl (by show 2 * 0 + _ ≤ _; exact Nat.le_of_eq rfl) (hb hby d0_8) (fun _ _ => ⟨rfl, e1, (by decide : 1 + 4 ≤ _), (by decide : 3 + 72 ≤ _)⟩)
  dsimp only [Pt.U, Pt.locs, Pt.cells, Pt.slots] at X8 l8 y8 z8 st8 hQ8 CR8 hS8 hgr8
  subst l8 y8 z8
  obtain ⟨rfl, N8q, K8q, w10, w11, w12, w13⟩ := hQ8
  have N8 := Fr.app N0 N8q
  have hk14' : _ ≤ h1.size := (Nat.le_trans hk0 E1.1)
  have hS8_ : s.Since T8.vm T8.heap.size := hS0.trans hS8 (Nat.le_trans hk14' (show h1.size ≤ T8.heap.size from (e1 ▸ hgr8)))
  have hZ8 : Z.Warmed39 T8.vm := State.Warmed39.trans (t := s.setVm s.vm) hZ hS8.1
  have ho8 : T8.vm.findClass "com/example/ratatoskr/ratatoskr/criteria/Filter" = some m.cls := by rw [hS8.1.alike.findClass]; exact hown
  have X8_ : Stand p l e ({ frames := 3, cells := 5, slots := 75, locals := 43 } : Room) (s.setVm T8.vm) m #[(.ref qa1), (.ref qa2), (.ref g_IS_NULL)] below meth c T8 _ _ _ := X8
  have hk8 : T8.heap.size ≤ T8.heap.size := Nat.le_refl _
  have sz_b1 : h0.size ≤ b1 := (Nat.le_of_eq g1.symm)
  have K15 : Keep h0 T8.heap [qa1] := K2.trans K8q (allS (Or.inr sz_b1) all0)
  have R17 : CHr Z ([] : List (String × Nat)) s.vm h0 T8.vm T8.heap := R4.trans CR8
  have E19_ : Exa Z h1 qa1 "com/example/ratatoskr/ratatoskr/criteria/Filter" := E_qa1.ext E1
  have E20_ : Exa Z T8.heap qa1 "com/example/ratatoskr/ratatoskr/criteria/Filter" := E19_.keep K8q
  have F21_ : Fld Z h1 qa1 "com/example/ratatoskr/ratatoskr/criteria/Filter" "comparison" "Lcom/example/ratatoskr/ratatoskr/criteria/Filter$Comparison;" .null := F_qa1_comparison.ext E1
  have F22_ : Fld Z T8.heap qa1 "com/example/ratatoskr/ratatoskr/criteria/Filter" "comparison" "Lcom/example/ratatoskr/ratatoskr/criteria/Filter$Comparison;" .null := F21_.keep K8q (ninS (Nat.ne_of_lt (Nat.lt_of_lt_of_le E_qa1.lt (Nat.le_of_eq g1.symm))) nin0)
  have F23_ : Fld Z h1 qa1 "com/example/ratatoskr/ratatoskr/criteria/Filter" "left" "Lcom/example/ratatoskr/ratatoskr/criteria/Filter;" .null := F_qa1_left.ext E1
  have F24_ : Fld Z T8.heap qa1 "com/example/ratatoskr/ratatoskr/criteria/Filter" "left" "Lcom/example/ratatoskr/ratatoskr/criteria/Filter;" .null := F23_.keep K8q (ninS (Nat.ne_of_lt (Nat.lt_of_lt_of_le E_qa1.lt (Nat.le_of_eq g1.symm))) nin0)
  have F25_ : Fld Z h1 qa1 "com/example/ratatoskr/ratatoskr/criteria/Filter" "junction" "Lcom/example/ratatoskr/ratatoskr/criteria/Filter$Junction;" .null := F_qa1_junction.ext E1
  have F26_ : Fld Z T8.heap qa1 "com/example/ratatoskr/ratatoskr/criteria/Filter" "junction" "Lcom/example/ratatoskr/ratatoskr/criteria/Filter$Junction;" .null := F25_.keep K8q (ninS (Nat.ne_of_lt (Nat.lt_of_lt_of_le E_qa1.lt (Nat.le_of_eq g1.symm))) nin0)
  have F27_ : Fld Z h1 qa1 "com/example/ratatoskr/ratatoskr/criteria/Filter" "right" "Lcom/example/ratatoskr/ratatoskr/criteria/Filter;" .null := F_qa1_right.ext E1
  have F28_ : Fld Z T8.heap qa1 "com/example/ratatoskr/ratatoskr/criteria/Filter" "right" "Lcom/example/ratatoskr/ratatoskr/criteria/Filter;" .null := F27_.keep K8q (ninS (Nat.ne_of_lt (Nat.lt_of_lt_of_le E_qa1.lt (Nat.le_of_eq g1.symm))) nin0)
  have O29 : Old Z n0 T8.heap := O9.keep K8q (allS g_b1 all0)
  obtain ⟨_, _, ⟨T18, L18, k18, n18⟩, -, X18, ⟨Lc18, hQ18, l18, y18, z18⟩, st18⟩ := X8_.specialBack hx (y := (⟨"com/example/ratatoskr/ratatoskr/criteria/Filter", "<init>", "(Lcom/example/ratatoskr/ratatoskr/criteria/Filter$Comparison;)V"⟩ : MethodName)) rfl ho8 (mvT hZ8 (hw _ (List.mem_of_getElem? (i := 72) rfl))) (mvT hZ8 (hw _ (List.mem_of_getElem? (i := 73) rfl))) (mvT hZ8 (hw _ (List.mem_of_getElem? (i := 74) rfl))) (by decide) (backOf (s := s.setVm T8.vm) (W := 0) (rm6 l Z a0 hw []  qa1 b1 T8.heap n0 O29 E20_ F22_ g_qa1 F24_ F26_ F28_) hZ8 (hw _ (List.mem_of_getElem? (i := 74) rfl)) (hw _ (List.mem_of_getElem? (i := 3) rfl)) (by decide) (by decide)) (g := (mkF m 11 #[.val (.ref qa1), .val (.ref qa2), .val (.ref g_IS_NULL)] [(.ref b1), (.ref qa1)])) rfl (by rw [hml]; rfl) (Steps.refl _) (a := qa1) (argsL := [(.ref b1)]) (rest := []) (lenOf pd5 rfl) rfl (by show 2 * 0 + _ ≤ _; exact Nat.le_of_eq rfl) (hb hby d0_11) (fun _ _ => ⟨rfl, rfl, (by decide : 5 + 0 ≤ _), (by decide : 75 + 0 ≤ _)⟩)
  dsimp only [Pt.U, Pt.locs, Pt.cells, Pt.slots] at X18 l18 y18 z18 st18 hQ18
  subst l18 y18 z18
  obtain ⟨rfl, N18q, K18q, w30, w31, w32, w33, w34⟩ := hQ18
  have N18 := Fr.app N8 N18q
  have K35 : Keep h0 T18.heap [qa1] := K15.trans K18q (allS (Or.inl (List.mem_of_getElem? (i := 0) rfl)) all0)
  have C36 : CHv Z ([] : List (String × Nat)) T8.vm T18.heap := CHv.keep K18q (sfS (Safe.exa hZ8.alike E20_ (by decide) (by decide)) sf0) CR8.1
  have R37 : CHr Z ([] : List (String × Nat)) s.vm h0 T8.vm T18.heap := R17.trans (CHr.keep K18q (sfS (Safe.exa hZ8.alike E20_ (by decide) (by decide)) sf0) CR8.1)
  have E38_ : Exa Z T18.heap qa1 "com/example/ratatoskr/ratatoskr/criteria/Filter" := E20_.keep K18q
  have E39_ : Exa Z T8.heap b1 "com/example/ratatoskr/ratatoskr/criteria/Filter$Comparison" := A1.keep K8q
  have E40_ : Exa Z T18.heap b1 "com/example/ratatoskr/ratatoskr/criteria/Filter$Comparison" := E39_.keep K18q
  have F41_ : Fld Z T18.heap b1 "com/example/ratatoskr/ratatoskr/criteria/Filter$Comparison" "property" "Ljava/lang/String;" (.ref qa2) := w11.keep K18q (ninS (Ne.symm (Nat.ne_of_lt (Nat.lt_of_lt_of_le E_qa1.lt (Nat.le_of_eq g1.symm)))) nin0)
  have F42_ : Fld Z T18.heap b1 "com/example/ratatoskr/ratatoskr/criteria/Filter$Comparison" "operator" "Lcom/example/ratatoskr/ratatoskr/criteria/ComparisonOperator;" (.ref g_IS_NULL) := w12.keep K18q (ninS (Ne.symm (Nat.ne_of_lt (Nat.lt_of_lt_of_le E_qa1.lt (Nat.le_of_eq g1.symm)))) nin0)
  have F43_ : Fld Z T18.heap b1 "com/example/ratatoskr/ratatoskr/criteria/Filter$Comparison" "value" "Ljava/lang/Object;" .null := w13.keep K18q (ninS (Ne.symm (Nat.ne_of_lt (Nat.lt_of_lt_of_le E_qa1.lt (Nat.le_of_eq g1.symm)))) nin0)
  have hk44' : _ ≤ T18.heap.size := (Nat.le_trans hk8 K18q.1)
  obtain ⟨fs, hr, hrun, hended, hEnd⟩ := X18.leaveW (s := s) hS8_ (by rw [show T18.heap = T18.heap from rfl]; exact hk44') (v := none) (fun _ => rfl)
  have hCe : CHr Z ([] : List (String × Nat)) s.vm h0 T18.vm T18.heap := R37.trans (CHv.at X18 hZ8 hEL C36)
  refine ⟨_, _, pre0 _ ?_, hrun, hended, _, _, rfl, ?_, ?_, hEnd.1, hEnd.2.1, hEnd.2.2.1, hEnd.2.2.2.mono (by decide) (by decide)⟩
  · show Steps p.tables e below (s₁.setTop (mkF m 0 #[.val (.ref qa1), .val (.ref qa2), .val (.ref g_IS_NULL)] [])) _
    refine XS.aloadN X0.here hx rfl (hb hby d0_0) rfl rfl ?_
    show Steps p.tables e below (s₁.setTop (mkF m 1 #[.val (.ref qa1), .val (.ref qa2), .val (.ref g_IS_NULL)] [(.ref qa1)])) _
    refine st1 _ ?_
    show Steps p.tables e below (T1.setTop (mkF m 4 #[.val (.ref qa1), .val (.ref qa2), .val (.ref g_IS_NULL)] [(.ref b1), (.ref qa1)])) _
    refine XS.dup X1.here hx rfl (hb hby d0_4) rfl rfl ?_
    show Steps p.tables e below (T1.setTop (mkF m 5 #[.val (.ref qa1), .val (.ref qa2), .val (.ref g_IS_NULL)] [(.ref b1), (.ref b1), (.ref qa1)])) _
    refine XS.aloadN X1.here hx rfl (hb hby d0_5) rfl rfl ?_
    show Steps p.tables e below (T1.setTop (mkF m 6 #[.val (.ref qa1), .val (.ref qa2), .val (.ref g_IS_NULL)] [(.ref qa2), (.ref b1), (.ref b1), (.ref qa1)])) _
    refine XS.aloadN X1.here hx rfl (hb hby d0_6) rfl rfl ?_
    show Steps p.tables e below (T1.setTop (mkF m 7 #[.val (.ref qa1), .val (.ref qa2), .val (.ref g_IS_NULL)] [(.ref g_IS_NULL), (.ref qa2), (.ref b1), (.ref b1), (.ref qa1)])) _
    refine XS.aconstNull X1.here hx rfl (hb hby d0_7) ?_
    show Steps p.tables e below (T1.setTop (mkF m 8 #[.val (.ref qa1), .val (.ref qa2), .val (.ref g_IS_NULL)] [.null, (.ref g_IS_NULL), (.ref qa2), (.ref b1), (.ref b1), (.ref qa1)])) _
    refine st8.trans ?_
    show Steps p.tables e below (T8.setTop (mkF m 11 #[.val (.ref qa1), .val (.ref qa2), .val (.ref g_IS_NULL)] [(.ref b1), (.ref qa1)])) _
    refine st18.trans ?_
    show Steps p.tables e below (T18.setTop (mkF m 14 #[.val (.ref qa1), .val (.ref qa2), .val (.ref g_IS_NULL)] [])) _
    exact X18.returnOut hx Bd.returns (hb hby d0_14) hr
  · show Q7 Z g_IS_NULL g_AND g_OR qa1 qa2 h0 n0 _ T18.heap _
    exact ⟨b1, rfl, N18, K35, sz_b1, E38_, w31, w32, w33, w34, E40_, F41_, F42_, F43_⟩
  · show CHr Z ([] : List (String × Nat)) s.vm s.heap T18.vm T18.heap
    rw [hh]
    exact hCe
theorem pd6 : parseMethodDescriptor "(Ljava/lang/String;Lcom/example/ratatoskr/ratatoskr/criteria/ComparisonOperator;)V" = some ⟨[(.object "java/lang/String"), (.object "com/example/ratatoskr/ratatoskr/criteria/ComparisonOperator")], none⟩ := by decide +kernel
theorem d6_0 : decode prog_13_method_5_code 0 = .ok (.new 8, 3) := by decide +kernel
theorem d6_3 : decode prog_13_method_5_code 3 = .ok (.dup, 1) := by decide +kernel
theorem d6_4 : decode prog_13_method_5_code 4 = .ok (.aload_n 0, 1) := by decide +kernel
theorem d6_5 : decode prog_13_method_5_code 5 = .ok (.getstatic 40, 3) := by decide +kernel
theorem d6_8 : decode prog_13_method_5_code 8 = .ok (.aload_n 1, 1) := by decide +kernel
theorem d6_9 : decode prog_13_method_5_code 9 = .ok (.invokespecial 45, 3) := by decide +kernel
theorem ef5 (m : MethodId) (x0 : Addr) (x1 : Addr) (x2 : Addr) (x3 : Addr) : entryFrame m #[(.ref x0), (.ref x1), (.ref x2), (.ref x3)] 4 = mkF m 0 #[.val (.ref x0), .val (.ref x1), .val (.ref x2), .val (.ref x3)] [] := by first | (simp [entryFrame, mkF, argsToLocals, Value.category]; done) | rfl
theorem d7_0 : decode prog_13_method_4_code 0 = .ok (.aload_n 0, 1) := by decide +kernel
theorem d7_1 : decode prog_13_method_4_code 1 = .ok (.invokespecial 12, 3) := by decide +kernel
theorem d7_4 : decode prog_13_method_4_code 4 = .ok (.aload_n 0, 1) := by decide +kernel
theorem d7_5 : decode prog_13_method_4_code 5 = .ok (.aconst_null, 1) := by decide +kernel
theorem d7_6 : decode prog_13_method_4_code 6 = .ok (.putfield 17, 3) := by decide +kernel
theorem d7_9 : decode prog_13_method_4_code 9 = .ok (.aload_n 0, 1) := by decide +kernel
theorem d7_10 : decode prog_13_method_4_code 10 = .ok (.aload_n 1, 1) := by decide +kernel
theorem d7_11 : decode prog_13_method_4_code 11 = .ok (.putfield 21, 3) := by decide +kernel
theorem d7_14 : decode prog_13_method_4_code 14 = .ok (.aload_n 0, 1) := by decide +kernel
theorem d7_15 : decode prog_13_method_4_code 15 = .ok (.aload_n 2, 1) := by decide +kernel
theorem d7_16 : decode prog_13_method_4_code 16 = .ok (.putfield 25, 3) := by decide +kernel
theorem d7_19 : decode prog_13_method_4_code 19 = .ok (.aload_n 0, 1) := by decide +kernel
theorem d7_20 : decode prog_13_method_4_code 20 = .ok (.aload_n 3, 1) := by decide +kernel
theorem d7_21 : decode prog_13_method_4_code 21 = .ok (.ldc 32, 2) := by decide +kernel
theorem d7_23 : decode prog_13_method_4_code 23 = .ok (.invokestatic 34, 3) := by decide +kernel
theorem d7_26 : decode prog_13_method_4_code 26 = .ok (.checkcast 8, 3) := by decide +kernel
theorem d7_29 : decode prog_13_method_4_code 29 = .ok (.putfield 29, 3) := by decide +kernel
theorem d7_32 : decode prog_13_method_4_code 32 = .ok (.return_, 1) := by decide +kernel
-- com/example/ratatoskr/ratatoskr/criteria/Filter.<init>(Lcom/example/ratatoskr/ratatoskr/criteria/Filter;Lcom/example/ratatoskr/ratatoskr/criteria/Filter$Junction;Lcom/example/ratatoskr/ratatoskr/criteria/Filter;)V
def Q8 (Z : State) (g_IS_NULL : Addr) (g_AND : Addr) (g_OR : Addr) (qa1 : Addr) (qa2 : Addr) (h0 : Heap) (n0 : Nat) (v : Option Value) (h : Heap) (L : List Loc) : Prop := v = none ∧ Fr n0 L ∧ Keep h0 h [qa1] ∧ Exa Z h qa1 "com/example/ratatoskr/ratatoskr/criteria/Filter" ∧ Fld Z h qa1 "com/example/ratatoskr/ratatoskr/criteria/Filter" "comparison" "Lcom/example/ratatoskr/ratatoskr/criteria/Filter$Comparison;" .null ∧ Fld Z h qa1 "com/example/ratatoskr/ratatoskr/criteria/Filter" "left" "Lcom/example/ratatoskr/ratatoskr/criteria/Filter;" (.ref qa2) ∧ Fld Z h qa1 "com/example/ratatoskr/ratatoskr/criteria/Filter" "junction" "Lcom/example/ratatoskr/ratatoskr/criteria/Filter$Junction;" (.ref g_AND) ∧ Fld Z h qa1 "com/example/ratatoskr/ratatoskr/criteria/Filter" "right" "Lcom/example/ratatoskr/ratatoskr/criteria/Filter;" (.ref qa2)
set_option maxRecDepth 65536 in
set_option maxHeartbeats 40000000 in
theorem rm8 (l : Launch) (Z : State) (a0 : Array Value) (hw : ∀ d ∈ tables_1, d.before a0 Z = true) (ws : List Jvm.Cond) (g_IS_NULL : Addr) (g_AND : Addr) (g_OR : Addr) (qa1 : Addr) (qa2 : Addr) (h0 : Heap) (n0 : Nat) (X00 : Old Z n0 h0) (hEN : OwnEN Z g_IS_NULL g_AND g_OR) (E_qa1 : Exa Z h0 qa1 "com/example/ratatoskr/ratatoskr/criteria/Filter") (F_qa1_comparison : Fld Z h0 qa1 "com/example/ratatoskr/ratatoskr/criteria/Filter" "comparison" "Lcom/example/ratatoskr/ratatoskr/criteria/Filter$Comparison;" .null) (g_qa1 : n0 ≤ qa1) (F_qa1_left : Fld Z h0 qa1 "com/example/ratatoskr/ratatoskr/criteria/Filter" "left" "Lcom/example/ratatoskr/ratatoskr/criteria/Filter;" .null) (F_qa1_junction : Fld Z h0 qa1 "com/example/ratatoskr/ratatoskr/criteria/Filter" "junction" "Lcom/example/ratatoskr/ratatoskr/criteria/Filter$Junction;" .null) (E_qa2 : Exa Z h0 qa2 "com/example/ratatoskr/ratatoskr/criteria/Filter") (F_qa1_right : Fld Z h0 qa1 "com/example/ratatoskr/ratatoskr/criteria/Filter" "right" "Lcom/example/ratatoskr/ratatoskr/criteria/Filter;" .null) :
    MetFree l (⟨"com/example/ratatoskr/ratatoskr/criteria/Filter", "<init>", "(Lcom/example/ratatoskr/ratatoskr/criteria/Filter;Lcom/example/ratatoskr/ratatoskr/criteria/Filter$Junction;Lcom/example/ratatoskr/ratatoskr/criteria/Filter;)V"⟩ : MethodName) (head1 (Jvm.Cond.code (⟨"com/example/ratatoskr/ratatoskr/criteria/Filter", "<init>", "(Lcom/example/ratatoskr/ratatoskr/criteria/Filter;Lcom/example/ratatoskr/ratatoskr/criteria/Filter$Junction;Lcom/example/ratatoskr/ratatoskr/criteria/Filter;)V"⟩ : MethodName) prog_13_method_4_code 4 none :: ws) ({ frames := 1, cells := 2, slots := 28, locals := 14 } : Room)) (fun a U => a = #[(.ref qa1), (.ref qa2), (.ref g_AND), (.ref qa2)] ∧ Z.Warmed39 U.vm ∧ U.heap = h0 ∧ CHv Z ([] : List (String × Nat)) U.vm h0) (fun _ _ _ _ _ => True) (fun _ U o U' => ∃ v L, o = .returned v ∧ Q8 Z g_IS_NULL g_AND g_OR qa1 qa2 h0 n0 v U'.heap L ∧ CHr Z ([] : List (String × Nat)) U.vm U.heap U'.vm U'.heap ∧ ReturnedEndW U o U' L ({ frames := 1, cells := 2, slots := 28, locals := 14 } : Room).cells ({ frames := 1, cells := 2, slots := 28, locals := 14 } : Room).slots) := by
  refine MetFree.of_bodySF (plainFor_of_name pn1) hisR ?_
  intro p e s m args below meth c s₁ Bd hml0 hP hK
  obtain ⟨rfl, hZ, hh, hC0⟩ := hP
  have hx := Bd.exec
  have hby := Bd.bytes
  have hml : c.maxLocals = 4 := hml0
  have hown : s.vm.findClass "com/example/ratatoskr/ratatoskr/criteria/Filter" = some m.cls := findClass_of_methodNamed Bd.named
  have hnm := (name_of_methodNamed Bd.named Bd.method).1
  have X0 : Stand p l e ({ frames := 1, cells := 2, slots := 28, locals := 14 } : Room) (s.setVm s.vm) m #[(.ref qa1), (.ref qa2), (.ref g_AND), (.ref qa2)] below meth c s₁ [] 0 0 := Stand.of_body Bd
  have e0 : s₁.heap = h0 := by rw [← hh, Bd.state]; rfl
  have N0 := Fr.nil n0
  have pre0 : ∀ t, Steps p.tables e below (s₁.setTop (mkF m 0 #[.val (.ref qa1), .val (.ref qa2), .val (.ref g_AND), .val (.ref qa2)] [])) t → Steps p.tables e below (s₁.setTop (entryFrame m #[(.ref qa1), (.ref qa2), (.ref g_AND), (.ref qa2)] 4)) t := fun t k => castTop (ef5 m qa1 qa2 g_AND qa2) k
  have hS0 : s.Since s.vm h0.size := (State.WarmedH.refl s).since _
  have hk0 : h0.size ≤ h0.size := Nat.le_refl _
  have hR0 : CHr Z ([] : List (String × Nat)) s.vm h0 s.vm h0 := CHr.refl hC0
  have hEL := own_EW hw
  have hwS := own_wS hw
  obtain ⟨T1, X1, e1, st1⟩ := initO X0 hx hZ hown (hw _ (List.mem_of_getElem? (i := 75) rfl)) (hw _ (List.mem_of_getElem? (i := 15) rfl)) (hw _ (List.mem_of_getElem? (i := 16) rfl)) e0 (g := (mkF m 1 #[.val (.ref qa1), .val (.ref qa2), .val (.ref g_AND), .val (.ref qa2)] [(.ref qa1)])) rfl (by rw [hml]; rfl) rfl (hb hby d7_1) (by decide) (W := 0) (by show 2 * 0 + _ ≤ _; exact Nat.le_of_eq rfl) (by decide)
  obtain ⟨T2, h2, X2, e2, W2, st2⟩ := putF X1 hx hZ hown (host := "") (Or.inl (hw _ (List.mem_of_getElem? (i := 76) rfl))) Via.refl e1 F_qa1_comparison E_qa1 (Or.inr ⟨(hw _ (List.mem_of_getElem? (i := 77) rfl)), rfl, hnm⟩) (hw _ (List.mem_of_getElem? (i := 2) rfl)) (ty := (.object "com/example/ratatoskr/ratatoskr/criteria/Filter$Comparison")) (by decide) rfl rfl (g := (mkF m 6 #[.val (.ref qa1), .val (.ref qa2), .val (.ref g_AND), .val (.ref qa2)] [.null, (.ref qa1)])) rfl rfl (hb hby d7_6)
  have N2 := Fr.snoc X2 N0 g_qa1
  have K3 : Keep h0 h2 [qa1] := (Keep.refl h0 [qa1]).wr W2 (Or.inl (List.mem_of_getElem? (i := 0) rfl))
  have C4 : CHv Z ([] : List (String × Nat)) s.vm h2 := CHv.wr W2 (Safe.exa hZ.alike E_qa1 (by decide) (by decide)) hC0
  have R5 : CHr Z ([] : List (String × Nat)) s.vm h0 s.vm h2 := hR0.trans (CHr.wr W2 (Safe.exa hZ.alike E_qa1 (by decide) (by decide)) hC0)
  have F6_ : Fld Z h2 qa1 "com/example/ratatoskr/ratatoskr/criteria/Filter" "comparison" "Lcom/example/ratatoskr/ratatoskr/criteria/Filter$Comparison;" .null := F_qa1_comparison.same W2
  have F7_ : Fld Z h2 qa1 "com/example/ratatoskr/ratatoskr/criteria/Filter" "left" "Lcom/example/ratatoskr/ratatoskr/criteria/Filter;" .null := F_qa1_left.other W2 (Or.inr (slot_ne (Or.inr (hw _ (List.mem_of_getElem? (i := 79) rfl))) (Or.inr (hw _ (List.mem_of_getElem? (i := 77) rfl))) (by decide) (t := (.object "com/example/ratatoskr/ratatoskr/criteria/Filter")) (t' := (.object "com/example/ratatoskr/ratatoskr/criteria/Filter$Comparison")) (by decide) (by decide)))
  have E8_ : Exa Z h2 qa1 "com/example/ratatoskr/ratatoskr/criteria/Filter" := E_qa1.wr W2
  obtain ⟨T9, h9, X9, e9, W9, st9⟩ := putF X2 hx hZ hown (host := "") (Or.inl (hw _ (List.mem_of_getElem? (i := 78) rfl))) Via.refl e2 F7_ E8_ (Or.inr ⟨(hw _ (List.mem_of_getElem? (i := 79) rfl)), rfl, hnm⟩) (hw _ (List.mem_of_getElem? (i := 2) rfl)) (ty := (.object "com/example/ratatoskr/ratatoskr/criteria/Filter")) (by decide) rfl rfl (g := (mkF m 11 #[.val (.ref qa1), .val (.ref qa2), .val (.ref g_AND), .val (.ref qa2)] [(.ref qa2), (.ref qa1)])) rfl rfl (hb hby d7_11)
  have N9 := Fr.snoc X9 N2 g_qa1
  have K10 : Keep h0 h9 [qa1] := K3.wr W9 (Or.inl (List.mem_of_getElem? (i := 0) rfl))
  have C11 : CHv Z ([] : List (String × Nat)) s.vm h9 := CHv.wr W9 (Safe.exa hZ.alike E8_ (by decide) (by decide)) C4
  have R12 : CHr Z ([] : List (String × Nat)) s.vm h0 s.vm h9 := R5.trans (CHr.wr W9 (Safe.exa hZ.alike E8_ (by decide) (by decide)) C4)
  have F13_ : Fld Z h9 qa1 "com/example/ratatoskr/ratatoskr/criteria/Filter" "left" "Lcom/example/ratatoskr/ratatoskr/criteria/Filter;" (.ref qa2) := F7_.same W9
  have F14_ : Fld Z h2 qa1 "com/example/ratatoskr/ratatoskr/criteria/Filter" "junction" "Lcom/example/ratatoskr/ratatoskr/criteria/Filter$Junction;" .null := F_qa1_junction.other W2 (Or.inr (slot_ne (Or.inr (hw _ (List.mem_of_getElem? (i := 81) rfl))) (Or.inr (hw _ (List.mem_of_getElem? (i := 77) rfl))) (by decide) (t := (.object "com/example/ratatoskr/ratatoskr/criteria/Filter$Junction")) (t' := (.object "com/example/ratatoskr/ratatoskr/criteria/Filter$Comparison")) (by decide) (by decide)))
  have F15_ : Fld Z h9 qa1 "com/example/ratatoskr/ratatoskr/criteria/Filter" "junction" "Lcom/example/ratatoskr/ratatoskr/criteria/Filter$Junction;" .null := F14_.other W9 (Or.inr (slot_ne (Or.inr (hw _ (List.mem_of_getElem? (i := 81) rfl))) (Or.inr (hw _ (List.mem_of_getElem? (i := 79) rfl))) (by decide) (t := (.object "com/example/ratatoskr/ratatoskr/criteria/Filter$Junction")) (t' := (.object "com/example/ratatoskr/ratatoskr/criteria/Filter")) (by decide) (by decide)))
  have E16_ : Exa Z h9 qa1 "com/example/ratatoskr/ratatoskr/criteria/Filter" := E8_.wr W9
  obtain ⟨T17, h17, X17, e17, W17, st17⟩ := putF X9 hx hZ hown (host := "") (Or.inl (hw _ (List.mem_of_getElem? (i := 80) rfl))) Via.refl e9 F15_ E16_ (Or.inr ⟨(hw _ (List.mem_of_getElem? (i := 81) rfl)), rfl, hnm⟩) (hw _ (List.mem_of_getElem? (i := 2) rfl)) (ty := (.object "com/example/ratatoskr/ratatoskr/criteria/Filter$Junction")) (by decide) rfl rfl (g := (mkF m 16 #[.val (.ref qa1), .val (.ref qa2), .val (.ref g_AND), .val (.ref qa2)] [(.ref g_AND), (.ref qa1)])) rfl rfl (hb hby d7_16)
  have N17 := Fr.snoc X17 N9 g_qa1
  have K18 : Keep h0 h17 [qa1] := K10.wr W17 (Or.inl (List.mem_of_getElem? (i := 0) rfl))
  have C19 : CHv Z ([] : List (String × Nat)) s.vm h17 := CHv.wr W17 (Safe.exa hZ.alike E16_ (by decide) (by decide)) C11
  have R20 : CHr Z ([] : List (String × Nat)) s.vm h0 s.vm h17 := R12.trans (CHr.wr W17 (Safe.exa hZ.alike E16_ (by decide) (by decide)) C11)
  have F21_ : Fld Z h17 qa1 "com/example/ratatoskr/ratatoskr/criteria/Filter" "junction" "Lcom/example/ratatoskr/ratatoskr/criteria/Filter$Junction;" (.ref g_AND) := F15_.same W17
  have hk23' : _ ≤ h17.size := (Nat.le_trans (Nat.le_trans (Nat.le_trans hk0 (Nat.le_of_eq W2.size.symm)) (Nat.le_of_eq W9.size.symm)) (Nat.le_of_eq W17.size.symm))
  obtain ⟨b22, T22, h22, k22, X22, e22, E22, hS22, hk22, hZ22, ho22, CR22, -, st22⟩ := ldcOH (text := "filter") (EL := ([] : List (String × Nat))) X17 hx hZ hown (hw _ (List.mem_of_getElem? (i := 96) rfl)) hwS e17 hS0 hk23' hEL C19 (g := (mkF m 21 #[.val (.ref qa1), .val (.ref qa2), .val (.ref g_AND), .val (.ref qa2)] [(.ref qa2), (.ref qa1)])) rfl (hb hby d7_21) (n := 24) (by decide) (by decide) (by decide) (by decide)
  have K24 : Keep h0 h22 [qa1] := K18.ext E22
  have R26 : CHr Z ([] : List (String × Nat)) s.vm h0 T22.vm h22 := R20.trans CR22
  have O28 : Old Z n0 h2 := X00.wr W2 g_qa1
  have O29 : Old Z n0 h9 := O28.wr W9 g_qa1
  have O30 : Old Z n0 h17 := O29.wr W17 g_qa1
  have O31 : Old Z n0 h22 := O30.ext E22
  obtain ⟨_, _, ⟨T27, L27, k27, n27⟩, -, X27, ⟨Lc27, hQ27, l27, y27, z27⟩, st27⟩ := Jvm.LawKit.callS X22 hx (y := (⟨"java/util/Objects", "requireNonNull", "(Ljava/lang/Object;Ljava/lang/String;)Ljava/lang/Object;"⟩ : MethodName)) ho22 (mvT hZ22 (hw _ (List.mem_of_getElem? (i := 97) rfl))) (mvT hZ22 (hw _ (List.mem_of_getElem? (i := 55) rfl))) (mvT hZ22 (hw _ (List.mem_of_getElem? (i := 56) rfl))) (mvT hZ22 (hw _ (List.mem_of_getElem? (i := 57) rfl))) (by decide) (backOf (s := s.setVm T22.vm) (W := 1) (rm2 l Z a0 hw []  qa2 b22 h22 n0 O31 ) hZ22 (hw _ (List.mem_of_getElem? (i := 57) rfl)) (hw _ (List.mem_of_getElem? (i := 56) rfl)) (by decide) (by decide)) (g := (mkF m 23 #[.val (.ref qa1), .val (.ref qa2), .val (.ref g_AND), .val (.ref qa2)] [(.ref b22), (.ref qa2), (.ref qa1)])) rfl (by rw [hml]; rfl) (argsL := [(.ref qa2), (.ref b22)]) (rest := [(.ref qa1)]) (lenOf pd2 rfl) rfl (by show 2 * 0 + _ ≤ _; exact Nat.le_of_eq rfl) (hb hby d7_23) (fun _ _ => ⟨rfl, e22, (by decide : 2 + 0 ≤ _), (by decide : 28 + 0 ≤ _)⟩)
  dsimp only [Pt.U, Pt.locs, Pt.cells, Pt.slots] at X27 l27 y27 z27 st27 hQ27
  subst l27 y27 z27
  obtain ⟨rfl, N27q, e27q⟩ := hQ27
  have N27 := Fr.app N17 N27q
  have E33_ : Exa Z h2 qa2 "com/example/ratatoskr/ratatoskr/criteria/Filter" := E_qa2.wr W2
  have E34_ : Exa Z h9 qa2 "com/example/ratatoskr/ratatoskr/criteria/Filter" := E33_.wr W9
  have E35_ : Exa Z h17 qa2 "com/example/ratatoskr/ratatoskr/criteria/Filter" := E34_.wr W17
  have E36_ : Exa Z h22 qa2 "com/example/ratatoskr/ratatoskr/criteria/Filter" := E35_.ext E22
  obtain ⟨T32, X32, e32, st32⟩ := castY X27 hx hZ22 ho22 (hw _ (List.mem_of_getElem? (i := 89) rfl)) e27q (Ins.self E36_) (g := (mkF m 26 #[.val (.ref qa1), .val (.ref qa2), .val (.ref g_AND), .val (.ref qa2)] [(.ref qa2), (.ref qa1)])) rfl rfl (hb hby d7_26)
  have F37_ : Fld Z h2 qa1 "com/example/ratatoskr/ratatoskr/criteria/Filter" "right" "Lcom/example/ratatoskr/ratatoskr/criteria/Filter;" .null := F_qa1_right.other W2 (Or.inr (slot_ne (Or.inr (hw _ (List.mem_of_getElem? (i := 83) rfl))) (Or.inr (hw _ (List.mem_of_getElem? (i := 77) rfl))) (by decide) (t := (.object "com/example/ratatoskr/ratatoskr/criteria/Filter")) (t' := (.object "com/example/ratatoskr/ratatoskr/criteria/Filter$Comparison")) (by decide) (by decide)))
  have F38_ : Fld Z h9 qa1 "com/example/ratatoskr/ratatoskr/criteria/Filter" "right" "Lcom/example/ratatoskr/ratatoskr/criteria/Filter;" .null := F37_.other W9 (Or.inr (slot_ne (Or.inr (hw _ (List.mem_of_getElem? (i := 83) rfl))) (Or.inr (hw _ (List.mem_of_getElem? (i := 79) rfl))) (by decide) (t := (.object "com/example/ratatoskr/ratatoskr/criteria/Filter")) (t' := (.object "com/example/ratatoskr/ratatoskr/criteria/Filter")) (by decide) (by decide)))
  have F39_ : Fld Z h17 qa1 "com/example/ratatoskr/ratatoskr/criteria/Filter" "right" "Lcom/example/ratatoskr/ratatoskr/criteria/Filter;" .null := F38_.other W17 (Or.inr (slot_ne (Or.inr (hw _ (List.mem_of_getElem? (i := 83) rfl))) (Or.inr (hw _ (List.mem_of_getElem? (i := 81) rfl))) (by decide) (t := (.object "com/example/ratatoskr/ratatoskr/criteria/Filter")) (t' := (.object "com/example/ratatoskr/ratatoskr/criteria/Filter$Junction")) (by decide) (by decide)))
  have F40_ : Fld Z h22 qa1 "com/example/ratatoskr/ratatoskr/criteria/Filter" "right" "Lcom/example/ratatoskr/ratatoskr/criteria/Filter;" .null := F39_.ext E22
  have E41_ : Exa Z h17 qa1 "com/example/ratatoskr/ratatoskr/criteria/Filter" := E16_.wr W17
  have E42_ : Exa Z h22 qa1 "com/example/ratatoskr/ratatoskr/criteria/Filter" := E41_.ext E22
  obtain ⟨T43, h43, X43, e43, W43, st43⟩ := putF X32 hx hZ22 ho22 (host := "") (Or.inl (hw _ (List.mem_of_getElem? (i := 82) rfl))) Via.refl e32 F40_ E42_ (Or.inr ⟨(hw _ (List.mem_of_getElem? (i := 83) rfl)), rfl, hnm⟩) (hw _ (List.mem_of_getElem? (i := 2) rfl)) (ty := (.object "com/example/ratatoskr/ratatoskr/criteria/Filter")) (by decide) rfl rfl (g := (mkF m 29 #[.val (.ref qa1), .val (.ref qa2), .val (.ref g_AND), .val (.ref qa2)] [(.ref qa2), (.ref qa1)])) rfl rfl (hb hby d7_29)
  have N43 := Fr.snoc X43 N27 g_qa1
  have K44 : Keep h0 h43 [qa1] := K24.wr W43 (Or.inl (List.mem_of_getElem? (i := 0) rfl))
  have C45 : CHv Z ([] : List (String × Nat)) T22.vm h43 := CHv.wr W43 (Safe.exa hZ22.alike E42_ (by decide) (by decide)) CR22.1
  have R46 : CHr Z ([] : List (String × Nat)) s.vm h0 T22.vm h43 := R26.trans (CHr.wr W43 (Safe.exa hZ22.alike E42_ (by decide) (by decide)) CR22.1)
  have F47_ : Fld Z h43 qa1 "com/example/ratatoskr/ratatoskr/criteria/Filter" "right" "Lcom/example/ratatoskr/ratatoskr/criteria/Filter;" (.ref qa2) := F40_.same W43
  have E48_ : Exa Z h43 qa1 "com/example/ratatoskr/ratatoskr/criteria/Filter" := E42_.wr W43
  have F49_ : Fld Z h9 qa1 "com/example/ratatoskr/ratatoskr/criteria/Filter" "comparison" "Lcom/example/ratatoskr/ratatoskr/criteria/Filter$Comparison;" .null := F6_.other W9 (Or.inr (slot_ne (Or.inr (hw _ (List.mem_of_getElem? (i := 77) rfl))) (Or.inr (hw _ (List.mem_of_getElem? (i := 79) rfl))) (by decide) (t := (.object "com/example/ratatoskr/ratatoskr/criteria/Filter$Comparison")) (t' := (.object "com/example/ratatoskr/ratatoskr/criteria/Filter")) (by decide) (by decide)))
  have F50_ : Fld Z h17 qa1 "com/example/ratatoskr/ratatoskr/criteria/Filter" "comparison" "Lcom/example/ratatoskr/ratatoskr/criteria/Filter$Comparison;" .null := F49_.other W17 (Or.inr (slot_ne (Or.inr (hw _ (List.mem_of_getElem? (i := 77) rfl))) (Or.inr (hw _ (List.mem_of_getElem? (i := 81) rfl))) (by decide) (t := (.object "com/example/ratatoskr/ratatoskr/criteria/Filter$Comparison")) (t' := (.object "com/example/ratatoskr/ratatoskr/criteria/Filter$Junction")) (by decide) (by decide)))
  have F51_ : Fld Z h22 qa1 "com/example/ratatoskr/ratatoskr/criteria/Filter" "comparison" "Lcom/example/ratatoskr/ratatoskr/criteria/Filter$Comparison;" .null := F50_.ext E22
  have F52_ : Fld Z h43 qa1 "com/example/ratatoskr/ratatoskr/criteria/Filter" "comparison" "Lcom/example/ratatoskr/ratatoskr/criteria/Filter$Comparison;" .null := F51_.other W43 (Or.inr (slot_ne (Or.inr (hw _ (List.mem_of_getElem? (i := 77) rfl))) (Or.inr (hw _ (List.mem_of_getElem? (i := 83) rfl))) (by decide) (t := (.object "com/example/ratatoskr/ratatoskr/criteria/Filter$Comparison")) (t' := (.object "com/example/ratatoskr/ratatoskr/criteria/Filter")) (by decide) (by decide)))
  have F53_ : Fld Z h17 qa1 "com/example/ratatoskr/ratatoskr/criteria/Filter" "left" "Lcom/example/ratatoskr/ratatoskr/criteria/Filter;" (.ref qa2) := F13_.other W17 (Or.inr (slot_ne (Or.inr (hw _ (List.mem_of_getElem? (i := 79) rfl))) (Or.inr (hw _ (List.mem_of_getElem? (i := 81) rfl))) (by decide) (t := (.object "com/example/ratatoskr/ratatoskr/criteria/Filter")) (t' := (.object "com/example/ratatoskr/ratatoskr/criteria/Filter$Junction")) (by decide) (by decide)))
  have F54_ : Fld Z h22 qa1 "com/example/ratatoskr/ratatoskr/criteria/Filter" "left" "Lcom/example/ratatoskr/ratatoskr/criteria/Filter;" (.ref qa2) := F53_.ext E22
  have F55_ : Fld Z h43 qa1 "com/example/ratatoskr/ratatoskr/criteria/Filter" "left" "Lcom/example/ratatoskr/ratatoskr/criteria/Filter;" (.ref qa2) := F54_.other W43 (Or.inr (slot_ne (Or.inr (hw _ (List.mem_of_getElem? (i := 79) rfl))) (Or.inr (hw _ (List.mem_of_getElem? (i := 83) rfl))) (by decide) (t := (.object "com/example/ratatoskr/ratatoskr/criteria/Filter")) (t' := (.object "com/example/ratatoskr/ratatoskr/criteria/Filter")) (by decide) (by decide)))
  have F56_ : Fld Z h22 qa1 "com/example/ratatoskr/ratatoskr/criteria/Filter" "junction" "Lcom/example/ratatoskr/ratatoskr/criteria/Filter$Junction;" (.ref g_AND) := F21_.ext E22
  have F57_ : Fld Z h43 qa1 "com/example/ratatoskr/ratatoskr/criteria/Filter" "junction" "Lcom/example/ratatoskr/ratatoskr/criteria/Filter$Junction;" (.ref g_AND) := F56_.other W43 (Or.inr (slot_ne (Or.inr (hw _ (List.mem_of_getElem? (i := 81) rfl))) (Or.inr (hw _ (List.mem_of_getElem? (i := 83) rfl))) (by decide) (t := (.object "com/example/ratatoskr/ratatoskr/criteria/Filter$Junction")) (t' := (.object "com/example/ratatoskr/ratatoskr/criteria/Filter")) (by decide) (by decide)))
  have hk58' : _ ≤ h43.size := (Nat.le_trans hk22 (Nat.le_of_eq W43.size.symm))
  obtain ⟨fs, hr, hrun, hended, hEnd⟩ := X43.leaveW (s := s) hS22 (by rw [show T43.heap = h43 from e43]; exact hk58') (v := none) (fun _ => rfl)
  have hCe : CHr Z ([] : List (String × Nat)) s.vm h0 T43.vm h43 := R46.trans (CHv.at X43 hZ22 hEL C45)
  refine ⟨_, _, pre0 _ ?_, hrun, hended, _, _, rfl, ?_, ?_, hEnd.1, hEnd.2.1, hEnd.2.2.1, hEnd.2.2.2.mono (by decide) (by decide)⟩
  · show Steps p.tables e below (s₁.setTop (mkF m 0 #[.val (.ref qa1), .val (.ref qa2), .val (.ref g_AND), .val (.ref qa2)] [])) _
    refine XS.aloadN X0.here hx rfl (hb hby d7_0) rfl rfl ?_
    show Steps p.tables e below (s₁.setTop (mkF m 1 #[.val (.ref qa1), .val (.ref qa2), .val (.ref g_AND), .val (.ref qa2)] [(.ref qa1)])) _
    refine st1 _ ?_
    show Steps p.tables e below (T1.setTop (mkF m 4 #[.val (.ref qa1), .val (.ref qa2), .val (.ref g_AND), .val (.ref qa2)] [])) _
    refine XS.aloadN X1.here hx rfl (hb hby d7_4) rfl rfl ?_
    show Steps p.tables e below (T1.setTop (mkF m 5 #[.val (.ref qa1), .val (.ref qa2), .val (.ref g_AND), .val (.ref qa2)] [(.ref qa1)])) _
    refine XS.aconstNull X1.here hx rfl (hb hby d7_5) ?_
    show Steps p.tables e below (T1.setTop (mkF m 6 #[.val (.ref qa1), .val (.ref qa2), .val (.ref g_AND), .val (.ref qa2)] [.null, (.ref qa1)])) _
    refine st2 _ ?_
    show Steps p.tables e below (T2.setTop (mkF m 9 #[.val (.ref qa1), .val (.ref qa2), .val (.ref g_AND), .val (.ref qa2)] [])) _
    refine XS.aloadN X2.here hx rfl (hb hby d7_9) rfl rfl ?_
    show Steps p.tables e below (T2.setTop (mkF m 10 #[.val (.ref qa1), .val (.ref qa2), .val (.ref g_AND), .val (.ref qa2)] [(.ref qa1)])) _
    refine XS.aloadN X2.here hx rfl (hb hby d7_10) rfl rfl ?_
    show Steps p.tables e below (T2.setTop (mkF m 11 #[.val (.ref qa1), .val (.ref qa2), .val (.ref g_AND), .val (.ref qa2)] [(.ref qa2), (.ref qa1)])) _
    refine st9 _ ?_
    show Steps p.tables e below (T9.setTop (mkF m 14 #[.val (.ref qa1), .val (.ref qa2), .val (.ref g_AND), .val (.ref qa2)] [])) _
    refine XS.aloadN X9.here hx rfl (hb hby d7_14) rfl rfl ?_
    show Steps p.tables e below (T9.setTop (mkF m 15 #[.val (.ref qa1), .val (.ref qa2), .val (.ref g_AND), .val (.ref qa2)] [(.ref qa1)])) _
    refine XS.aloadN X9.here hx rfl (hb hby d7_15) rfl rfl ?_
    show Steps p.tables e below (T9.setTop (mkF m 16 #[.val (.ref qa1), .val (.ref qa2), .val (.ref g_AND), .val (.ref qa2)] [(.ref g_AND), (.ref qa1)])) _
    refine st17 _ ?_
    show Steps p.tables e below (T17.setTop (mkF m 19 #[.val (.ref qa1), .val (.ref qa2), .val (.ref g_AND), .val (.ref qa2)] [])) _
    refine XS.aloadN X17.here hx rfl (hb hby d7_19) rfl rfl ?_
    show Steps p.tables e below (T17.setTop (mkF m 20 #[.val (.ref qa1), .val (.ref qa2), .val (.ref g_AND), .val (.ref qa2)] [(.ref qa1)])) _
    refine XS.aloadN X17.here hx rfl (hb hby d7_20) rfl rfl ?_
    show Steps p.tables e below (T17.setTop (mkF m 21 #[.val (.ref qa1), .val (.ref qa2), .val (.ref g_AND), .val (.ref qa2)] [(.ref qa2), (.ref qa1)])) _
    refine st22 _ ?_
    show Steps p.tables e below (T22.setTop (mkF m 23 #[.val (.ref qa1), .val (.ref qa2), .val (.ref g_AND), .val (.ref qa2)] [(.ref b22), (.ref qa2), (.ref qa1)])) _
    refine st27 _ ?_
    show Steps p.tables e below (T27.setTop (mkF m 26 #[.val (.ref qa1), .val (.ref qa2), .val (.ref g_AND), .val (.ref qa2)] [(.ref qa2), (.ref qa1)])) _
    refine st32 _ ?_
    show Steps p.tables e below (T32.setTop (mkF m 29 #[.val (.ref qa1), .val (.ref qa2), .val (.ref g_AND), .val (.ref qa2)] [(.ref qa2), (.ref qa1)])) _
    refine st43 _ ?_
    show Steps p.tables e below (T43.setTop (mkF m 32 #[.val (.ref qa1), .val (.ref qa2), .val (.ref g_AND), .val (.ref qa2)] [])) _
    exact X43.returnOut hx Bd.returns (hb hby d7_32) hr
  · show Q8 Z g_IS_NULL g_AND g_OR qa1 qa2 h0 n0 _ T43.heap _
    rw [show T43.heap = h43 from e43]
    exact ⟨rfl, N43, K44, E48_, F52_, F55_, F57_, F47_⟩
  · show CHr Z ([] : List (String × Nat)) s.vm s.heap T43.vm T43.heap
    rw [hh]
    rw [show T43.heap = h43 from e43]
    exact hCe
theorem pd7 : parseMethodDescriptor "(Lcom/example/ratatoskr/ratatoskr/criteria/Filter;Lcom/example/ratatoskr/ratatoskr/criteria/Filter$Junction;Lcom/example/ratatoskr/ratatoskr/criteria/Filter;)V" = some ⟨[(.object "com/example/ratatoskr/ratatoskr/criteria/Filter"), (.object "com/example/ratatoskr/ratatoskr/criteria/Filter$Junction"), (.object "com/example/ratatoskr/ratatoskr/criteria/Filter")], none⟩ := by decide +kernel
theorem d6_12 : decode prog_13_method_5_code 12 = .ok (.areturn, 1) := by decide +kernel
-- com/example/ratatoskr/ratatoskr/criteria/Filter.and(Lcom/example/ratatoskr/ratatoskr/criteria/Filter;)Lcom/example/ratatoskr/ratatoskr/criteria/Filter;
def Q9 (Z : State) (g_IS_NULL : Addr) (g_AND : Addr) (g_OR : Addr) (qa1 : Addr) (h0 : Heap) (n0 : Nat) (v : Option Value) (h : Heap) (L : List Loc) : Prop := ∃ b1 : Addr, v = some (.ref b1) ∧ Fr n0 L ∧ Keep h0 h [] ∧ h0.size ≤ b1 ∧ Exa Z h b1 "com/example/ratatoskr/ratatoskr/criteria/Filter" ∧ Fld Z h b1 "com/example/ratatoskr/ratatoskr/criteria/Filter" "comparison" "Lcom/example/ratatoskr/ratatoskr/criteria/Filter$Comparison;" .null ∧ Fld Z h b1 "com/example/ratatoskr/ratatoskr/criteria/Filter" "left" "Lcom/example/ratatoskr/ratatoskr/criteria/Filter;" (.ref qa1) ∧ Fld Z h b1 "com/example/ratatoskr/ratatoskr/criteria/Filter" "junction" "Lcom/example/ratatoskr/ratatoskr/criteria/Filter$Junction;" (.ref g_AND) ∧ Fld Z h b1 "com/example/ratatoskr/ratatoskr/criteria/Filter" "right" "Lcom/example/ratatoskr/ratatoskr/criteria/Filter;" (.ref qa1)
set_option maxRecDepth 65536 in
set_option maxHeartbeats 40000000 in
theorem rm9 (l : Launch) (Z : State) (a0 : Array Value) (hw : ∀ d ∈ tables_1, d.before a0 Z = true) (ws : List Jvm.Cond) (g_IS_NULL : Addr) (g_AND : Addr) (g_OR : Addr) (qa1 : Addr) (h0 : Heap) (n0 : Nat) (X00 : Old Z n0 h0) (hEN : OwnEN Z g_IS_NULL g_AND g_OR) (E_qa1 : Exa Z h0 qa1 "com/example/ratatoskr/ratatoskr/criteria/Filter") :
    MetFree l (⟨"com/example/ratatoskr/ratatoskr/criteria/Filter", "and", "(Lcom/example/ratatoskr/ratatoskr/criteria/Filter;)Lcom/example/ratatoskr/ratatoskr/criteria/Filter;"⟩ : MethodName) (head1 (Jvm.Cond.code (⟨"com/example/ratatoskr/ratatoskr/criteria/Filter", "and", "(Lcom/example/ratatoskr/ratatoskr/criteria/Filter;)Lcom/example/ratatoskr/ratatoskr/criteria/Filter;"⟩ : MethodName) prog_13_method_5_code 2 (some (.object "com/example/ratatoskr/ratatoskr/criteria/Filter")) :: ws) ({ frames := 2, cells := 3, slots := 32, locals := 30 } : Room)) (fun a U => a = #[(.ref qa1), (.ref qa1)] ∧ Z.Warmed39 U.vm ∧ U.heap = h0 ∧ CHv Z ([] : List (String × Nat)) U.vm h0) (fun _ _ _ _ _ => True) (fun _ U o U' => ∃ v L, o = .returned v ∧ Q9 Z g_IS_NULL g_AND g_OR qa1 h0 n0 v U'.heap L ∧ CHr Z ([] : List (String × Nat)) U.vm U.heap U'.vm U'.heap ∧ ReturnedEndW U o U' L ({ frames := 2, cells := 3, slots := 32, locals := 30 } : Room).cells ({ frames := 2, cells := 3, slots := 32, locals := 30 } : Room).slots) := by
  refine MetFree.of_bodySF (plainFor_of_name pn1) hisR ?_
  intro p e s m args below meth c s₁ Bd hml0 hP hK
  obtain ⟨rfl, hZ, hh, hC0⟩ := hP
  have hx := Bd.exec
  have hby := Bd.bytes
  have hml : c.maxLocals = 2 := hml0
  have hown : s.vm.findClass "com/example/ratatoskr/ratatoskr/criteria/Filter" = some m.cls := findClass_of_methodNamed Bd.named
  have hnm := (name_of_methodNamed Bd.named Bd.method).1
  have X0 : Stand p l e ({ frames := 2, cells := 3, slots := 32, locals := 30 } : Room) (s.setVm s.vm) m #[(.ref qa1), (.ref qa1)] below meth c s₁ [] 0 0 := Stand.of_body Bd
  have e0 : s₁.heap = h0 := by rw [← hh, Bd.state]; rfl
  have N0 := Fr.nil n0
  have pre0 : ∀ t, Steps p.tables e below (s₁.setTop (mkF m 0 #[.val (.ref qa1), .val (.ref qa1)] [])) t → Steps p.tables e below (s₁.setTop (entryFrame m #[(.ref qa1), (.ref qa1)] 2)) t := fun t k => castTop (ef4 m qa1 qa1) k
  have hS0 : s.Since s.vm h0.size := (State.WarmedH.refl s).since _
  have hk0 : h0.size ≤ h0.size := Nat.le_refl _
  have hR0 : CHr Z ([] : List (String × Nat)) s.vm h0 s.vm h0 := CHr.refl hC0
  have hEL := own_EW hw
  have hwS := own_wS hw
  obtain ⟨T1, h1, X1, e1, E1, A1, D1, -, st1⟩ := newO X0 hx hZ hown (hw _ (List.mem_of_getElem? (i := 89) rfl)) (hw _ (List.mem_of_getElem? (i := 2) rfl)) (hw _ (List.mem_of_getElem? (i := 3) rfl)) e0 (g := (mkF m 0 #[.val (.ref qa1), .val (.ref qa1)] [])) rfl (hb hby d6_0) (by decide) (by decide)
  obtain ⟨b1, g1⟩ : ∃ z, z = h0.size := ⟨_, rfl⟩
  rw [← g1] at A1 D1 st1
  have K2 : Keep h0 h1 [] := (Keep.refl h0 []).ext E1
  have C3 : CHv Z ([] : List (String × Nat)) s.vm h1 := CHv.ext E1 hC0
  have R4 : CHr Z ([] : List (String × Nat)) s.vm h0 s.vm h1 := hR0.trans (CHr.ext E1 hC0)
  have F5_ : Fld Z h1 b1 "com/example/ratatoskr/ratatoskr/criteria/Filter" "comparison" "Lcom/example/ratatoskr/ratatoskr/criteria/Filter$Comparison;" .null := D1 (Or.inr (hw _ (List.mem_of_getElem? (i := 77) rfl))) (ty := (.object "com/example/ratatoskr/ratatoskr/criteria/Filter$Comparison")) (by decide)
  have F6_ : Fld Z h1 b1 "com/example/ratatoskr/ratatoskr/criteria/Filter" "left" "Lcom/example/ratatoskr/ratatoskr/criteria/Filter;" .null := D1 (Or.inr (hw _ (List.mem_of_getElem? (i := 79) rfl))) (ty := (.object "com/example/ratatoskr/ratatoskr/criteria/Filter")) (by decide)
  have F7_ : Fld Z h1 b1 "com/example/ratatoskr/ratatoskr/criteria/Filter" "junction" "Lcom/example/ratatoskr/ratatoskr/criteria/Filter$Junction;" .null := D1 (Or.inr (hw _ (List.mem_of_getElem? (i := 81) rfl))) (ty := (.object "com/example/ratatoskr/ratatoskr/criteria/Filter$Junction")) (by decide)
  have F8_ : Fld Z h1 b1 "com/example/ratatoskr/ratatoskr/criteria/Filter" "right" "Lcom/example/ratatoskr/ratatoskr/criteria/Filter;" .null := D1 (Or.inr (hw _ (List.mem_of_getElem? (i := 83) rfl))) (ty := (.object "com/example/ratatoskr/ratatoskr/criteria/Filter")) (by decide)
  have O10 : Old Z n0 h1 := X00.ext E1
  obtain ⟨T9, X9, e9, st9⟩ := getS2 X1 hx hZ hown (host := "") (Or.inl (hw _ (List.mem_of_getElem? (i := 90) rfl))) Via.refl e1 (hEN.2.2.1.ext O10.2) (g := (mkF m 5 #[.val (.ref qa1), .val (.ref qa1)] [(.ref qa1), (.ref b1), (.ref b1)])) rfl (hb hby d6_5)
  have g_b1 : n0 ≤ b1 := Nat.le_trans (Nat.le_trans (Nat.le_of_eq X00.1.symm) X00.2.1) (Nat.le_of_eq g1.symm)
  have E12_ : Exa Z h1 qa1 "com/example/ratatoskr/ratatoskr/criteria/Filter" := E_qa1.ext E1
  obtain ⟨_, _, ⟨T11, L11, k11, n11⟩, -, X11, hS11, hgr11, ⟨Lc11, hQ11, l11, y11, z11, CR11⟩, st11⟩ := X9.specialBackS hx (y := (⟨"com/example/ratatoskr/ratatoskr/criteria/Filter", "<init>", "(Lcom/example/ratatoskr/ratatoskr/criteria/Filter;Lcom/example/ratatoskr/ratatoskr/criteria/Filter$Junction;Lcom/example/ratatoskr/ratatoskr/criteria/Filter;)V"⟩ : MethodName)) rfl hown (mvT hZ (hw _ (List.mem_of_getElem? (i := 93) rfl))) (mvT hZ (hw _ (List.mem_of_getElem? (i := 94) rfl))) (mvT hZ (hw _ (List.mem_of_getElem? (i := 95) rfl))) (by decide) (backOfSH (W := 1) (EL := ([] : List (String × Nat))) (s := s) (rm8 l Z a0 hw [] g_IS_NULL g_AND g_OR b1 qa1 h1 n0 O10 hEN A1 F5_ g_b1 F6_ F7_ E12_ F8_) hZ (hw _ (List.mem_of_getElem? (i := 95) rfl)) (hw _ (List.mem_of_getElem? (i := 3) rfl)) (by decide) (by decide) hEL C3) (g := (mkF m 9 #[.val (.ref qa1), .val (.ref qa1)] [(.ref qa1), (.ref g_AND), (.ref qa1), (.ref b1), (.ref b1)])) rfl (by rw [hml]; rfl) (Steps.refl _) (a := b1) (argsL := [(.ref qa1), (.ref g_AND), (.ref qa1)]) (rest := [(.ref b1)]) (lenOf pd7 rfl) rfl (by show 2 * 0 + _ ≤ _; exact Nat.le_of_eq rfl) (hb hby d6_9) (fun _ _ => ⟨rfl, e9, (by decide : 1 + 2 ≤ _), (by decide : 4 + 28 ≤ _)⟩)
  dsimp only [Pt.U, Pt.locs, Pt.cells, Pt.slots] at X11 l11 y11 z11 st11 hQ11 CR11 hS11 hgr11
  subst l11 y11 z11
  obtain ⟨rfl, N11q, K11q, w13, w14, w15, w16, w17⟩ := hQ11
  have N11 := Fr.app N0 N11q
  have hk18' : _ ≤ h1.size := (Nat.le_trans hk0 E1.1)
  have hS11_ : s.Since T11.vm T11.heap.size := hS0.trans hS11 (Nat.le_trans hk18' (show h1.size ≤ T11.heap.size from (e9 ▸ hgr11)))
  have hZ11 : Z.Warmed39 T11.vm := State.Warmed39.trans (t := s.setVm s.vm) hZ hS11.1
  have ho11 : T11.vm.findClass "com/example/ratatoskr/ratatoskr/criteria/Filter" = some m.cls := by rw [hS11.1.alike.findClass]; exact hown
  have X11_ : Stand p l e ({ frames := 2, cells := 3, slots := 32, locals := 30 } : Room) (s.setVm T11.vm) m #[(.ref qa1), (.ref qa1)] below meth c T11 _ _ _ := X11
  have hk11 : T11.heap.size ≤ T11.heap.size := Nat.le_refl _
  have sz_b1 : h0.size ≤ b1 := (Nat.le_of_eq g1.symm)
  have K19 : Keep h0 T11.heap [] := K2.trans K11q (allS (Or.inr sz_b1) all0)
  have R21 : CHr Z ([] : List (String × Nat)) s.vm h0 T11.vm T11.heap := R4.trans CR11
  have E22_ : Exa Z T11.heap b1 "com/example/ratatoskr/ratatoskr/criteria/Filter" := A1.keep K11q
  obtain ⟨fs, hr, hrun, hended, hEnd⟩ := X11_.leaveW (s := s) hS11_ (by rw [show T11.heap = T11.heap from rfl]; exact hk11) (v := (some (.ref b1))) (fun h => by rw [Bd.returns] at h; cases h)
  have hCe : CHr Z ([] : List (String × Nat)) s.vm h0 T11.vm T11.heap := R21.trans (CHv.at X11_ hZ11 hEL CR11.1)
  refine ⟨_, _, pre0 _ ?_, hrun, hended, _, _, rfl, ?_, ?_, hEnd.1, hEnd.2.1, hEnd.2.2.1, hEnd.2.2.2.mono (by decide) (by decide)⟩
  · show Steps p.tables e below (s₁.setTop (mkF m 0 #[.val (.ref qa1), .val (.ref qa1)] [])) _
    refine st1 _ ?_
    show Steps p.tables e below (T1.setTop (mkF m 3 #[.val (.ref qa1), .val (.ref qa1)] [(.ref b1)])) _
    refine XS.dup X1.here hx rfl (hb hby d6_3) rfl rfl ?_
    show Steps p.tables e below (T1.setTop (mkF m 4 #[.val (.ref qa1), .val (.ref qa1)] [(.ref b1), (.ref b1)])) _
    refine XS.aloadN X1.here hx rfl (hb hby d6_4) rfl rfl ?_
    show Steps p.tables e below (T1.setTop (mkF m 5 #[.val (.ref qa1), .val (.ref qa1)] [(.ref qa1), (.ref b1), (.ref b1)])) _
    refine st9 _ ?_
    show Steps p.tables e below (T9.setTop (mkF m 8 #[.val (.ref qa1), .val (.ref qa1)] [(.ref g_AND), (.ref qa1), (.ref b1), (.ref b1)])) _
    refine XS.aloadN X9.here hx rfl (hb hby d6_8) rfl rfl ?_
    show Steps p.tables e below (T9.setTop (mkF m 9 #[.val (.ref qa1), .val (.ref qa1)] [(.ref qa1), (.ref g_AND), (.ref qa1), (.ref b1), (.ref b1)])) _
    refine st11.trans ?_
    show Steps p.tables e below (T11.setTop (mkF m 12 #[.val (.ref qa1), .val (.ref qa1)] [(.ref b1)])) _
    exact retOut X11_ hx Bd.returns rfl (Or.inr (Or.inr (Or.inr (Or.inr ⟨rfl, rfl, rfl⟩)))) (hb hby d6_12) hr
  · show Q9 Z g_IS_NULL g_AND g_OR qa1 h0 n0 _ T11.heap _
    exact ⟨b1, rfl, N11, K19, sz_b1, E22_, w14, w15, w16, w17⟩
  · show CHr Z ([] : List (String × Nat)) s.vm s.heap T11.vm T11.heap
    rw [hh]
    exact hCe
theorem pd8 : parseMethodDescriptor "(Lcom/example/ratatoskr/ratatoskr/criteria/Filter;)Lcom/example/ratatoskr/ratatoskr/criteria/Filter;" = some ⟨[(.object "com/example/ratatoskr/ratatoskr/criteria/Filter")], some (.object "com/example/ratatoskr/ratatoskr/criteria/Filter")⟩ := by decide +kernel
theorem d8_0 : decode prog_13_method_7_code 0 = .ok (.aload_n 0, 1) := by decide +kernel
theorem d8_1 : decode prog_13_method_7_code 1 = .ok (.getfield 17, 3) := by decide +kernel
theorem d8_4 : decode prog_13_method_7_code 4 = .ok (.areturn, 1) := by decide +kernel
-- com/example/ratatoskr/ratatoskr/criteria/Filter.comparison()Lcom/example/ratatoskr/ratatoskr/criteria/Filter$Comparison;
def Q10 (Z : State) (qa1 : Addr) (h0 : Heap) (n0 : Nat) (v : Option Value) (h : Heap) (L : List Loc) : Prop := v = some .null ∧ Fr n0 L ∧ h = h0
set_option maxRecDepth 65536 in
set_option maxHeartbeats 40000000 in
theorem rm10 (l : Launch) (Z : State) (a0 : Array Value) (hw : ∀ d ∈ tables_1, d.before a0 Z = true) (ws : List Jvm.Cond) (qa1 : Addr) (h0 : Heap) (n0 : Nat) (X00 : Old Z n0 h0) (F_qa1_comparison : Fld Z h0 qa1 "com/example/ratatoskr/ratatoskr/criteria/Filter" "comparison" "Lcom/example/ratatoskr/ratatoskr/criteria/Filter$Comparison;" .null) :
    MetFree l (⟨"com/example/ratatoskr/ratatoskr/criteria/Filter", "comparison", "()Lcom/example/ratatoskr/ratatoskr/criteria/Filter$Comparison;"⟩ : MethodName) (head1 (Jvm.Cond.code (⟨"com/example/ratatoskr/ratatoskr/criteria/Filter", "comparison", "()Lcom/example/ratatoskr/ratatoskr/criteria/Filter$Comparison;"⟩ : MethodName) prog_13_method_7_code 1 (some (.object "com/example/ratatoskr/ratatoskr/criteria/Filter$Comparison")) :: ws) ({ frames := 0, cells := 0, slots := 0, locals := 0 } : Room)) (fun a U => a = #[(.ref qa1)] ∧ Z.Warmed39 U.vm ∧ U.heap = h0) (fun _ _ _ _ _ => True) (fun _ U o U' => ∃ v L, o = .returned v ∧ Q10 Z qa1 h0 n0 v U'.heap L ∧ FrameEnd U o U' L ({ frames := 0, cells := 0, slots := 0, locals := 0 } : Room).cells ({ frames := 0, cells := 0, slots := 0, locals := 0 } : Room).slots) := by
  refine MetFree.of_bodySF (plainFor_of_name pn1) hisR ?_
  intro p e s m args below meth c s₁ Bd hml0 hP hK
  obtain ⟨rfl, hZ, hh⟩ := hP
  have hx := Bd.exec
  have hby := Bd.bytes
  have hml : c.maxLocals = 1 := hml0
  have hown : s.vm.findClass "com/example/ratatoskr/ratatoskr/criteria/Filter" = some m.cls := findClass_of_methodNamed Bd.named
  have hnm := (name_of_methodNamed Bd.named Bd.method).1
  have X0 : Stand p l e ({ frames := 0, cells := 0, slots := 0, locals := 0 } : Room) s m #[(.ref qa1)] below meth c s₁ [] 0 0 := Stand.of_body Bd
  have e0 : s₁.heap = h0 := by rw [← hh, Bd.state]; rfl
  have N0 := Fr.nil n0
  have pre0 : ∀ t, Steps p.tables e below (s₁.setTop (mkF m 0 #[.val (.ref qa1)] [])) t → Steps p.tables e below (s₁.setTop (entryFrame m #[(.ref qa1)] 1)) t := fun t k => castTop (ef3 m qa1) k
  obtain ⟨T1, X1, e1, st1⟩ := getF X0 hx hZ hown (host := "") (Or.inl (hw _ (List.mem_of_getElem? (i := 76) rfl))) Via.refl e0 F_qa1_comparison (g := (mkF m 1 #[.val (.ref qa1)] [(.ref qa1)])) rfl rfl (hb hby d8_1)
  obtain ⟨fs, hr, hrun, hended, hW, hsame⟩ := X1.leave (v := (some .null)) (fun h => by rw [Bd.returns] at h; cases h)
  refine ⟨_, _, pre0 _ ?_, hrun, hended, _, _, rfl, ?_, ⟨_, rfl⟩, hW, hsame.mono (by decide) (by decide)⟩
  · show Steps p.tables e below (s₁.setTop (mkF m 0 #[.val (.ref qa1)] [])) _
    refine XS.aloadN X0.here hx rfl (hb hby d8_0) rfl rfl ?_
    show Steps p.tables e below (s₁.setTop (mkF m 1 #[.val (.ref qa1)] [(.ref qa1)])) _
    refine st1 _ ?_
    show Steps p.tables e below (T1.setTop (mkF m 4 #[.val (.ref qa1)] [.null])) _
    exact retOut X1 hx Bd.returns rfl (Or.inr (Or.inr (Or.inr (Or.inr ⟨rfl, rfl, rfl⟩)))) (hb hby d8_4) hr
  · show Q10 Z qa1 h0 n0 _ T1.heap _
    rw [show T1.heap = h0 from e1]
    exact ⟨rfl, N0, rfl⟩
theorem pd9 : parseMethodDescriptor "()Lcom/example/ratatoskr/ratatoskr/criteria/Filter$Comparison;" = some ⟨[], some (.object "com/example/ratatoskr/ratatoskr/criteria/Filter$Comparison")⟩ := by decide +kernel
theorem d9_0 : decode prog_13_method_8_code 0 = .ok (.aload_n 0, 1) := by decide +kernel
theorem d9_1 : decode prog_13_method_8_code 1 = .ok (.getfield 21, 3) := by decide +kernel
theorem d9_4 : decode prog_13_method_8_code 4 = .ok (.areturn, 1) := by decide +kernel
-- com/example/ratatoskr/ratatoskr/criteria/Filter.left()Lcom/example/ratatoskr/ratatoskr/criteria/Filter;
def Q11 (Z : State) (qa1 : Addr) (qa2 : Addr) (h0 : Heap) (n0 : Nat) (v : Option Value) (h : Heap) (L : List Loc) : Prop := v = some (.ref qa2) ∧ Fr n0 L ∧ h = h0
set_option maxRecDepth 65536 in
set_option maxHeartbeats 40000000 in
theorem rm11 (l : Launch) (Z : State) (a0 : Array Value) (hw : ∀ d ∈ tables_1, d.before a0 Z = true) (ws : List Jvm.Cond) (qa1 : Addr) (qa2 : Addr) (h0 : Heap) (n0 : Nat) (X00 : Old Z n0 h0) (F_qa1_left : Fld Z h0 qa1 "com/example/ratatoskr/ratatoskr/criteria/Filter" "left" "Lcom/example/ratatoskr/ratatoskr/criteria/Filter;" (.ref qa2)) :
    MetFree l (⟨"com/example/ratatoskr/ratatoskr/criteria/Filter", "left", "()Lcom/example/ratatoskr/ratatoskr/criteria/Filter;"⟩ : MethodName) (head1 (Jvm.Cond.code (⟨"com/example/ratatoskr/ratatoskr/criteria/Filter", "left", "()Lcom/example/ratatoskr/ratatoskr/criteria/Filter;"⟩ : MethodName) prog_13_method_8_code 1 (some (.object "com/example/ratatoskr/ratatoskr/criteria/Filter")) :: ws) ({ frames := 0, cells := 0, slots := 0, locals := 0 } : Room)) (fun a U => a = #[(.ref qa1)] ∧ Z.Warmed39 U.vm ∧ U.heap = h0) (fun _ _ _ _ _ => True) (fun _ U o U' => ∃ v L, o = .returned v ∧ Q11 Z qa1 qa2 h0 n0 v U'.heap L ∧ FrameEnd U o U' L ({ frames := 0, cells := 0, slots := 0, locals := 0 } : Room).cells ({ frames := 0, cells := 0, slots := 0, locals := 0 } : Room).slots) := by
  refine MetFree.of_bodySF (plainFor_of_name pn1) hisR ?_
  intro p e s m args below meth c s₁ Bd hml0 hP hK
  obtain ⟨rfl, hZ, hh⟩ := hP
  have hx := Bd.exec
  have hby := Bd.bytes
  have hml : c.maxLocals = 1 := hml0
  have hown : s.vm.findClass "com/example/ratatoskr/ratatoskr/criteria/Filter" = some m.cls := findClass_of_methodNamed Bd.named
  have hnm := (name_of_methodNamed Bd.named Bd.method).1
  have X0 : Stand p l e ({ frames := 0, cells := 0, slots := 0, locals := 0 } : Room) s m #[(.ref qa1)] below meth c s₁ [] 0 0 := Stand.of_body Bd
  have e0 : s₁.heap = h0 := by rw [← hh, Bd.state]; rfl
  have N0 := Fr.nil n0
  have pre0 : ∀ t, Steps p.tables e below (s₁.setTop (mkF m 0 #[.val (.ref qa1)] [])) t → Steps p.tables e below (s₁.setTop (entryFrame m #[(.ref qa1)] 1)) t := fun t k => castTop (ef3 m qa1) k
  obtain ⟨T1, X1, e1, st1⟩ := getF X0 hx hZ hown (host := "") (Or.inl (hw _ (List.mem_of_getElem? (i := 78) rfl))) Via.refl e0 F_qa1_left (g := (mkF m 1 #[.val (.ref qa1)] [(.ref qa1)])) rfl rfl (hb hby d9_1)
  obtain ⟨fs, hr, hrun, hended, hW, hsame⟩ := X1.leave (v := (some (.ref qa2))) (fun h => by rw [Bd.returns] at h; cases h)
  refine ⟨_, _, pre0 _ ?_, hrun, hended, _, _, rfl, ?_, ⟨_, rfl⟩, hW, hsame.mono (by decide) (by decide)⟩
  · show Steps p.tables e below (s₁.setTop (mkF m 0 #[.val (.ref qa1)] [])) _
    refine XS.aloadN X0.here hx rfl (hb hby d9_0) rfl rfl ?_
    show Steps p.tables e below (s₁.setTop (mkF m 1 #[.val (.ref qa1)] [(.ref qa1)])) _
    refine st1 _ ?_
    show Steps p.tables e below (T1.setTop (mkF m 4 #[.val (.ref qa1)] [(.ref qa2)])) _
    exact retOut X1 hx Bd.returns rfl (Or.inr (Or.inr (Or.inr (Or.inr ⟨rfl, rfl, rfl⟩)))) (hb hby d9_4) hr
  · show Q11 Z qa1 qa2 h0 n0 _ T1.heap _
    rw [show T1.heap = h0 from e1]
    exact ⟨rfl, N0, rfl⟩
theorem pd10 : parseMethodDescriptor "()Lcom/example/ratatoskr/ratatoskr/criteria/Filter;" = some ⟨[], some (.object "com/example/ratatoskr/ratatoskr/criteria/Filter")⟩ := by decide +kernel
theorem d10_0 : decode prog_13_method_10_code 0 = .ok (.aload_n 0, 1) := by decide +kernel
theorem d10_1 : decode prog_13_method_10_code 1 = .ok (.getfield 29, 3) := by decide +kernel
theorem d10_4 : decode prog_13_method_10_code 4 = .ok (.areturn, 1) := by decide +kernel
-- com/example/ratatoskr/ratatoskr/criteria/Filter.right()Lcom/example/ratatoskr/ratatoskr/criteria/Filter;
def Q12 (Z : State) (qa1 : Addr) (qa2 : Addr) (h0 : Heap) (n0 : Nat) (v : Option Value) (h : Heap) (L : List Loc) : Prop := v = some (.ref qa2) ∧ Fr n0 L ∧ h = h0
set_option maxRecDepth 65536 in
set_option maxHeartbeats 40000000 in
theorem rm12 (l : Launch) (Z : State) (a0 : Array Value) (hw : ∀ d ∈ tables_1, d.before a0 Z = true) (ws : List Jvm.Cond) (qa1 : Addr) (qa2 : Addr) (h0 : Heap) (n0 : Nat) (X00 : Old Z n0 h0) (F_qa1_right : Fld Z h0 qa1 "com/example/ratatoskr/ratatoskr/criteria/Filter" "right" "Lcom/example/ratatoskr/ratatoskr/criteria/Filter;" (.ref qa2)) :
    MetFree l (⟨"com/example/ratatoskr/ratatoskr/criteria/Filter", "right", "()Lcom/example/ratatoskr/ratatoskr/criteria/Filter;"⟩ : MethodName) (head1 (Jvm.Cond.code (⟨"com/example/ratatoskr/ratatoskr/criteria/Filter", "right", "()Lcom/example/ratatoskr/ratatoskr/criteria/Filter;"⟩ : MethodName) prog_13_method_10_code 1 (some (.object "com/example/ratatoskr/ratatoskr/criteria/Filter")) :: ws) ({ frames := 0, cells := 0, slots := 0, locals := 0 } : Room)) (fun a U => a = #[(.ref qa1)] ∧ Z.Warmed39 U.vm ∧ U.heap = h0) (fun _ _ _ _ _ => True) (fun _ U o U' => ∃ v L, o = .returned v ∧ Q12 Z qa1 qa2 h0 n0 v U'.heap L ∧ FrameEnd U o U' L ({ frames := 0, cells := 0, slots := 0, locals := 0 } : Room).cells ({ frames := 0, cells := 0, slots := 0, locals := 0 } : Room).slots) := by
  refine MetFree.of_bodySF (plainFor_of_name pn1) hisR ?_
  intro p e s m args below meth c s₁ Bd hml0 hP hK
  obtain ⟨rfl, hZ, hh⟩ := hP
  have hx := Bd.exec
  have hby := Bd.bytes
  have hml : c.maxLocals = 1 := hml0
  have hown : s.vm.findClass "com/example/ratatoskr/ratatoskr/criteria/Filter" = some m.cls := findClass_of_methodNamed Bd.named
  have hnm := (name_of_methodNamed Bd.named Bd.method).1
  have X0 : Stand p l e ({ frames := 0, cells := 0, slots := 0, locals := 0 } : Room) s m #[(.ref qa1)] below meth c s₁ [] 0 0 := Stand.of_body Bd
  have e0 : s₁.heap = h0 := by rw [← hh, Bd.state]; rfl
  have N0 := Fr.nil n0
  have pre0 : ∀ t, Steps p.tables e below (s₁.setTop (mkF m 0 #[.val (.ref qa1)] [])) t → Steps p.tables e below (s₁.setTop (entryFrame m #[(.ref qa1)] 1)) t := fun t k => castTop (ef3 m qa1) k
  obtain ⟨T1, X1, e1, st1⟩ := getF X0 hx hZ hown (host := "") (Or.inl (hw _ (List.mem_of_getElem? (i := 82) rfl))) Via.refl e0 F_qa1_right (g := (mkF m 1 #[.val (.ref qa1)] [(.ref qa1)])) rfl rfl (hb hby d10_1)
  obtain ⟨fs, hr, hrun, hended, hW, hsame⟩ := X1.leave (v := (some (.ref qa2))) (fun h => by rw [Bd.returns] at h; cases h)
  refine ⟨_, _, pre0 _ ?_, hrun, hended, _, _, rfl, ?_, ⟨_, rfl⟩, hW, hsame.mono (by decide) (by decide)⟩
  · show Steps p.tables e below (s₁.setTop (mkF m 0 #[.val (.ref qa1)] [])) _
    refine XS.aloadN X0.here hx rfl (hb hby d10_0) rfl rfl ?_
    show Steps p.tables e below (s₁.setTop (mkF m 1 #[.val (.ref qa1)] [(.ref qa1)])) _
    refine st1 _ ?_
    show Steps p.tables e below (T1.setTop (mkF m 4 #[.val (.ref qa1)] [(.ref qa2)])) _
    exact retOut X1 hx Bd.returns rfl (Or.inr (Or.inr (Or.inr (Or.inr ⟨rfl, rfl, rfl⟩)))) (hb hby d10_4) hr
  · show Q12 Z qa1 qa2 h0 n0 _ T1.heap _
    rw [show T1.heap = h0 from e1]
    exact ⟨rfl, N0, rfl⟩
theorem d11_0 : decode prog_13_method_9_code 0 = .ok (.aload_n 0, 1) := by decide +kernel
theorem d11_1 : decode prog_13_method_9_code 1 = .ok (.getfield 25, 3) := by decide +kernel
theorem d11_4 : decode prog_13_method_9_code 4 = .ok (.areturn, 1) := by decide +kernel
-- com/example/ratatoskr/ratatoskr/criteria/Filter.junction()Lcom/example/ratatoskr/ratatoskr/criteria/Filter$Junction;
def Q13 (Z : State) (g_IS_NULL : Addr) (g_AND : Addr) (g_OR : Addr) (qa1 : Addr) (h0 : Heap) (n0 : Nat) (v : Option Value) (h : Heap) (L : List Loc) : Prop := v = some (.ref g_AND) ∧ Fr n0 L ∧ h = h0
set_option maxRecDepth 65536 in
set_option maxHeartbeats 40000000 in
theorem rm13 (l : Launch) (Z : State) (a0 : Array Value) (hw : ∀ d ∈ tables_1, d.before a0 Z = true) (ws : List Jvm.Cond) (g_IS_NULL : Addr) (g_AND : Addr) (g_OR : Addr) (qa1 : Addr) (h0 : Heap) (n0 : Nat) (X00 : Old Z n0 h0) (hEN : OwnEN Z g_IS_NULL g_AND g_OR) (F_qa1_junction : Fld Z h0 qa1 "com/example/ratatoskr/ratatoskr/criteria/Filter" "junction" "Lcom/example/ratatoskr/ratatoskr/criteria/Filter$Junction;" (.ref g_AND)) :
    MetFree l (⟨"com/example/ratatoskr/ratatoskr/criteria/Filter", "junction", "()Lcom/example/ratatoskr/ratatoskr/criteria/Filter$Junction;"⟩ : MethodName) (head1 (Jvm.Cond.code (⟨"com/example/ratatoskr/ratatoskr/criteria/Filter", "junction", "()Lcom/example/ratatoskr/ratatoskr/criteria/Filter$Junction;"⟩ : MethodName) prog_13_method_9_code 1 (some (.object "com/example/ratatoskr/ratatoskr/criteria/Filter$Junction")) :: ws) ({ frames := 0, cells := 0, slots := 0, locals := 0 } : Room)) (fun a U => a = #[(.ref qa1)] ∧ Z.Warmed39 U.vm ∧ U.heap = h0) (fun _ _ _ _ _ => True) (fun _ U o U' => ∃ v L, o = .returned v ∧ Q13 Z g_IS_NULL g_AND g_OR qa1 h0 n0 v U'.heap L ∧ FrameEnd U o U' L ({ frames := 0, cells := 0, slots := 0, locals := 0 } : Room).cells ({ frames := 0, cells := 0, slots := 0, locals := 0 } : Room).slots) := by
  refine MetFree.of_bodySF (plainFor_of_name pn1) hisR ?_
  intro p e s m args below meth c s₁ Bd hml0 hP hK
  obtain ⟨rfl, hZ, hh⟩ := hP
  have hx := Bd.exec
  have hby := Bd.bytes
  have hml : c.maxLocals = 1 := hml0
  have hown : s.vm.findClass "com/example/ratatoskr/ratatoskr/criteria/Filter" = some m.cls := findClass_of_methodNamed Bd.named
  have hnm := (name_of_methodNamed Bd.named Bd.method).1
  have X0 : Stand p l e ({ frames := 0, cells := 0, slots := 0, locals := 0 } : Room) s m #[(.ref qa1)] below meth c s₁ [] 0 0 := Stand.of_body Bd
  have e0 : s₁.heap = h0 := by rw [← hh, Bd.state]; rfl
  have N0 := Fr.nil n0
  have pre0 : ∀ t, Steps p.tables e below (s₁.setTop (mkF m 0 #[.val (.ref qa1)] [])) t → Steps p.tables e below (s₁.setTop (entryFrame m #[(.ref qa1)] 1)) t := fun t k => castTop (ef3 m qa1) k
  obtain ⟨T1, X1, e1, st1⟩ := getF X0 hx hZ hown (host := "") (Or.inl (hw _ (List.mem_of_getElem? (i := 80) rfl))) Via.refl e0 F_qa1_junction (g := (mkF m 1 #[.val (.ref qa1)] [(.ref qa1)])) rfl rfl (hb hby d11_1)
  obtain ⟨fs, hr, hrun, hended, hW, hsame⟩ := X1.leave (v := (some (.ref g_AND))) (fun h => by rw [Bd.returns] at h; cases h)
  refine ⟨_, _, pre0 _ ?_, hrun, hended, _, _, rfl, ?_, ⟨_, rfl⟩, hW, hsame.mono (by decide) (by decide)⟩
  · show Steps p.tables e below (s₁.setTop (mkF m 0 #[.val (.ref qa1)] [])) _
    refine XS.aloadN X0.here hx rfl (hb hby d11_0) rfl rfl ?_
    show Steps p.tables e below (s₁.setTop (mkF m 1 #[.val (.ref qa1)] [(.ref qa1)])) _
    refine st1 _ ?_
    show Steps p.tables e below (T1.setTop (mkF m 4 #[.val (.ref qa1)] [(.ref g_AND)])) _
    exact retOut X1 hx Bd.returns rfl (Or.inr (Or.inr (Or.inr (Or.inr ⟨rfl, rfl, rfl⟩)))) (hb hby d11_4) hr
  · show Q13 Z g_IS_NULL g_AND g_OR qa1 h0 n0 _ T1.heap _
    rw [show T1.heap = h0 from e1]
    exact ⟨rfl, N0, rfl⟩
theorem pd11 : parseMethodDescriptor "()Lcom/example/ratatoskr/ratatoskr/criteria/Filter$Junction;" = some ⟨[], some (.object "com/example/ratatoskr/ratatoskr/criteria/Filter$Junction")⟩ := by decide +kernel
-- com/example/ratatoskr/ratatoskr/criteria/Filter.junction()Lcom/example/ratatoskr/ratatoskr/criteria/Filter$Junction;
def Q14 (Z : State) (qa1 : Addr) (h0 : Heap) (n0 : Nat) (v : Option Value) (h : Heap) (L : List Loc) : Prop := v = some .null ∧ Fr n0 L ∧ h = h0
set_option maxRecDepth 65536 in
set_option maxHeartbeats 40000000 in
theorem rm14 (l : Launch) (Z : State) (a0 : Array Value) (hw : ∀ d ∈ tables_1, d.before a0 Z = true) (ws : List Jvm.Cond) (qa1 : Addr) (h0 : Heap) (n0 : Nat) (X00 : Old Z n0 h0) (F_qa1_junction : Fld Z h0 qa1 "com/example/ratatoskr/ratatoskr/criteria/Filter" "junction" "Lcom/example/ratatoskr/ratatoskr/criteria/Filter$Junction;" .null) :
    MetFree l (⟨"com/example/ratatoskr/ratatoskr/criteria/Filter", "junction", "()Lcom/example/ratatoskr/ratatoskr/criteria/Filter$Junction;"⟩ : MethodName) (head1 (Jvm.Cond.code (⟨"com/example/ratatoskr/ratatoskr/criteria/Filter", "junction", "()Lcom/example/ratatoskr/ratatoskr/criteria/Filter$Junction;"⟩ : MethodName) prog_13_method_9_code 1 (some (.object "com/example/ratatoskr/ratatoskr/criteria/Filter$Junction")) :: ws) ({ frames := 0, cells := 0, slots := 0, locals := 0 } : Room)) (fun a U => a = #[(.ref qa1)] ∧ Z.Warmed39 U.vm ∧ U.heap = h0) (fun _ _ _ _ _ => True) (fun _ U o U' => ∃ v L, o = .returned v ∧ Q14 Z qa1 h0 n0 v U'.heap L ∧ FrameEnd U o U' L ({ frames := 0, cells := 0, slots := 0, locals := 0 } : Room).cells ({ frames := 0, cells := 0, slots := 0, locals := 0 } : Room).slots) := by
  refine MetFree.of_bodySF (plainFor_of_name pn1) hisR ?_
  intro p e s m args below meth c s₁ Bd hml0 hP hK
  obtain ⟨rfl, hZ, hh⟩ := hP
  have hx := Bd.exec
  have hby := Bd.bytes
  have hml : c.maxLocals = 1 := hml0
  have hown : s.vm.findClass "com/example/ratatoskr/ratatoskr/criteria/Filter" = some m.cls := findClass_of_methodNamed Bd.named
  have hnm := (name_of_methodNamed Bd.named Bd.method).1
  have X0 : Stand p l e ({ frames := 0, cells := 0, slots := 0, locals := 0 } : Room) s m #[(.ref qa1)] below meth c s₁ [] 0 0 := Stand.of_body Bd
  have e0 : s₁.heap = h0 := by rw [← hh, Bd.state]; rfl
  have N0 := Fr.nil n0
  have pre0 : ∀ t, Steps p.tables e below (s₁.setTop (mkF m 0 #[.val (.ref qa1)] [])) t → Steps p.tables e below (s₁.setTop (entryFrame m #[(.ref qa1)] 1)) t := fun t k => castTop (ef3 m qa1) k
  obtain ⟨T1, X1, e1, st1⟩ := getF X0 hx hZ hown (host := "") (Or.inl (hw _ (List.mem_of_getElem? (i := 80) rfl))) Via.refl e0 F_qa1_junction (g := (mkF m 1 #[.val (.ref qa1)] [(.ref qa1)])) rfl rfl (hb hby d11_1)
  obtain ⟨fs, hr, hrun, hended, hW, hsame⟩ := X1.leave (v := (some .null)) (fun h => by rw [Bd.returns] at h; cases h)
  refine ⟨_, _, pre0 _ ?_, hrun, hended, _, _, rfl, ?_, ⟨_, rfl⟩, hW, hsame.mono (by decide) (by decide)⟩
  · show Steps p.tables e below (s₁.setTop (mkF m 0 #[.val (.ref qa1)] [])) _
    refine XS.aloadN X0.here hx rfl (hb hby d11_0) rfl rfl ?_
    show Steps p.tables e below (s₁.setTop (mkF m 1 #[.val (.ref qa1)] [(.ref qa1)])) _
    refine st1 _ ?_
    show Steps p.tables e below (T1.setTop (mkF m 4 #[.val (.ref qa1)] [.null])) _
    exact retOut X1 hx Bd.returns rfl (Or.inr (Or.inr (Or.inr (Or.inr ⟨rfl, rfl, rfl⟩)))) (hb hby d11_4) hr
  · show Q14 Z qa1 h0 n0 _ T1.heap _
    rw [show T1.heap = h0 from e1]
    exact ⟨rfl, N0, rfl⟩
-- com/example/ratatoskr/ratatoskr/criteria/Filter.left()Lcom/example/ratatoskr/ratatoskr/criteria/Filter;
def Q15 (Z : State) (qa1 : Addr) (h0 : Heap) (n0 : Nat) (v : Option Value) (h : Heap) (L : List Loc) : Prop := v = some .null ∧ Fr n0 L ∧ h = h0
set_option maxRecDepth 65536 in
set_option maxHeartbeats 40000000 in
theorem rm15 (l : Launch) (Z : State) (a0 : Array Value) (hw : ∀ d ∈ tables_1, d.before a0 Z = true) (ws : List Jvm.Cond) (qa1 : Addr) (h0 : Heap) (n0 : Nat) (X00 : Old Z n0 h0) (F_qa1_left : Fld Z h0 qa1 "com/example/ratatoskr/ratatoskr/criteria/Filter" "left" "Lcom/example/ratatoskr/ratatoskr/criteria/Filter;" .null) :
    MetFree l (⟨"com/example/ratatoskr/ratatoskr/criteria/Filter", "left", "()Lcom/example/ratatoskr/ratatoskr/criteria/Filter;"⟩ : MethodName) (head1 (Jvm.Cond.code (⟨"com/example/ratatoskr/ratatoskr/criteria/Filter", "left", "()Lcom/example/ratatoskr/ratatoskr/criteria/Filter;"⟩ : MethodName) prog_13_method_8_code 1 (some (.object "com/example/ratatoskr/ratatoskr/criteria/Filter")) :: ws) ({ frames := 0, cells := 0, slots := 0, locals := 0 } : Room)) (fun a U => a = #[(.ref qa1)] ∧ Z.Warmed39 U.vm ∧ U.heap = h0) (fun _ _ _ _ _ => True) (fun _ U o U' => ∃ v L, o = .returned v ∧ Q15 Z qa1 h0 n0 v U'.heap L ∧ FrameEnd U o U' L ({ frames := 0, cells := 0, slots := 0, locals := 0 } : Room).cells ({ frames := 0, cells := 0, slots := 0, locals := 0 } : Room).slots) := by
  refine MetFree.of_bodySF (plainFor_of_name pn1) hisR ?_
  intro p e s m args below meth c s₁ Bd hml0 hP hK
  obtain ⟨rfl, hZ, hh⟩ := hP
  have hx := Bd.exec
  have hby := Bd.bytes
  have hml : c.maxLocals = 1 := hml0
  have hown : s.vm.findClass "com/example/ratatoskr/ratatoskr/criteria/Filter" = some m.cls := findClass_of_methodNamed Bd.named
  have hnm := (name_of_methodNamed Bd.named Bd.method).1
  have X0 : Stand p l e ({ frames := 0, cells := 0, slots := 0, locals := 0 } : Room) s m #[(.ref qa1)] below meth c s₁ [] 0 0 := Stand.of_body Bd
  have e0 : s₁.heap = h0 := by rw [← hh, Bd.state]; rfl
  have N0 := Fr.nil n0
  have pre0 : ∀ t, Steps p.tables e below (s₁.setTop (mkF m 0 #[.val (.ref qa1)] [])) t → Steps p.tables e below (s₁.setTop (entryFrame m #[(.ref qa1)] 1)) t := fun t k => castTop (ef3 m qa1) k
  obtain ⟨T1, X1, e1, st1⟩ := getF X0 hx hZ hown (host := "") (Or.inl (hw _ (List.mem_of_getElem? (i := 78) rfl))) Via.refl e0 F_qa1_left (g := (mkF m 1 #[.val (.ref qa1)] [(.ref qa1)])) rfl rfl (hb hby d9_1)
  obtain ⟨fs, hr, hrun, hended, hW, hsame⟩ := X1.leave (v := (some .null)) (fun h => by rw [Bd.returns] at h; cases h)
  refine ⟨_, _, pre0 _ ?_, hrun, hended, _, _, rfl, ?_, ⟨_, rfl⟩, hW, hsame.mono (by decide) (by decide)⟩
  · show Steps p.tables e below (s₁.setTop (mkF m 0 #[.val (.ref qa1)] [])) _
    refine XS.aloadN X0.here hx rfl (hb hby d9_0) rfl rfl ?_
    show Steps p.tables e below (s₁.setTop (mkF m 1 #[.val (.ref qa1)] [(.ref qa1)])) _
    refine st1 _ ?_
    show Steps p.tables e below (T1.setTop (mkF m 4 #[.val (.ref qa1)] [.null])) _
    exact retOut X1 hx Bd.returns rfl (Or.inr (Or.inr (Or.inr (Or.inr ⟨rfl, rfl, rfl⟩)))) (hb hby d9_4) hr
  · show Q15 Z qa1 h0 n0 _ T1.heap _
    rw [show T1.heap = h0 from e1]
    exact ⟨rfl, N0, rfl⟩
-- com/example/ratatoskr/ratatoskr/criteria/Filter.<init>(Lcom/example/ratatoskr/ratatoskr/criteria/Filter;Lcom/example/ratatoskr/ratatoskr/criteria/Filter$Junction;Lcom/example/ratatoskr/ratatoskr/criteria/Filter;)V
def Q16 (Z : State) (g_IS_NULL : Addr) (g_AND : Addr) (g_OR : Addr) (qa1 : Addr) (qa2 : Addr) (qa3 : Addr) (h0 : Heap) (n0 : Nat) (v : Option Value) (h : Heap) (L : List Loc) : Prop := v = none ∧ Fr n0 L ∧ Keep h0 h [qa1] ∧ Exa Z h qa1 "com/example/ratatoskr/ratatoskr/criteria/Filter" ∧ Fld Z h qa1 "com/example/ratatoskr/ratatoskr/criteria/Filter" "comparison" "Lcom/example/ratatoskr/ratatoskr/criteria/Filter$Comparison;" .null ∧ Fld Z h qa1 "com/example/ratatoskr/ratatoskr/criteria/Filter" "left" "Lcom/example/ratatoskr/ratatoskr/criteria/Filter;" (.ref qa2) ∧ Fld Z h qa1 "com/example/ratatoskr/ratatoskr/criteria/Filter" "junction" "Lcom/example/ratatoskr/ratatoskr/criteria/Filter$Junction;" (.ref g_AND) ∧ Fld Z h qa1 "com/example/ratatoskr/ratatoskr/criteria/Filter" "right" "Lcom/example/ratatoskr/ratatoskr/criteria/Filter;" (.ref qa3)
set_option maxRecDepth 65536 in
set_option maxHeartbeats 40000000 in
theorem rm16 (l : Launch) (Z : State) (a0 : Array Value) (hw : ∀ d ∈ tables_1, d.before a0 Z = true) (ws : List Jvm.Cond) (g_IS_NULL : Addr) (g_AND : Addr) (g_OR : Addr) (qa1 : Addr) (qa2 : Addr) (qa3 : Addr) (h0 : Heap) (n0 : Nat) (X00 : Old Z n0 h0) (hEN : OwnEN Z g_IS_NULL g_AND g_OR) (E_qa1 : Exa Z h0 qa1 "com/example/ratatoskr/ratatoskr/criteria/Filter") (F_qa1_comparison : Fld Z h0 qa1 "com/example/ratatoskr/ratatoskr/criteria/Filter" "comparison" "Lcom/example/ratatoskr/ratatoskr/criteria/Filter$Comparison;" .null) (g_qa1 : n0 ≤ qa1) (F_qa1_left : Fld Z h0 qa1 "com/example/ratatoskr/ratatoskr/criteria/Filter" "left" "Lcom/example/ratatoskr/ratatoskr/criteria/Filter;" .null) (F_qa1_junction : Fld Z h0 qa1 "com/example/ratatoskr/ratatoskr/criteria/Filter" "junction" "Lcom/example/ratatoskr/ratatoskr/criteria/Filter$Junction;" .null) (E_qa3 : Exa Z h0 qa3 "com/example/ratatoskr/ratatoskr/criteria/Filter") (F_qa1_right : Fld Z h0 qa1 "com/example/ratatoskr/ratatoskr/criteria/Filter" "right" "Lcom/example/ratatoskr/ratatoskr/criteria/Filter;" .null) :
    MetFree l (⟨"com/example/ratatoskr/ratatoskr/criteria/Filter", "<init>", "(Lcom/example/ratatoskr/ratatoskr/criteria/Filter;Lcom/example/ratatoskr/ratatoskr/criteria/Filter$Junction;Lcom/example/ratatoskr/ratatoskr/criteria/Filter;)V"⟩ : MethodName) (head1 (Jvm.Cond.code (⟨"com/example/ratatoskr/ratatoskr/criteria/Filter", "<init>", "(Lcom/example/ratatoskr/ratatoskr/criteria/Filter;Lcom/example/ratatoskr/ratatoskr/criteria/Filter$Junction;Lcom/example/ratatoskr/ratatoskr/criteria/Filter;)V"⟩ : MethodName) prog_13_method_4_code 4 none :: ws) ({ frames := 1, cells := 2, slots := 28, locals := 14 } : Room)) (fun a U => a = #[(.ref qa1), (.ref qa2), (.ref g_AND), (.ref qa3)] ∧ Z.Warmed39 U.vm ∧ U.heap = h0 ∧ CHv Z ([] : List (String × Nat)) U.vm h0) (fun _ _ _ _ _ => True) (fun _ U o U' => ∃ v L, o = .returned v ∧ Q16 Z g_IS_NULL g_AND g_OR qa1 qa2 qa3 h0 n0 v U'.heap L ∧ CHr Z ([] : List (String × Nat)) U.vm U.heap U'.vm U'.heap ∧ ReturnedEndW U o U' L ({ frames := 1, cells := 2, slots := 28, locals := 14 } : Room).cells ({ frames := 1, cells := 2, slots := 28, locals := 14 } : Room).slots) := by
  refine MetFree.of_bodySF (plainFor_of_name pn1) hisR ?_
  intro p e s m args below meth c s₁ Bd hml0 hP hK
  obtain ⟨rfl, hZ, hh, hC0⟩ := hP
  have hx := Bd.exec
  have hby := Bd.bytes
  have hml : c.maxLocals = 4 := hml0
  have hown : s.vm.findClass "com/example/ratatoskr/ratatoskr/criteria/Filter" = some m.cls := findClass_of_methodNamed Bd.named
  have hnm := (name_of_methodNamed Bd.named Bd.method).1
  have X0 : Stand p l e ({ frames := 1, cells := 2, slots := 28, locals := 14 } : Room) (s.setVm s.vm) m #[(.ref qa1), (.ref qa2), (.ref g_AND), (.ref qa3)] below meth c s₁ [] 0 0 := Stand.of_body Bd
  have e0 : s₁.heap = h0 := by rw [← hh, Bd.state]; rfl
  have N0 := Fr.nil n0
  have pre0 : ∀ t, Steps p.tables e below (s₁.setTop (mkF m 0 #[.val (.ref qa1), .val (.ref qa2), .val (.ref g_AND), .val (.ref qa3)] [])) t → Steps p.tables e below (s₁.setTop (entryFrame m #[(.ref qa1), (.ref qa2), (.ref g_AND), (.ref qa3)] 4)) t := fun t k => castTop (ef5 m qa1 qa2 g_AND qa3) k
  have hS0 : s.Since s.vm h0.size := (State.WarmedH.refl s).since _
  have hk0 : h0.size ≤ h0.size := Nat.le_refl _
  have hR0 : CHr Z ([] : List (String × Nat)) s.vm h0 s.vm h0 := CHr.refl hC0
  have hEL := own_EW hw
  have hwS := own_wS hw
  obtain ⟨T1, X1, e1, st1⟩ := initO X0 hx hZ hown (hw _ (List.mem_of_getElem? (i := 75) rfl)) (hw _ (List.mem_of_getElem? (i := 15) rfl)) (hw _ (List.mem_of_getElem? (i := 16) rfl)) e0 (g := (mkF m 1 #[.val (.ref qa1), .val (.ref qa2), .val (.ref g_AND), .val (.ref qa3)] [(.ref qa1)])) rfl (by rw [hml]; rfl) rfl (hb hby d7_1) (by decide) (W := 0) (by show 2 * 0 + _ ≤ _; exact Nat.le_of_eq rfl) (by decide)
  obtain ⟨T2, h2, X2, e2, W2, st2⟩ := putF X1 hx hZ hown (host := "") (Or.inl (hw _ (List.mem_of_getElem? (i := 76) rfl))) Via.refl e1 F_qa1_comparison E_qa1 (Or.inr ⟨(hw _ (List.mem_of_getElem? (i := 77) rfl)), rfl, hnm⟩) (hw _ (List.mem_of_getElem? (i := 2) rfl)) (ty := (.object "com/example/ratatoskr/ratatoskr/criteria/Filter$Comparison")) (by decide) rfl rfl (g := (mkF m 6 #[.val (.ref qa1), .val (.ref qa2), .val (.ref g_AND), .val (.ref qa3)] [.null, (.ref qa1)])) rfl rfl (hb hby d7_6)
  have N2 := Fr.snoc X2 N0 g_qa1
  have K3 : Keep h0 h2 [qa1] := (Keep.refl h0 [qa1]).wr W2 (Or.inl (List.mem_of_getElem? (i := 0) rfl))
  have C4 : CHv Z ([] : List (String × Nat)) s.vm h2 := CHv.wr W2 (Safe.exa hZ.alike E_qa1 (by decide) (by decide)) hC0
  have R5 : CHr Z ([] : List (String × Nat)) s.vm h0 s.vm h2 := hR0.trans (CHr.wr W2 (Safe.exa hZ.alike E_qa1 (by decide) (by decide)) hC0)
  have F6_ : Fld Z h2 qa1 "com/example/ratatoskr/ratatoskr/criteria/Filter" "comparison" "Lcom/example/ratatoskr/ratatoskr/criteria/Filter$Comparison;" .null := F_qa1_comparison.same W2
  have F7_ : Fld Z h2 qa1 "com/example/ratatoskr/ratatoskr/criteria/Filter" "left" "Lcom/example/ratatoskr/ratatoskr/criteria/Filter;" .null := F_qa1_left.other W2 (Or.inr (slot_ne (Or.inr (hw _ (List.mem_of_getElem? (i := 79) rfl))) (Or.inr (hw _ (List.mem_of_getElem? (i := 77) rfl))) (by decide) (t := (.object "com/example/ratatoskr/ratatoskr/criteria/Filter")) (t' := (.object "com/example/ratatoskr/ratatoskr/criteria/Filter$Comparison")) (by decide) (by decide)))
  have E8_ : Exa Z h2 qa1 "com/example/ratatoskr/ratatoskr/criteria/Filter" := E_qa1.wr W2
  obtain ⟨T9, h9, X9, e9, W9, st9⟩ := putF X2 hx hZ hown (host := "") (Or.inl (hw _ (List.mem_of_getElem? (i := 78) rfl))) Via.refl e2 F7_ E8_ (Or.inr ⟨(hw _ (List.mem_of_getElem? (i := 79) rfl)), rfl, hnm⟩) (hw _ (List.mem_of_getElem? (i := 2) rfl)) (ty := (.object "com/example/ratatoskr/ratatoskr/criteria/Filter")) (by decide) rfl rfl (g := (mkF m 11 #[.val (.ref qa1), .val (.ref qa2), .val (.ref g_AND), .val (.ref qa3)] [(.ref qa2), (.ref qa1)])) rfl rfl (hb hby d7_11)
  have N9 := Fr.snoc X9 N2 g_qa1
  have K10 : Keep h0 h9 [qa1] := K3.wr W9 (Or.inl (List.mem_of_getElem? (i := 0) rfl))
  have C11 : CHv Z ([] : List (String × Nat)) s.vm h9 := CHv.wr W9 (Safe.exa hZ.alike E8_ (by decide) (by decide)) C4
  have R12 : CHr Z ([] : List (String × Nat)) s.vm h0 s.vm h9 := R5.trans (CHr.wr W9 (Safe.exa hZ.alike E8_ (by decide) (by decide)) C4)
  have F13_ : Fld Z h9 qa1 "com/example/ratatoskr/ratatoskr/criteria/Filter" "left" "Lcom/example/ratatoskr/ratatoskr/criteria/Filter;" (.ref qa2) := F7_.same W9
  have F14_ : Fld Z h2 qa1 "com/example/ratatoskr/ratatoskr/criteria/Filter" "junction" "Lcom/example/ratatoskr/ratatoskr/criteria/Filter$Junction;" .null := F_qa1_junction.other W2 (Or.inr (slot_ne (Or.inr (hw _ (List.mem_of_getElem? (i := 81) rfl))) (Or.inr (hw _ (List.mem_of_getElem? (i := 77) rfl))) (by decide) (t := (.object "com/example/ratatoskr/ratatoskr/criteria/Filter$Junction")) (t' := (.object "com/example/ratatoskr/ratatoskr/criteria/Filter$Comparison")) (by decide) (by decide)))
  have F15_ : Fld Z h9 qa1 "com/example/ratatoskr/ratatoskr/criteria/Filter" "junction" "Lcom/example/ratatoskr/ratatoskr/criteria/Filter$Junction;" .null := F14_.other W9 (Or.inr (slot_ne (Or.inr (hw _ (List.mem_of_getElem? (i := 81) rfl))) (Or.inr (hw _ (List.mem_of_getElem? (i := 79) rfl))) (by decide) (t := (.object "com/example/ratatoskr/ratatoskr/criteria/Filter$Junction")) (t' := (.object "com/example/ratatoskr/ratatoskr/criteria/Filter")) (by decide) (by decide)))
  have E16_ : Exa Z h9 qa1 "com/example/ratatoskr/ratatoskr/criteria/Filter" := E8_.wr W9
  obtain ⟨T17, h17, X17, e17, W17, st17⟩ := putF X9 hx hZ hown (host := "") (Or.inl (hw _ (List.mem_of_getElem? (i := 80) rfl))) Via.refl e9 F15_ E16_ (Or.inr ⟨(hw _ (List.mem_of_getElem? (i := 81) rfl)), rfl, hnm⟩) (hw _ (List.mem_of_getElem? (i := 2) rfl)) (ty := (.object "com/example/ratatoskr/ratatoskr/criteria/Filter$Junction")) (by decide) rfl rfl (g := (mkF m 16 #[.val (.ref qa1), .val (.ref qa2), .val (.ref g_AND), .val (.ref qa3)] [(.ref g_AND), (.ref qa1)])) rfl rfl (hb hby d7_16)
  have N17 := Fr.snoc X17 N9 g_qa1
  have K18 : Keep h0 h17 [qa1] := K10.wr W17 (Or.inl (List.mem_of_getElem? (i := 0) rfl))
  have C19 : CHv Z ([] : List (String × Nat)) s.vm h17 := CHv.wr W17 (Safe.exa hZ.alike E16_ (by decide) (by decide)) C11
  have R20 : CHr Z ([] : List (String × Nat)) s.vm h0 s.vm h17 := R12.trans (CHr.wr W17 (Safe.exa hZ.alike E16_ (by decide) (by decide)) C11)
  have F21_ : Fld Z h17 qa1 "com/example/ratatoskr/ratatoskr/criteria/Filter" "junction" "Lcom/example/ratatoskr/ratatoskr/criteria/Filter$Junction;" (.ref g_AND) := F15_.same W17
  have hk23' : _ ≤ h17.size := (Nat.le_trans (Nat.le_trans (Nat.le_trans hk0 (Nat.le_of_eq W2.size.symm)) (Nat.le_of_eq W9.size.symm)) (Nat.le_of_eq W17.size.symm))
  obtain ⟨b22, T22, h22, k22, X22, e22, E22, hS22, hk22, hZ22, ho22, CR22, -, st22⟩ := ldcOH (text := "filter") (EL := ([] : List (String × Nat))) X17 hx hZ hown (hw _ (List.mem_of_getElem? (i := 96) rfl)) hwS e17 hS0 hk23' hEL C19 (g := (mkF m 21 #[.val (.ref qa1), .val (.ref qa2), .val (.ref g_AND), .val (.ref qa3)] [(.ref qa3), (.ref qa1)])) rfl (hb hby d7_21) (n := 24) (by decide) (by decide) (by decide) (by decide)
  have K24 : Keep h0 h22 [qa1] := K18.ext E22
  have R26 : CHr Z ([] : List (String × Nat)) s.vm h0 T22.vm h22 := R20.trans CR22
  have O28 : Old Z n0 h2 := X00.wr W2 g_qa1
  have O29 : Old Z n0 h9 := O28.wr W9 g_qa1
  have O30 : Old Z n0 h17 := O29.wr W17 g_qa1
  have O31 : Old Z n0 h22 := O30.ext E22
  obtain ⟨_, _, ⟨T27, L27, k27, n27⟩, -, X27, ⟨Lc27, hQ27, l27, y27, z27⟩, st27⟩ := Jvm.LawKit.callS X22 hx (y := (⟨"java/util/Objects", "requireNonNull", "(Ljava/lang/Object;Ljava/lang/String;)Ljava/lang/Object;"⟩ : MethodName)) ho22 (mvT hZ22 (hw _ (List.mem_of_getElem? (i := 97) rfl))) (mvT hZ22 (hw _ (List.mem_of_getElem? (i := 55) rfl))) (mvT hZ22 (hw _ (List.mem_of_getElem? (i := 56) rfl))) (mvT hZ22 (hw _ (List.mem_of_getElem? (i := 57) rfl))) (by decide) (backOf (s := s.setVm T22.vm) (W := 1) (rm2 l Z a0 hw []  qa3 b22 h22 n0 O31 ) hZ22 (hw _ (List.mem_of_getElem? (i := 57) rfl)) (hw _ (List.mem_of_getElem? (i := 56) rfl)) (by decide) (by decide)) (g := (mkF m 23 #[.val (.ref qa1), .val (.ref qa2), .val (.ref g_AND), .val (.ref qa3)] [(.ref b22), (.ref qa3), (.ref qa1)])) rfl (by rw [hml]; rfl) (argsL := [(.ref qa3), (.ref b22)]) (rest := [(.ref qa1)]) (lenOf pd2 rfl) rfl (by show 2 * 0 + _ ≤ _; exact Nat.le_of_eq rfl) (hb hby d7_23) (fun _ _ => ⟨rfl, e22, (by decide : 2 + 0 ≤ _), (by decide : 28 + 0 ≤ _)⟩)
  dsimp only [Pt.U, Pt.locs, Pt.cells, Pt.slots] at X27 l27 y27 z27 st27 hQ27
  subst l27 y27 z27
  obtain ⟨rfl, N27q, e27q⟩ := hQ27
  have N27 := Fr.app N17 N27q
  have E33_ : Exa Z h2 qa3 "com/example/ratatoskr/ratatoskr/criteria/Filter" := E_qa3.wr W2
  have E34_ : Exa Z h9 qa3 "com/example/ratatoskr/ratatoskr/criteria/Filter" := E33_.wr W9
  have E35_ : Exa Z h17 qa3 "com/example/ratatoskr/ratatoskr/criteria/Filter" := E34_.wr W17
  have E36_ : Exa Z h22 qa3 "com/example/ratatoskr/ratatoskr/criteria/Filter" := E35_.ext E22
  obtain ⟨T32, X32, e32, st32⟩ := castY X27 hx hZ22 ho22 (hw _ (List.mem_of_getElem? (i := 89) rfl)) e27q (Ins.self E36_) (g := (mkF m 26 #[.val (.ref qa1), .val (.ref qa2), .val (.ref g_AND), .val (.ref qa3)] [(.ref qa3), (.ref qa1)])) rfl rfl (hb hby d7_26)
  have F37_ : Fld Z h2 qa1 "com/example/ratatoskr/ratatoskr/criteria/Filter" "right" "Lcom/example/ratatoskr/ratatoskr/criteria/Filter;" .null := F_qa1_right.other W2 (Or.inr (slot_ne (Or.inr (hw _ (List.mem_of_getElem? (i := 83) rfl))) (Or.inr (hw _ (List.mem_of_getElem? (i := 77) rfl))) (by decide) (t := (.object "com/example/ratatoskr/ratatoskr/criteria/Filter")) (t' := (.object "com/example/ratatoskr/ratatoskr/criteria/Filter$Comparison")) (by decide) (by decide)))
  have F38_ : Fld Z h9 qa1 "com/example/ratatoskr/ratatoskr/criteria/Filter" "right" "Lcom/example/ratatoskr/ratatoskr/criteria/Filter;" .null := F37_.other W9 (Or.inr (slot_ne (Or.inr (hw _ (List.mem_of_getElem? (i := 83) rfl))) (Or.inr (hw _ (List.mem_of_getElem? (i := 79) rfl))) (by decide) (t := (.object "com/example/ratatoskr/ratatoskr/criteria/Filter")) (t' := (.object "com/example/ratatoskr/ratatoskr/criteria/Filter")) (by decide) (by decide)))
  have F39_ : Fld Z h17 qa1 "com/example/ratatoskr/ratatoskr/criteria/Filter" "right" "Lcom/example/ratatoskr/ratatoskr/criteria/Filter;" .null := F38_.other W17 (Or.inr (slot_ne (Or.inr (hw _ (List.mem_of_getElem? (i := 83) rfl))) (Or.inr (hw _ (List.mem_of_getElem? (i := 81) rfl))) (by decide) (t := (.object "com/example/ratatoskr/ratatoskr/criteria/Filter")) (t' := (.object "com/example/ratatoskr/ratatoskr/criteria/Filter$Junction")) (by decide) (by decide)))
  have F40_ : Fld Z h22 qa1 "com/example/ratatoskr/ratatoskr/criteria/Filter" "right" "Lcom/example/ratatoskr/ratatoskr/criteria/Filter;" .null := F39_.ext E22
  have E41_ : Exa Z h17 qa1 "com/example/ratatoskr/ratatoskr/criteria/Filter" := E16_.wr W17
  have E42_ : Exa Z h22 qa1 "com/example/ratatoskr/ratatoskr/criteria/Filter" := E41_.ext E22
  obtain ⟨T43, h43, X43, e43, W43, st43⟩ := putF X32 hx hZ22 ho22 (host := "") (Or.inl (hw _ (List.mem_of_getElem? (i := 82) rfl))) Via.refl e32 F40_ E42_ (Or.inr ⟨(hw _ (List.mem_of_getElem? (i := 83) rfl)), rfl, hnm⟩) (hw _ (List.mem_of_getElem? (i := 2) rfl)) (ty := (.object "com/example/ratatoskr/ratatoskr/criteria/Filter")) (by decide) rfl rfl (g := (mkF m 29 #[.val (.ref qa1), .val (.ref qa2), .val (.ref g_AND), .val (.ref qa3)] [(.ref qa3), (.ref qa1)])) rfl rfl (hb hby d7_29)
  have N43 := Fr.snoc X43 N27 g_qa1
  have K44 : Keep h0 h43 [qa1] := K24.wr W43 (Or.inl (List.mem_of_getElem? (i := 0) rfl))
  have C45 : CHv Z ([] : List (String × Nat)) T22.vm h43 := CHv.wr W43 (Safe.exa hZ22.alike E42_ (by decide) (by decide)) CR22.1
  have R46 : CHr Z ([] : List (String × Nat)) s.vm h0 T22.vm h43 := R26.trans (CHr.wr W43 (Safe.exa hZ22.alike E42_ (by decide) (by decide)) CR22.1)
  have F47_ : Fld Z h43 qa1 "com/example/ratatoskr/ratatoskr/criteria/Filter" "right" "Lcom/example/ratatoskr/ratatoskr/criteria/Filter;" (.ref qa3) := F40_.same W43
  have E48_ : Exa Z h43 qa1 "com/example/ratatoskr/ratatoskr/criteria/Filter" := E42_.wr W43
  have F49_ : Fld Z h9 qa1 "com/example/ratatoskr/ratatoskr/criteria/Filter" "comparison" "Lcom/example/ratatoskr/ratatoskr/criteria/Filter$Comparison;" .null := F6_.other W9 (Or.inr (slot_ne (Or.inr (hw _ (List.mem_of_getElem? (i := 77) rfl))) (Or.inr (hw _ (List.mem_of_getElem? (i := 79) rfl))) (by decide) (t := (.object "com/example/ratatoskr/ratatoskr/criteria/Filter$Comparison")) (t' := (.object "com/example/ratatoskr/ratatoskr/criteria/Filter")) (by decide) (by decide)))
  have F50_ : Fld Z h17 qa1 "com/example/ratatoskr/ratatoskr/criteria/Filter" "comparison" "Lcom/example/ratatoskr/ratatoskr/criteria/Filter$Comparison;" .null := F49_.other W17 (Or.inr (slot_ne (Or.inr (hw _ (List.mem_of_getElem? (i := 77) rfl))) (Or.inr (hw _ (List.mem_of_getElem? (i := 81) rfl))) (by decide) (t := (.object "com/example/ratatoskr/ratatoskr/criteria/Filter$Comparison")) (t' := (.object "com/example/ratatoskr/ratatoskr/criteria/Filter$Junction")) (by decide) (by decide)))
  have F51_ : Fld Z h22 qa1 "com/example/ratatoskr/ratatoskr/criteria/Filter" "comparison" "Lcom/example/ratatoskr/ratatoskr/criteria/Filter$Comparison;" .null := F50_.ext E22
  have F52_ : Fld Z h43 qa1 "com/example/ratatoskr/ratatoskr/criteria/Filter" "comparison" "Lcom/example/ratatoskr/ratatoskr/criteria/Filter$Comparison;" .null := F51_.other W43 (Or.inr (slot_ne (Or.inr (hw _ (List.mem_of_getElem? (i := 77) rfl))) (Or.inr (hw _ (List.mem_of_getElem? (i := 83) rfl))) (by decide) (t := (.object "com/example/ratatoskr/ratatoskr/criteria/Filter$Comparison")) (t' := (.object "com/example/ratatoskr/ratatoskr/criteria/Filter")) (by decide) (by decide)))
  have F53_ : Fld Z h17 qa1 "com/example/ratatoskr/ratatoskr/criteria/Filter" "left" "Lcom/example/ratatoskr/ratatoskr/criteria/Filter;" (.ref qa2) := F13_.other W17 (Or.inr (slot_ne (Or.inr (hw _ (List.mem_of_getElem? (i := 79) rfl))) (Or.inr (hw _ (List.mem_of_getElem? (i := 81) rfl))) (by decide) (t := (.object "com/example/ratatoskr/ratatoskr/criteria/Filter")) (t' := (.object "com/example/ratatoskr/ratatoskr/criteria/Filter$Junction")) (by decide) (by decide)))
  have F54_ : Fld Z h22 qa1 "com/example/ratatoskr/ratatoskr/criteria/Filter" "left" "Lcom/example/ratatoskr/ratatoskr/criteria/Filter;" (.ref qa2) := F53_.ext E22
  have F55_ : Fld Z h43 qa1 "com/example/ratatoskr/ratatoskr/criteria/Filter" "left" "Lcom/example/ratatoskr/ratatoskr/criteria/Filter;" (.ref qa2) := F54_.other W43 (Or.inr (slot_ne (Or.inr (hw _ (List.mem_of_getElem? (i := 79) rfl))) (Or.inr (hw _ (List.mem_of_getElem? (i := 83) rfl))) (by decide) (t := (.object "com/example/ratatoskr/ratatoskr/criteria/Filter")) (t' := (.object "com/example/ratatoskr/ratatoskr/criteria/Filter")) (by decide) (by decide)))
  have F56_ : Fld Z h22 qa1 "com/example/ratatoskr/ratatoskr/criteria/Filter" "junction" "Lcom/example/ratatoskr/ratatoskr/criteria/Filter$Junction;" (.ref g_AND) := F21_.ext E22
  have F57_ : Fld Z h43 qa1 "com/example/ratatoskr/ratatoskr/criteria/Filter" "junction" "Lcom/example/ratatoskr/ratatoskr/criteria/Filter$Junction;" (.ref g_AND) := F56_.other W43 (Or.inr (slot_ne (Or.inr (hw _ (List.mem_of_getElem? (i := 81) rfl))) (Or.inr (hw _ (List.mem_of_getElem? (i := 83) rfl))) (by decide) (t := (.object "com/example/ratatoskr/ratatoskr/criteria/Filter$Junction")) (t' := (.object "com/example/ratatoskr/ratatoskr/criteria/Filter")) (by decide) (by decide)))
  have hk58' : _ ≤ h43.size := (Nat.le_trans hk22 (Nat.le_of_eq W43.size.symm))
  obtain ⟨fs, hr, hrun, hended, hEnd⟩ := X43.leaveW (s := s) hS22 (by rw [show T43.heap = h43 from e43]; exact hk58') (v := none) (fun _ => rfl)
  have hCe : CHr Z ([] : List (String × Nat)) s.vm h0 T43.vm h43 := R46.trans (CHv.at X43 hZ22 hEL C45)
  refine ⟨_, _, pre0 _ ?_, hrun, hended, _, _, rfl, ?_, ?_, hEnd.1, hEnd.2.1, hEnd.2.2.1, hEnd.2.2.2.mono (by decide) (by decide)⟩
  · show Steps p.tables e below (s₁.setTop (mkF m 0 #[.val (.ref qa1), .val (.ref qa2), .val (.ref g_AND), .val (.ref qa3)] [])) _
    refine XS.aloadN X0.here hx rfl (hb hby d7_0) rfl rfl ?_
    show Steps p.tables e below (s₁.setTop (mkF m 1 #[.val (.ref qa1), .val (.ref qa2), .val (.ref g_AND), .val (.ref qa3)] [(.ref qa1)])) _
    refine st1 _ ?_
    show Steps p.tables e below (T1.setTop (mkF m 4 #[.val (.ref qa1), .val (.ref qa2), .val (.ref g_AND), .val (.ref qa3)] [])) _
    refine XS.aloadN X1.here hx rfl (hb hby d7_4) rfl rfl ?_
    show Steps p.tables e below (T1.setTop (mkF m 5 #[.val (.ref qa1), .val (.ref qa2), .val (.ref g_AND), .val (.ref qa3)] [(.ref qa1)])) _
    refine XS.aconstNull X1.here hx rfl (hb hby d7_5) ?_
    show Steps p.tables e below (T1.setTop (mkF m 6 #[.val (.ref qa1), .val (.ref qa2), .val (.ref g_AND), .val (.ref qa3)] [.null, (.ref qa1)])) _
    refine st2 _ ?_
    show Steps p.tables e below (T2.setTop (mkF m 9 #[.val (.ref qa1), .val (.ref qa2), .val (.ref g_AND), .val (.ref qa3)] [])) _
    refine XS.aloadN X2.here hx rfl (hb hby d7_9) rfl rfl ?_
    show Steps p.tables e below (T2.setTop (mkF m 10 #[.val (.ref qa1), .val (.ref qa2), .val (.ref g_AND), .val (.ref qa3)] [(.ref qa1)])) _
    refine XS.aloadN X2.here hx rfl (hb hby d7_10) rfl rfl ?_
    show Steps p.tables e below (T2.setTop (mkF m 11 #[.val (.ref qa1), .val (.ref qa2), .val (.ref g_AND), .val (.ref qa3)] [(.ref qa2), (.ref qa1)])) _
    refine st9 _ ?_
    show Steps p.tables e below (T9.setTop (mkF m 14 #[.val (.ref qa1), .val (.ref qa2), .val (.ref g_AND), .val (.ref qa3)] [])) _
    refine XS.aloadN X9.here hx rfl (hb hby d7_14) rfl rfl ?_
    show Steps p.tables e below (T9.setTop (mkF m 15 #[.val (.ref qa1), .val (.ref qa2), .val (.ref g_AND), .val (.ref qa3)] [(.ref qa1)])) _
    refine XS.aloadN X9.here hx rfl (hb hby d7_15) rfl rfl ?_
    show Steps p.tables e below (T9.setTop (mkF m 16 #[.val (.ref qa1), .val (.ref qa2), .val (.ref g_AND), .val (.ref qa3)] [(.ref g_AND), (.ref qa1)])) _
    refine st17 _ ?_
    show Steps p.tables e below (T17.setTop (mkF m 19 #[.val (.ref qa1), .val (.ref qa2), .val (.ref g_AND), .val (.ref qa3)] [])) _
    refine XS.aloadN X17.here hx rfl (hb hby d7_19) rfl rfl ?_
    show Steps p.tables e below (T17.setTop (mkF m 20 #[.val (.ref qa1), .val (.ref qa2), .val (.ref g_AND), .val (.ref qa3)] [(.ref qa1)])) _
    refine XS.aloadN X17.here hx rfl (hb hby d7_20) rfl rfl ?_
    show Steps p.tables e below (T17.setTop (mkF m 21 #[.val (.ref qa1), .val (.ref qa2), .val (.ref g_AND), .val (.ref qa3)] [(.ref qa3), (.ref qa1)])) _
    refine st22 _ ?_
    show Steps p.tables e below (T22.setTop (mkF m 23 #[.val (.ref qa1), .val (.ref qa2), .val (.ref g_AND), .val (.ref qa3)] [(.ref b22), (.ref qa3), (.ref qa1)])) _
    refine st27 _ ?_
    show Steps p.tables e below (T27.setTop (mkF m 26 #[.val (.ref qa1), .val (.ref qa2), .val (.ref g_AND), .val (.ref qa3)] [(.ref qa3), (.ref qa1)])) _
    refine st32 _ ?_
    show Steps p.tables e below (T32.setTop (mkF m 29 #[.val (.ref qa1), .val (.ref qa2), .val (.ref g_AND), .val (.ref qa3)] [(.ref qa3), (.ref qa1)])) _
    refine st43 _ ?_
    show Steps p.tables e below (T43.setTop (mkF m 32 #[.val (.ref qa1), .val (.ref qa2), .val (.ref g_AND), .val (.ref qa3)] [])) _
    exact X43.returnOut hx Bd.returns (hb hby d7_32) hr
  · show Q16 Z g_IS_NULL g_AND g_OR qa1 qa2 qa3 h0 n0 _ T43.heap _
    rw [show T43.heap = h43 from e43]
    exact ⟨rfl, N43, K44, E48_, F52_, F55_, F57_, F47_⟩
  · show CHr Z ([] : List (String × Nat)) s.vm s.heap T43.vm T43.heap
    rw [hh]
    rw [show T43.heap = h43 from e43]
    exact hCe
-- com/example/ratatoskr/ratatoskr/criteria/Filter.and(Lcom/example/ratatoskr/ratatoskr/criteria/Filter;)Lcom/example/ratatoskr/ratatoskr/criteria/Filter;
def Q17 (Z : State) (g_IS_NULL : Addr) (g_AND : Addr) (g_OR : Addr) (qa1 : Addr) (qa2 : Addr) (h0 : Heap) (n0 : Nat) (v : Option Value) (h : Heap) (L : List Loc) : Prop := ∃ b1 : Addr, v = some (.ref b1) ∧ Fr n0 L ∧ Keep h0 h [] ∧ h0.size ≤ b1 ∧ Exa Z h b1 "com/example/ratatoskr/ratatoskr/criteria/Filter" ∧ Fld Z h b1 "com/example/ratatoskr/ratatoskr/criteria/Filter" "comparison" "Lcom/example/ratatoskr/ratatoskr/criteria/Filter$Comparison;" .null ∧ Fld Z h b1 "com/example/ratatoskr/ratatoskr/criteria/Filter" "left" "Lcom/example/ratatoskr/ratatoskr/criteria/Filter;" (.ref qa1) ∧ Fld Z h b1 "com/example/ratatoskr/ratatoskr/criteria/Filter" "junction" "Lcom/example/ratatoskr/ratatoskr/criteria/Filter$Junction;" (.ref g_AND) ∧ Fld Z h b1 "com/example/ratatoskr/ratatoskr/criteria/Filter" "right" "Lcom/example/ratatoskr/ratatoskr/criteria/Filter;" (.ref qa2)
set_option maxRecDepth 65536 in
set_option maxHeartbeats 40000000 in
theorem rm17 (l : Launch) (Z : State) (a0 : Array Value) (hw : ∀ d ∈ tables_1, d.before a0 Z = true) (ws : List Jvm.Cond) (g_IS_NULL : Addr) (g_AND : Addr) (g_OR : Addr) (qa1 : Addr) (qa2 : Addr) (h0 : Heap) (n0 : Nat) (X00 : Old Z n0 h0) (hEN : OwnEN Z g_IS_NULL g_AND g_OR) (E_qa2 : Exa Z h0 qa2 "com/example/ratatoskr/ratatoskr/criteria/Filter") :
    MetFree l (⟨"com/example/ratatoskr/ratatoskr/criteria/Filter", "and", "(Lcom/example/ratatoskr/ratatoskr/criteria/Filter;)Lcom/example/ratatoskr/ratatoskr/criteria/Filter;"⟩ : MethodName) (head1 (Jvm.Cond.code (⟨"com/example/ratatoskr/ratatoskr/criteria/Filter", "and", "(Lcom/example/ratatoskr/ratatoskr/criteria/Filter;)Lcom/example/ratatoskr/ratatoskr/criteria/Filter;"⟩ : MethodName) prog_13_method_5_code 2 (some (.object "com/example/ratatoskr/ratatoskr/criteria/Filter")) :: ws) ({ frames := 2, cells := 3, slots := 32, locals := 30 } : Room)) (fun a U => a = #[(.ref qa1), (.ref qa2)] ∧ Z.Warmed39 U.vm ∧ U.heap = h0 ∧ CHv Z ([] : List (String × Nat)) U.vm h0) (fun _ _ _ _ _ => True) (fun _ U o U' => ∃ v L, o = .returned v ∧ Q17 Z g_IS_NULL g_AND g_OR qa1 qa2 h0 n0 v U'.heap L ∧ CHr Z ([] : List (String × Nat)) U.vm U.heap U'.vm U'.heap ∧ ReturnedEndW U o U' L ({ frames := 2, cells := 3, slots := 32, locals := 30 } : Room).cells ({ frames := 2, cells := 3, slots := 32, locals := 30 } : Room).slots) := by
  refine MetFree.of_bodySF (plainFor_of_name pn1) hisR ?_
  intro p e s m args below meth c s₁ Bd hml0 hP hK
  obtain ⟨rfl, hZ, hh, hC0⟩ := hP
  have hx := Bd.exec
  have hby := Bd.bytes
  have hml : c.maxLocals = 2 := hml0
  have hown : s.vm.findClass "com/example/ratatoskr/ratatoskr/criteria/Filter" = some m.cls := findClass_of_methodNamed Bd.named
  have hnm := (name_of_methodNamed Bd.named Bd.method).1
  have X0 : Stand p l e ({ frames := 2, cells := 3, slots := 32, locals := 30 } : Room) (s.setVm s.vm) m #[(.ref qa1), (.ref qa2)] below meth c s₁ [] 0 0 := Stand.of_body Bd
  have e0 : s₁.heap = h0 := by rw [← hh, Bd.state]; rfl
  have N0 := Fr.nil n0
  have pre0 : ∀ t, Steps p.tables e below (s₁.setTop (mkF m 0 #[.val (.ref qa1), .val (.ref qa2)] [])) t → Steps p.tables e below (s₁.setTop (entryFrame m #[(.ref qa1), (.ref qa2)] 2)) t := fun t k => castTop (ef4 m qa1 qa2) k
  have hS0 : s.Since s.vm h0.size := (State.WarmedH.refl s).since _
  have hk0 : h0.size ≤ h0.size := Nat.le_refl _
  have hR0 : CHr Z ([] : List (String × Nat)) s.vm h0 s.vm h0 := CHr.refl hC0
  have hEL := own_EW hw
  have hwS := own_wS hw
  obtain ⟨T1, h1, X1, e1, E1, A1, D1, -, st1⟩ := newO X0 hx hZ hown (hw _ (List.mem_of_getElem? (i := 89) rfl)) (hw _ (List.mem_of_getElem? (i := 2) rfl)) (hw _ (List.mem_of_getElem? (i := 3) rfl)) e0 (g := (mkF m 0 #[.val (.ref qa1), .val (.ref qa2)] [])) rfl (hb hby d6_0) (by decide) (by decide)
  obtain ⟨b1, g1⟩ : ∃ z, z = h0.size := ⟨_, rfl⟩
  rw [← g1] at A1 D1 st1
  have K2 : Keep h0 h1 [] := (Keep.refl h0 []).ext E1
  have C3 : CHv Z ([] : List (String × Nat)) s.vm h1 := CHv.ext E1 hC0
  have R4 : CHr Z ([] : List (String × Nat)) s.vm h0 s.vm h1 := hR0.trans (CHr.ext E1 hC0)
  have F5_ : Fld Z h1 b1 "com/example/ratatoskr/ratatoskr/criteria/Filter" "comparison" "Lcom/example/ratatoskr/ratatoskr/criteria/Filter$Comparison;" .null := D1 (Or.inr (hw _ (List.mem_of_getElem? (i := 77) rfl))) (ty := (.object "com/example/ratatoskr/ratatoskr/criteria/Filter$Comparison")) (by decide)
  have F6_ : Fld Z h1 b1 "com/example/ratatoskr/ratatoskr/criteria/Filter" "left" "Lcom/example/ratatoskr/ratatoskr/criteria/Filter;" .null := D1 (Or.inr (hw _ (List.mem_of_getElem? (i := 79) rfl))) (ty := (.object "com/example/ratatoskr/ratatoskr/criteria/Filter")) (by decide)
  have F7_ : Fld Z h1 b1 "com/example/ratatoskr/ratatoskr/criteria/Filter" "junction" "Lcom/example/ratatoskr/ratatoskr/criteria/Filter$Junction;" .null := D1 (Or.inr (hw _ (List.mem_of_getElem? (i := 81) rfl))) (ty := (.object "com/example/ratatoskr/ratatoskr/criteria/Filter$Junction")) (by decide)
  have F8_ : Fld Z h1 b1 "com/example/ratatoskr/ratatoskr/criteria/Filter" "right" "Lcom/example/ratatoskr/ratatoskr/criteria/Filter;" .null := D1 (Or.inr (hw _ (List.mem_of_getElem? (i := 83) rfl))) (ty := (.object "com/example/ratatoskr/ratatoskr/criteria/Filter")) (by decide)
  have O10 : Old Z n0 h1 := X00.ext E1
  obtain ⟨T9, X9, e9, st9⟩ := getS2 X1 hx hZ hown (host := "") (Or.inl (hw _ (List.mem_of_getElem? (i := 90) rfl))) Via.refl e1 (hEN.2.2.1.ext O10.2) (g := (mkF m 5 #[.val (.ref qa1), .val (.ref qa2)] [(.ref qa1), (.ref b1), (.ref b1)])) rfl (hb hby d6_5)
  have g_b1 : n0 ≤ b1 := Nat.le_trans (Nat.le_trans (Nat.le_of_eq X00.1.symm) X00.2.1) (Nat.le_of_eq g1.symm)
  have E12_ : Exa Z h1 qa2 "com/example/ratatoskr/ratatoskr/criteria/Filter" := E_qa2.ext E1
  obtain ⟨_, _, ⟨T11, L11, k11, n11⟩, -, X11, hS11, hgr11, ⟨Lc11, hQ11, l11, y11, z11, CR11⟩, st11⟩ := X9.specialBackS hx (y := (⟨"com/example/ratatoskr/ratatoskr/criteria/Filter", "<init>", "(Lcom/example/ratatoskr/ratatoskr/criteria/Filter;Lcom/example/ratatoskr/ratatoskr/criteria/Filter$Junction;Lcom/example/ratatoskr/ratatoskr/criteria/Filter;)V"⟩ : MethodName)) rfl hown (mvT hZ (hw _ (List.mem_of_getElem? (i := 93) rfl))) (mvT hZ (hw _ (List.mem_of_getElem? (i := 94) rfl))) (mvT hZ (hw _ (List.mem_of_getElem? (i := 95) rfl))) (by decide) (backOfSH (W := 1) (EL := ([] : List (String × Nat))) (s := s) (rm16 l Z a0 hw [] g_IS_NULL g_AND g_OR b1 qa1 qa2 h1 n0 O10 hEN A1 F5_ g_b1 F6_ F7_ E12_ F8_) hZ (hw _ (List.mem_of_getElem? (i := 95) rfl)) (hw _ (List.mem_of_getElem? (i := 3) rfl)) (by decide) (by decide) hEL C3) (g := (mkF m 9 #[.val (.ref qa1), .val (.ref qa2)] [(.ref qa2), (.ref g_AND), (.ref qa1), (.ref b1), (.ref b1)])) rfl (by rw [hml]; rfl) (Steps.refl _) (a := b1) (argsL := [(.ref qa1), (.ref g_AND), (.ref qa2)]) (rest := [(.ref b1)]) (lenOf pd7 rfl) rfl (by show 2 * 0 + _ ≤ _; exact Nat.le_of_eq rfl) (hb hby d6_9) (fun _ _ => ⟨rfl, e9, (by decide : 1 + 2 ≤ _), (by decide : 4 + 28 ≤ _)⟩)
  dsimp only [Pt.U, Pt.locs, Pt.cells, Pt.slots] at X11 l11 y11 z11 st11 hQ11 CR11 hS11 hgr11
  subst l11 y11 z11
  obtain ⟨rfl, N11q, K11q, w13, w14, w15, w16, w17⟩ := hQ11
  have N11 := Fr.app N0 N11q
  have hk18' : _ ≤ h1.size := (Nat.le_trans hk0 E1.1)
  have hS11_ : s.Since T11.vm T11.heap.size := hS0.trans hS11 (Nat.le_trans hk18' (show h1.size ≤ T11.heap.size from (e9 ▸ hgr11)))
  have hZ11 : Z.Warmed39 T11.vm := State.Warmed39.trans (t := s.setVm s.vm) hZ hS11.1
  have ho11 : T11.vm.findClass "com/example/ratatoskr/ratatoskr/criteria/Filter" = some m.cls := by rw [hS11.1.alike.findClass]; exact hown
  have X11_ : Stand p l e ({ frames := 2, cells := 3, slots := 32, locals := 30 } : Room) (s.setVm T11.vm) m #[(.ref qa1), (.ref qa2)] below meth c T11 _ _ _ := X11
  have hk11 : T11.heap.size ≤ T11.heap.size := Nat.le_refl _
  have sz_b1 : h0.size ≤ b1 := (Nat.le_of_eq g1.symm)
  have K19 : Keep h0 T11.heap [] := K2.trans K11q (allS (Or.inr sz_b1) all0)
  have R21 : CHr Z ([] : List (String × Nat)) s.vm h0 T11.vm T11.heap := R4.trans CR11
  have E22_ : Exa Z T11.heap b1 "com/example/ratatoskr/ratatoskr/criteria/Filter" := A1.keep K11q
  obtain ⟨fs, hr, hrun, hended, hEnd⟩ := X11_.leaveW (s := s) hS11_ (by rw [show T11.heap = T11.heap from rfl]; exact hk11) (v := (some (.ref b1))) (fun h => by rw [Bd.returns] at h; cases h)
  have hCe : CHr Z ([] : List (String × Nat)) s.vm h0 T11.vm T11.heap := R21.trans (CHv.at X11_ hZ11 hEL CR11.1)
  refine ⟨_, _, pre0 _ ?_, hrun, hended, _, _, rfl, ?_, ?_, hEnd.1, hEnd.2.1, hEnd.2.2.1, hEnd.2.2.2.mono (by decide) (by decide)⟩
  · show Steps p.tables e below (s₁.setTop (mkF m 0 #[.val (.ref qa1), .val (.ref qa2)] [])) _
    refine st1 _ ?_
    show Steps p.tables e below (T1.setTop (mkF m 3 #[.val (.ref qa1), .val (.ref qa2)] [(.ref b1)])) _
    refine XS.dup X1.here hx rfl (hb hby d6_3) rfl rfl ?_
    show Steps p.tables e below (T1.setTop (mkF m 4 #[.val (.ref qa1), .val (.ref qa2)] [(.ref b1), (.ref b1)])) _
    refine XS.aloadN X1.here hx rfl (hb hby d6_4) rfl rfl ?_
    show Steps p.tables e below (T1.setTop (mkF m 5 #[.val (.ref qa1), .val (.ref qa2)] [(.ref qa1), (.ref b1), (.ref b1)])) _
    refine st9 _ ?_
    show Steps p.tables e below (T9.setTop (mkF m 8 #[.val (.ref qa1), .val (.ref qa2)] [(.ref g_AND), (.ref qa1), (.ref b1), (.ref b1)])) _
    refine XS.aloadN X9.here hx rfl (hb hby d6_8) rfl rfl ?_
    show Steps p.tables e below (T9.setTop (mkF m 9 #[.val (.ref qa1), .val (.ref qa2)] [(.ref qa2), (.ref g_AND), (.ref qa1), (.ref b1), (.ref b1)])) _
    refine st11.trans ?_
    show Steps p.tables e below (T11.setTop (mkF m 12 #[.val (.ref qa1), .val (.ref qa2)] [(.ref b1)])) _
    exact retOut X11_ hx Bd.returns rfl (Or.inr (Or.inr (Or.inr (Or.inr ⟨rfl, rfl, rfl⟩)))) (hb hby d6_12) hr
  · show Q17 Z g_IS_NULL g_AND g_OR qa1 qa2 h0 n0 _ T11.heap _
    exact ⟨b1, rfl, N11, K19, sz_b1, E22_, w14, w15, w16, w17⟩
  · show CHr Z ([] : List (String × Nat)) s.vm s.heap T11.vm T11.heap
    rw [hh]
    exact hCe
theorem d12_0 : decode prog_13_method_6_code 0 = .ok (.new 8, 3) := by decide +kernel
theorem d12_3 : decode prog_13_method_6_code 3 = .ok (.dup, 1) := by decide +kernel
theorem d12_4 : decode prog_13_method_6_code 4 = .ok (.aload_n 0, 1) := by decide +kernel
theorem d12_5 : decode prog_13_method_6_code 5 = .ok (.getstatic 48, 3) := by decide +kernel
theorem d12_8 : decode prog_13_method_6_code 8 = .ok (.aload_n 1, 1) := by decide +kernel
theorem d12_9 : decode prog_13_method_6_code 9 = .ok (.invokespecial 45, 3) := by decide +kernel
-- com/example/ratatoskr/ratatoskr/criteria/Filter.<init>(Lcom/example/ratatoskr/ratatoskr/criteria/Filter;Lcom/example/ratatoskr/ratatoskr/criteria/Filter$Junction;Lcom/example/ratatoskr/ratatoskr/criteria/Filter;)V
def Q18 (Z : State) (g_IS_NULL : Addr) (g_AND : Addr) (g_OR : Addr) (qa1 : Addr) (qa2 : Addr) (qa3 : Addr) (h0 : Heap) (n0 : Nat) (v : Option Value) (h : Heap) (L : List Loc) : Prop := v = none ∧ Fr n0 L ∧ Keep h0 h [qa1] ∧ Exa Z h qa1 "com/example/ratatoskr/ratatoskr/criteria/Filter" ∧ Fld Z h qa1 "com/example/ratatoskr/ratatoskr/criteria/Filter" "comparison" "Lcom/example/ratatoskr/ratatoskr/criteria/Filter$Comparison;" .null ∧ Fld Z h qa1 "com/example/ratatoskr/ratatoskr/criteria/Filter" "left" "Lcom/example/ratatoskr/ratatoskr/criteria/Filter;" (.ref qa2) ∧ Fld Z h qa1 "com/example/ratatoskr/ratatoskr/criteria/Filter" "junction" "Lcom/example/ratatoskr/ratatoskr/criteria/Filter$Junction;" (.ref g_OR) ∧ Fld Z h qa1 "com/example/ratatoskr/ratatoskr/criteria/Filter" "right" "Lcom/example/ratatoskr/ratatoskr/criteria/Filter;" (.ref qa3)
set_option maxRecDepth 65536 in
set_option maxHeartbeats 40000000 in
theorem rm18 (l : Launch) (Z : State) (a0 : Array Value) (hw : ∀ d ∈ tables_1, d.before a0 Z = true) (ws : List Jvm.Cond) (g_IS_NULL : Addr) (g_AND : Addr) (g_OR : Addr) (qa1 : Addr) (qa2 : Addr) (qa3 : Addr) (h0 : Heap) (n0 : Nat) (X00 : Old Z n0 h0) (hEN : OwnEN Z g_IS_NULL g_AND g_OR) (E_qa1 : Exa Z h0 qa1 "com/example/ratatoskr/ratatoskr/criteria/Filter") (F_qa1_comparison : Fld Z h0 qa1 "com/example/ratatoskr/ratatoskr/criteria/Filter" "comparison" "Lcom/example/ratatoskr/ratatoskr/criteria/Filter$Comparison;" .null) (g_qa1 : n0 ≤ qa1) (F_qa1_left : Fld Z h0 qa1 "com/example/ratatoskr/ratatoskr/criteria/Filter" "left" "Lcom/example/ratatoskr/ratatoskr/criteria/Filter;" .null) (F_qa1_junction : Fld Z h0 qa1 "com/example/ratatoskr/ratatoskr/criteria/Filter" "junction" "Lcom/example/ratatoskr/ratatoskr/criteria/Filter$Junction;" .null) (E_qa3 : Exa Z h0 qa3 "com/example/ratatoskr/ratatoskr/criteria/Filter") (F_qa1_right : Fld Z h0 qa1 "com/example/ratatoskr/ratatoskr/criteria/Filter" "right" "Lcom/example/ratatoskr/ratatoskr/criteria/Filter;" .null) :
    MetFree l (⟨"com/example/ratatoskr/ratatoskr/criteria/Filter", "<init>", "(Lcom/example/ratatoskr/ratatoskr/criteria/Filter;Lcom/example/ratatoskr/ratatoskr/criteria/Filter$Junction;Lcom/example/ratatoskr/ratatoskr/criteria/Filter;)V"⟩ : MethodName) (head1 (Jvm.Cond.code (⟨"com/example/ratatoskr/ratatoskr/criteria/Filter", "<init>", "(Lcom/example/ratatoskr/ratatoskr/criteria/Filter;Lcom/example/ratatoskr/ratatoskr/criteria/Filter$Junction;Lcom/example/ratatoskr/ratatoskr/criteria/Filter;)V"⟩ : MethodName) prog_13_method_4_code 4 none :: ws) ({ frames := 1, cells := 2, slots := 28, locals := 14 } : Room)) (fun a U => a = #[(.ref qa1), (.ref qa2), (.ref g_OR), (.ref qa3)] ∧ Z.Warmed39 U.vm ∧ U.heap = h0 ∧ CHv Z ([] : List (String × Nat)) U.vm h0) (fun _ _ _ _ _ => True) (fun _ U o U' => ∃ v L, o = .returned v ∧ Q18 Z g_IS_NULL g_AND g_OR qa1 qa2 qa3 h0 n0 v U'.heap L ∧ CHr Z ([] : List (String × Nat)) U.vm U.heap U'.vm U'.heap ∧ ReturnedEndW U o U' L ({ frames := 1, cells := 2, slots := 28, locals := 14 } : Room).cells ({ frames := 1, cells := 2, slots := 28, locals := 14 } : Room).slots) := by
  refine MetFree.of_bodySF (plainFor_of_name pn1) hisR ?_
  intro p e s m args below meth c s₁ Bd hml0 hP hK
  obtain ⟨rfl, hZ, hh, hC0⟩ := hP
  have hx := Bd.exec
  have hby := Bd.bytes
  have hml : c.maxLocals = 4 := hml0
  have hown : s.vm.findClass "com/example/ratatoskr/ratatoskr/criteria/Filter" = some m.cls := findClass_of_methodNamed Bd.named
  have hnm := (name_of_methodNamed Bd.named Bd.method).1
  have X0 : Stand p l e ({ frames := 1, cells := 2, slots := 28, locals := 14 } : Room) (s.setVm s.vm) m #[(.ref qa1), (.ref qa2), (.ref g_OR), (.ref qa3)] below meth c s₁ [] 0 0 := Stand.of_body Bd
  have e0 : s₁.heap = h0 := by rw [← hh, Bd.state]; rfl
  have N0 := Fr.nil n0
  have pre0 : ∀ t, Steps p.tables e below (s₁.setTop (mkF m 0 #[.val (.ref qa1), .val (.ref qa2), .val (.ref g_OR), .val (.ref qa3)] [])) t → Steps p.tables e below (s₁.setTop (entryFrame m #[(.ref qa1), (.ref qa2), (.ref g_OR), (.ref qa3)] 4)) t := fun t k => castTop (ef5 m qa1 qa2 g_OR qa3) k
  have hS0 : s.Since s.vm h0.size := (State.WarmedH.refl s).since _
  have hk0 : h0.size ≤ h0.size := Nat.le_refl _
  have hR0 : CHr Z ([] : List (String × Nat)) s.vm h0 s.vm h0 := CHr.refl hC0
  have hEL := own_EW hw
  have hwS := own_wS hw
  obtain ⟨T1, X1, e1, st1⟩ := initO X0 hx hZ hown (hw _ (List.mem_of_getElem? (i := 75) rfl)) (hw _ (List.mem_of_getElem? (i := 15) rfl)) (hw _ (List.mem_of_getElem? (i := 16) rfl)) e0 (g := (mkF m 1 #[.val (.ref qa1), .val (.ref qa2), .val (.ref g_OR), .val (.ref qa3)] [(.ref qa1)])) rfl (by rw [hml]; rfl) rfl (hb hby d7_1) (by decide) (W := 0) (by show 2 * 0 + _ ≤ _; exact Nat.le_of_eq rfl) (by decide)
  obtain ⟨T2, h2, X2, e2, W2, st2⟩ := putF X1 hx hZ hown (host := "") (Or.inl (hw _ (List.mem_of_getElem? (i := 76) rfl))) Via.refl e1 F_qa1_comparison E_qa1 (Or.inr ⟨(hw _ (List.mem_of_getElem? (i := 77) rfl)), rfl, hnm⟩) (hw _ (List.mem_of_getElem? (i := 2) rfl)) (ty := (.object "com/example/ratatoskr/ratatoskr/criteria/Filter$Comparison")) (by decide) rfl rfl (g := (mkF m 6 #[.val (.ref qa1), .val (.ref qa2), .val (.ref g_OR), .val (.ref qa3)] [.null, (.ref qa1)])) rfl rfl (hb hby d7_6)
  have N2 := Fr.snoc X2 N0 g_qa1
  have K3 : Keep h0 h2 [qa1] := (Keep.refl h0 [qa1]).wr W2 (Or.inl (List.mem_of_getElem? (i := 0) rfl))
  have C4 : CHv Z ([] : List (String × Nat)) s.vm h2 := CHv.wr W2 (Safe.exa hZ.alike E_qa1 (by decide) (by decide)) hC0
  have R5 : CHr Z ([] : List (String × Nat)) s.vm h0 s.vm h2 := hR0.trans (CHr.wr W2 (Safe.exa hZ.alike E_qa1 (by decide) (by decide)) hC0)
  have F6_ : Fld Z h2 qa1 "com/example/ratatoskr/ratatoskr/criteria/Filter" "comparison" "Lcom/example/ratatoskr/ratatoskr/criteria/Filter$Comparison;" .null := F_qa1_comparison.same W2
  have F7_ : Fld Z h2 qa1 "com/example/ratatoskr/ratatoskr/criteria/Filter" "left" "Lcom/example/ratatoskr/ratatoskr/criteria/Filter;" .null := F_qa1_left.other W2 (Or.inr (slot_ne (Or.inr (hw _ (List.mem_of_getElem? (i := 79) rfl))) (Or.inr (hw _ (List.mem_of_getElem? (i := 77) rfl))) (by decide) (t := (.object "com/example/ratatoskr/ratatoskr/criteria/Filter")) (t' := (.object "com/example/ratatoskr/ratatoskr/criteria/Filter$Comparison")) (by decide) (by decide)))
  have E8_ : Exa Z h2 qa1 "com/example/ratatoskr/ratatoskr/criteria/Filter" := E_qa1.wr W2
  obtain ⟨T9, h9, X9, e9, W9, st9⟩ := putF X2 hx hZ hown (host := "") (Or.inl (hw _ (List.mem_of_getElem? (i := 78) rfl))) Via.refl e2 F7_ E8_ (Or.inr ⟨(hw _ (List.mem_of_getElem? (i := 79) rfl)), rfl, hnm⟩) (hw _ (List.mem_of_getElem? (i := 2) rfl)) (ty := (.object "com/example/ratatoskr/ratatoskr/criteria/Filter")) (by decide) rfl rfl (g := (mkF m 11 #[.val (.ref qa1), .val (.ref qa2), .val (.ref g_OR), .val (.ref qa3)] [(.ref qa2), (.ref qa1)])) rfl rfl (hb hby d7_11)
  have N9 := Fr.snoc X9 N2 g_qa1
  have K10 : Keep h0 h9 [qa1] := K3.wr W9 (Or.inl (List.mem_of_getElem? (i := 0) rfl))
  have C11 : CHv Z ([] : List (String × Nat)) s.vm h9 := CHv.wr W9 (Safe.exa hZ.alike E8_ (by decide) (by decide)) C4
  have R12 : CHr Z ([] : List (String × Nat)) s.vm h0 s.vm h9 := R5.trans (CHr.wr W9 (Safe.exa hZ.alike E8_ (by decide) (by decide)) C4)
  have F13_ : Fld Z h9 qa1 "com/example/ratatoskr/ratatoskr/criteria/Filter" "left" "Lcom/example/ratatoskr/ratatoskr/criteria/Filter;" (.ref qa2) := F7_.same W9
  have F14_ : Fld Z h2 qa1 "com/example/ratatoskr/ratatoskr/criteria/Filter" "junction" "Lcom/example/ratatoskr/ratatoskr/criteria/Filter$Junction;" .null := F_qa1_junction.other W2 (Or.inr (slot_ne (Or.inr (hw _ (List.mem_of_getElem? (i := 81) rfl))) (Or.inr (hw _ (List.mem_of_getElem? (i := 77) rfl))) (by decide) (t := (.object "com/example/ratatoskr/ratatoskr/criteria/Filter$Junction")) (t' := (.object "com/example/ratatoskr/ratatoskr/criteria/Filter$Comparison")) (by decide) (by decide)))
  have F15_ : Fld Z h9 qa1 "com/example/ratatoskr/ratatoskr/criteria/Filter" "junction" "Lcom/example/ratatoskr/ratatoskr/criteria/Filter$Junction;" .null := F14_.other W9 (Or.inr (slot_ne (Or.inr (hw _ (List.mem_of_getElem? (i := 81) rfl))) (Or.inr (hw _ (List.mem_of_getElem? (i := 79) rfl))) (by decide) (t := (.object "com/example/ratatoskr/ratatoskr/criteria/Filter$Junction")) (t' := (.object "com/example/ratatoskr/ratatoskr/criteria/Filter")) (by decide) (by decide)))
  have E16_ : Exa Z h9 qa1 "com/example/ratatoskr/ratatoskr/criteria/Filter" := E8_.wr W9
  obtain ⟨T17, h17, X17, e17, W17, st17⟩ := putF X9 hx hZ hown (host := "") (Or.inl (hw _ (List.mem_of_getElem? (i := 80) rfl))) Via.refl e9 F15_ E16_ (Or.inr ⟨(hw _ (List.mem_of_getElem? (i := 81) rfl)), rfl, hnm⟩) (hw _ (List.mem_of_getElem? (i := 2) rfl)) (ty := (.object "com/example/ratatoskr/ratatoskr/criteria/Filter$Junction")) (by decide) rfl rfl (g := (mkF m 16 #[.val (.ref qa1), .val (.ref qa2), .val (.ref g_OR), .val (.ref qa3)] [(.ref g_OR), (.ref qa1)])) rfl rfl (hb hby d7_16)
  have N17 := Fr.snoc X17 N9 g_qa1
  have K18 : Keep h0 h17 [qa1] := K10.wr W17 (Or.inl (List.mem_of_getElem? (i := 0) rfl))
  have C19 : CHv Z ([] : List (String × Nat)) s.vm h17 := CHv.wr W17 (Safe.exa hZ.alike E16_ (by decide) (by decide)) C11
  have R20 : CHr Z ([] : List (String × Nat)) s.vm h0 s.vm h17 := R12.trans (CHr.wr W17 (Safe.exa hZ.alike E16_ (by decide) (by decide)) C11)
  have F21_ : Fld Z h17 qa1 "com/example/ratatoskr/ratatoskr/criteria/Filter" "junction" "Lcom/example/ratatoskr/ratatoskr/criteria/Filter$Junction;" (.ref g_OR) := F15_.same W17
  have hk23' : _ ≤ h17.size := (Nat.le_trans (Nat.le_trans (Nat.le_trans hk0 (Nat.le_of_eq W2.size.symm)) (Nat.le_of_eq W9.size.symm)) (Nat.le_of_eq W17.size.symm))
  obtain ⟨b22, T22, h22, k22, X22, e22, E22, hS22, hk22, hZ22, ho22, CR22, -, st22⟩ := ldcOH (text := "filter") (EL := ([] : List (String × Nat))) X17 hx hZ hown (hw _ (List.mem_of_getElem? (i := 96) rfl)) hwS e17 hS0 hk23' hEL C19 (g := (mkF m 21 #[.val (.ref qa1), .val (.ref qa2), .val (.ref g_OR), .val (.ref qa3)] [(.ref qa3), (.ref qa1)])) rfl (hb hby d7_21) (n := 24) (by decide) (by decide) (by decide) (by decide)
  have K24 : Keep h0 h22 [qa1] := K18.ext E22
  have R26 : CHr Z ([] : List (String × Nat)) s.vm h0 T22.vm h22 := R20.trans CR22
  have O28 : Old Z n0 h2 := X00.wr W2 g_qa1
  have O29 : Old Z n0 h9 := O28.wr W9 g_qa1
  have O30 : Old Z n0 h17 := O29.wr W17 g_qa1
  have O31 : Old Z n0 h22 := O30.ext E22
  obtain ⟨_, _, ⟨T27, L27, k27, n27⟩, -, X27, ⟨Lc27, hQ27, l27, y27, z27⟩, st27⟩ := Jvm.LawKit.callS X22 hx (y := (⟨"java/util/Objects", "requireNonNull", "(Ljava/lang/Object;Ljava/lang/String;)Ljava/lang/Object;"⟩ : MethodName)) ho22 (mvT hZ22 (hw _ (List.mem_of_getElem? (i := 97) rfl))) (mvT hZ22 (hw _ (List.mem_of_getElem? (i := 55) rfl))) (mvT hZ22 (hw _ (List.mem_of_getElem? (i := 56) rfl))) (mvT hZ22 (hw _ (List.mem_of_getElem? (i := 57) rfl))) (by decide) (backOf (s := s.setVm T22.vm) (W := 1) (rm2 l Z a0 hw []  qa3 b22 h22 n0 O31 ) hZ22 (hw _ (List.mem_of_getElem? (i := 57) rfl)) (hw _ (List.mem_of_getElem? (i := 56) rfl)) (by decide) (by decide)) (g := (mkF m 23 #[.val (.ref qa1), .val (.ref qa2), .val (.ref g_OR), .val (.ref qa3)] [(.ref b22), (.ref qa3), (.ref qa1)])) rfl (by rw [hml]; rfl) (argsL := [(.ref qa3), (.ref b22)]) (rest := [(.ref qa1)]) (lenOf pd2 rfl) rfl (by show 2 * 0 + _ ≤ _; exact Nat.le_of_eq rfl) (hb hby d7_23) (fun _ _ => ⟨rfl, e22, (by decide : 2 + 0 ≤ _), (by decide : 28 + 0 ≤ _)⟩)
  dsimp only [Pt.U, Pt.locs, Pt.cells, Pt.slots] at X27 l27 y27 z27 st27 hQ27
  subst l27 y27 z27
  obtain ⟨rfl, N27q, e27q⟩ := hQ27
  have N27 := Fr.app N17 N27q
  have E33_ : Exa Z h2 qa3 "com/example/ratatoskr/ratatoskr/criteria/Filter" := E_qa3.wr W2
  have E34_ : Exa Z h9 qa3 "com/example/ratatoskr/ratatoskr/criteria/Filter" := E33_.wr W9
  have E35_ : Exa Z h17 qa3 "com/example/ratatoskr/ratatoskr/criteria/Filter" := E34_.wr W17
  have E36_ : Exa Z h22 qa3 "com/example/ratatoskr/ratatoskr/criteria/Filter" := E35_.ext E22
  obtain ⟨T32, X32, e32, st32⟩ := castY X27 hx hZ22 ho22 (hw _ (List.mem_of_getElem? (i := 89) rfl)) e27q (Ins.self E36_) (g := (mkF m 26 #[.val (.ref qa1), .val (.ref qa2), .val (.ref g_OR), .val (.ref qa3)] [(.ref qa3), (.ref qa1)])) rfl rfl (hb hby d7_26)
  have F37_ : Fld Z h2 qa1 "com/example/ratatoskr/ratatoskr/criteria/Filter" "right" "Lcom/example/ratatoskr/ratatoskr/criteria/Filter;" .null := F_qa1_right.other W2 (Or.inr (slot_ne (Or.inr (hw _ (List.mem_of_getElem? (i := 83) rfl))) (Or.inr (hw _ (List.mem_of_getElem? (i := 77) rfl))) (by decide) (t := (.object "com/example/ratatoskr/ratatoskr/criteria/Filter")) (t' := (.object "com/example/ratatoskr/ratatoskr/criteria/Filter$Comparison")) (by decide) (by decide)))
  have F38_ : Fld Z h9 qa1 "com/example/ratatoskr/ratatoskr/criteria/Filter" "right" "Lcom/example/ratatoskr/ratatoskr/criteria/Filter;" .null := F37_.other W9 (Or.inr (slot_ne (Or.inr (hw _ (List.mem_of_getElem? (i := 83) rfl))) (Or.inr (hw _ (List.mem_of_getElem? (i := 79) rfl))) (by decide) (t := (.object "com/example/ratatoskr/ratatoskr/criteria/Filter")) (t' := (.object "com/example/ratatoskr/ratatoskr/criteria/Filter")) (by decide) (by decide)))
  have F39_ : Fld Z h17 qa1 "com/example/ratatoskr/ratatoskr/criteria/Filter" "right" "Lcom/example/ratatoskr/ratatoskr/criteria/Filter;" .null := F38_.other W17 (Or.inr (slot_ne (Or.inr (hw _ (List.mem_of_getElem? (i := 83) rfl))) (Or.inr (hw _ (List.mem_of_getElem? (i := 81) rfl))) (by decide) (t := (.object "com/example/ratatoskr/ratatoskr/criteria/Filter")) (t' := (.object "com/example/ratatoskr/ratatoskr/criteria/Filter$Junction")) (by decide) (by decide)))
  have F40_ : Fld Z h22 qa1 "com/example/ratatoskr/ratatoskr/criteria/Filter" "right" "Lcom/example/ratatoskr/ratatoskr/criteria/Filter;" .null := F39_.ext E22
  have E41_ : Exa Z h17 qa1 "com/example/ratatoskr/ratatoskr/criteria/Filter" := E16_.wr W17
  have E42_ : Exa Z h22 qa1 "com/example/ratatoskr/ratatoskr/criteria/Filter" := E41_.ext E22
  obtain ⟨T43, h43, X43, e43, W43, st43⟩ := putF X32 hx hZ22 ho22 (host := "") (Or.inl (hw _ (List.mem_of_getElem? (i := 82) rfl))) Via.refl e32 F40_ E42_ (Or.inr ⟨(hw _ (List.mem_of_getElem? (i := 83) rfl)), rfl, hnm⟩) (hw _ (List.mem_of_getElem? (i := 2) rfl)) (ty := (.object "com/example/ratatoskr/ratatoskr/criteria/Filter")) (by decide) rfl rfl (g := (mkF m 29 #[.val (.ref qa1), .val (.ref qa2), .val (.ref g_OR), .val (.ref qa3)] [(.ref qa3), (.ref qa1)])) rfl rfl (hb hby d7_29)
  have N43 := Fr.snoc X43 N27 g_qa1
  have K44 : Keep h0 h43 [qa1] := K24.wr W43 (Or.inl (List.mem_of_getElem? (i := 0) rfl))
  have C45 : CHv Z ([] : List (String × Nat)) T22.vm h43 := CHv.wr W43 (Safe.exa hZ22.alike E42_ (by decide) (by decide)) CR22.1
  have R46 : CHr Z ([] : List (String × Nat)) s.vm h0 T22.vm h43 := R26.trans (CHr.wr W43 (Safe.exa hZ22.alike E42_ (by decide) (by decide)) CR22.1)
  have F47_ : Fld Z h43 qa1 "com/example/ratatoskr/ratatoskr/criteria/Filter" "right" "Lcom/example/ratatoskr/ratatoskr/criteria/Filter;" (.ref qa3) := F40_.same W43
  have E48_ : Exa Z h43 qa1 "com/example/ratatoskr/ratatoskr/criteria/Filter" := E42_.wr W43
  have F49_ : Fld Z h9 qa1 "com/example/ratatoskr/ratatoskr/criteria/Filter" "comparison" "Lcom/example/ratatoskr/ratatoskr/criteria/Filter$Comparison;" .null := F6_.other W9 (Or.inr (slot_ne (Or.inr (hw _ (List.mem_of_getElem? (i := 77) rfl))) (Or.inr (hw _ (List.mem_of_getElem? (i := 79) rfl))) (by decide) (t := (.object "com/example/ratatoskr/ratatoskr/criteria/Filter$Comparison")) (t' := (.object "com/example/ratatoskr/ratatoskr/criteria/Filter")) (by decide) (by decide)))
  have F50_ : Fld Z h17 qa1 "com/example/ratatoskr/ratatoskr/criteria/Filter" "comparison" "Lcom/example/ratatoskr/ratatoskr/criteria/Filter$Comparison;" .null := F49_.other W17 (Or.inr (slot_ne (Or.inr (hw _ (List.mem_of_getElem? (i := 77) rfl))) (Or.inr (hw _ (List.mem_of_getElem? (i := 81) rfl))) (by decide) (t := (.object "com/example/ratatoskr/ratatoskr/criteria/Filter$Comparison")) (t' := (.object "com/example/ratatoskr/ratatoskr/criteria/Filter$Junction")) (by decide) (by decide)))
  have F51_ : Fld Z h22 qa1 "com/example/ratatoskr/ratatoskr/criteria/Filter" "comparison" "Lcom/example/ratatoskr/ratatoskr/criteria/Filter$Comparison;" .null := F50_.ext E22
  have F52_ : Fld Z h43 qa1 "com/example/ratatoskr/ratatoskr/criteria/Filter" "comparison" "Lcom/example/ratatoskr/ratatoskr/criteria/Filter$Comparison;" .null := F51_.other W43 (Or.inr (slot_ne (Or.inr (hw _ (List.mem_of_getElem? (i := 77) rfl))) (Or.inr (hw _ (List.mem_of_getElem? (i := 83) rfl))) (by decide) (t := (.object "com/example/ratatoskr/ratatoskr/criteria/Filter$Comparison")) (t' := (.object "com/example/ratatoskr/ratatoskr/criteria/Filter")) (by decide) (by decide)))
  have F53_ : Fld Z h17 qa1 "com/example/ratatoskr/ratatoskr/criteria/Filter" "left" "Lcom/example/ratatoskr/ratatoskr/criteria/Filter;" (.ref qa2) := F13_.other W17 (Or.inr (slot_ne (Or.inr (hw _ (List.mem_of_getElem? (i := 79) rfl))) (Or.inr (hw _ (List.mem_of_getElem? (i := 81) rfl))) (by decide) (t := (.object "com/example/ratatoskr/ratatoskr/criteria/Filter")) (t' := (.object "com/example/ratatoskr/ratatoskr/criteria/Filter$Junction")) (by decide) (by decide)))
  have F54_ : Fld Z h22 qa1 "com/example/ratatoskr/ratatoskr/criteria/Filter" "left" "Lcom/example/ratatoskr/ratatoskr/criteria/Filter;" (.ref qa2) := F53_.ext E22
  have F55_ : Fld Z h43 qa1 "com/example/ratatoskr/ratatoskr/criteria/Filter" "left" "Lcom/example/ratatoskr/ratatoskr/criteria/Filter;" (.ref qa2) := F54_.other W43 (Or.inr (slot_ne (Or.inr (hw _ (List.mem_of_getElem? (i := 79) rfl))) (Or.inr (hw _ (List.mem_of_getElem? (i := 83) rfl))) (by decide) (t := (.object "com/example/ratatoskr/ratatoskr/criteria/Filter")) (t' := (.object "com/example/ratatoskr/ratatoskr/criteria/Filter")) (by decide) (by decide)))
  have F56_ : Fld Z h22 qa1 "com/example/ratatoskr/ratatoskr/criteria/Filter" "junction" "Lcom/example/ratatoskr/ratatoskr/criteria/Filter$Junction;" (.ref g_OR) := F21_.ext E22
  have F57_ : Fld Z h43 qa1 "com/example/ratatoskr/ratatoskr/criteria/Filter" "junction" "Lcom/example/ratatoskr/ratatoskr/criteria/Filter$Junction;" (.ref g_OR) := F56_.other W43 (Or.inr (slot_ne (Or.inr (hw _ (List.mem_of_getElem? (i := 81) rfl))) (Or.inr (hw _ (List.mem_of_getElem? (i := 83) rfl))) (by decide) (t := (.object "com/example/ratatoskr/ratatoskr/criteria/Filter$Junction")) (t' := (.object "com/example/ratatoskr/ratatoskr/criteria/Filter")) (by decide) (by decide)))
  have hk58' : _ ≤ h43.size := (Nat.le_trans hk22 (Nat.le_of_eq W43.size.symm))
  obtain ⟨fs, hr, hrun, hended, hEnd⟩ := X43.leaveW (s := s) hS22 (by rw [show T43.heap = h43 from e43]; exact hk58') (v := none) (fun _ => rfl)
  have hCe : CHr Z ([] : List (String × Nat)) s.vm h0 T43.vm h43 := R46.trans (CHv.at X43 hZ22 hEL C45)
  refine ⟨_, _, pre0 _ ?_, hrun, hended, _, _, rfl, ?_, ?_, hEnd.1, hEnd.2.1, hEnd.2.2.1, hEnd.2.2.2.mono (by decide) (by decide)⟩
  · show Steps p.tables e below (s₁.setTop (mkF m 0 #[.val (.ref qa1), .val (.ref qa2), .val (.ref g_OR), .val (.ref qa3)] [])) _
    refine XS.aloadN X0.here hx rfl (hb hby d7_0) rfl rfl ?_
    show Steps p.tables e below (s₁.setTop (mkF m 1 #[.val (.ref qa1), .val (.ref qa2), .val (.ref g_OR), .val (.ref qa3)] [(.ref qa1)])) _
    refine st1 _ ?_
    show Steps p.tables e below (T1.setTop (mkF m 4 #[.val (.ref qa1), .val (.ref qa2), .val (.ref g_OR), .val (.ref qa3)] [])) _
    refine XS.aloadN X1.here hx rfl (hb hby d7_4) rfl rfl ?_
    show Steps p.tables e below (T1.setTop (mkF m 5 #[.val (.ref qa1), .val (.ref qa2), .val (.ref g_OR), .val (.ref qa3)] [(.ref qa1)])) _
    refine XS.aconstNull X1.here hx rfl (hb hby d7_5) ?_
    show Steps p.tables e below (T1.setTop (mkF m 6 #[.val (.ref qa1), .val (.ref qa2), .val (.ref g_OR), .val (.ref qa3)] [.null, (.ref qa1)])) _
    refine st2 _ ?_
    show Steps p.tables e below (T2.setTop (mkF m 9 #[.val (.ref qa1), .val (.ref qa2), .val (.ref g_OR), .val (.ref qa3)] [])) _
    refine XS.aloadN X2.here hx rfl (hb hby d7_9) rfl rfl ?_
    show Steps p.tables e below (T2.setTop (mkF m 10 #[.val (.ref qa1), .val (.ref qa2), .val (.ref g_OR), .val (.ref qa3)] [(.ref qa1)])) _
    refine XS.aloadN X2.here hx rfl (hb hby d7_10) rfl rfl ?_
    show Steps p.tables e below (T2.setTop (mkF m 11 #[.val (.ref qa1), .val (.ref qa2), .val (.ref g_OR), .val (.ref qa3)] [(.ref qa2), (.ref qa1)])) _
    refine st9 _ ?_
    show Steps p.tables e below (T9.setTop (mkF m 14 #[.val (.ref qa1), .val (.ref qa2), .val (.ref g_OR), .val (.ref qa3)] [])) _
    refine XS.aloadN X9.here hx rfl (hb hby d7_14) rfl rfl ?_
    show Steps p.tables e below (T9.setTop (mkF m 15 #[.val (.ref qa1), .val (.ref qa2), .val (.ref g_OR), .val (.ref qa3)] [(.ref qa1)])) _
    refine XS.aloadN X9.here hx rfl (hb hby d7_15) rfl rfl ?_
    show Steps p.tables e below (T9.setTop (mkF m 16 #[.val (.ref qa1), .val (.ref qa2), .val (.ref g_OR), .val (.ref qa3)] [(.ref g_OR), (.ref qa1)])) _
    refine st17 _ ?_
    show Steps p.tables e below (T17.setTop (mkF m 19 #[.val (.ref qa1), .val (.ref qa2), .val (.ref g_OR), .val (.ref qa3)] [])) _
    refine XS.aloadN X17.here hx rfl (hb hby d7_19) rfl rfl ?_
    show Steps p.tables e below (T17.setTop (mkF m 20 #[.val (.ref qa1), .val (.ref qa2), .val (.ref g_OR), .val (.ref qa3)] [(.ref qa1)])) _
    refine XS.aloadN X17.here hx rfl (hb hby d7_20) rfl rfl ?_
    show Steps p.tables e below (T17.setTop (mkF m 21 #[.val (.ref qa1), .val (.ref qa2), .val (.ref g_OR), .val (.ref qa3)] [(.ref qa3), (.ref qa1)])) _
    refine st22 _ ?_
    show Steps p.tables e below (T22.setTop (mkF m 23 #[.val (.ref qa1), .val (.ref qa2), .val (.ref g_OR), .val (.ref qa3)] [(.ref b22), (.ref qa3), (.ref qa1)])) _
    refine st27 _ ?_
    show Steps p.tables e below (T27.setTop (mkF m 26 #[.val (.ref qa1), .val (.ref qa2), .val (.ref g_OR), .val (.ref qa3)] [(.ref qa3), (.ref qa1)])) _
    refine st32 _ ?_
    show Steps p.tables e below (T32.setTop (mkF m 29 #[.val (.ref qa1), .val (.ref qa2), .val (.ref g_OR), .val (.ref qa3)] [(.ref qa3), (.ref qa1)])) _
    refine st43 _ ?_
    show Steps p.tables e below (T43.setTop (mkF m 32 #[.val (.ref qa1), .val (.ref qa2), .val (.ref g_OR), .val (.ref qa3)] [])) _
    exact X43.returnOut hx Bd.returns (hb hby d7_32) hr
  · show Q18 Z g_IS_NULL g_AND g_OR qa1 qa2 qa3 h0 n0 _ T43.heap _
    rw [show T43.heap = h43 from e43]
    exact ⟨rfl, N43, K44, E48_, F52_, F55_, F57_, F47_⟩
  · show CHr Z ([] : List (String × Nat)) s.vm s.heap T43.vm T43.heap
    rw [hh]
    rw [show T43.heap = h43 from e43]
    exact hCe
theorem d12_12 : decode prog_13_method_6_code 12 = .ok (.areturn, 1) := by decide +kernel
-- com/example/ratatoskr/ratatoskr/criteria/Filter.or(Lcom/example/ratatoskr/ratatoskr/criteria/Filter;)Lcom/example/ratatoskr/ratatoskr/criteria/Filter;
def Q19 (Z : State) (g_IS_NULL : Addr) (g_AND : Addr) (g_OR : Addr) (qa1 : Addr) (qa2 : Addr) (h0 : Heap) (n0 : Nat) (v : Option Value) (h : Heap) (L : List Loc) : Prop := ∃ b1 : Addr, v = some (.ref b1) ∧ Fr n0 L ∧ Keep h0 h [] ∧ h0.size ≤ b1 ∧ Exa Z h b1 "com/example/ratatoskr/ratatoskr/criteria/Filter" ∧ Fld Z h b1 "com/example/ratatoskr/ratatoskr/criteria/Filter" "comparison" "Lcom/example/ratatoskr/ratatoskr/criteria/Filter$Comparison;" .null ∧ Fld Z h b1 "com/example/ratatoskr/ratatoskr/criteria/Filter" "left" "Lcom/example/ratatoskr/ratatoskr/criteria/Filter;" (.ref qa1) ∧ Fld Z h b1 "com/example/ratatoskr/ratatoskr/criteria/Filter" "junction" "Lcom/example/ratatoskr/ratatoskr/criteria/Filter$Junction;" (.ref g_OR) ∧ Fld Z h b1 "com/example/ratatoskr/ratatoskr/criteria/Filter" "right" "Lcom/example/ratatoskr/ratatoskr/criteria/Filter;" (.ref qa2)
set_option maxRecDepth 65536 in
set_option maxHeartbeats 40000000 in
theorem rm19 (l : Launch) (Z : State) (a0 : Array Value) (hw : ∀ d ∈ tables_1, d.before a0 Z = true) (ws : List Jvm.Cond) (g_IS_NULL : Addr) (g_AND : Addr) (g_OR : Addr) (qa1 : Addr) (qa2 : Addr) (h0 : Heap) (n0 : Nat) (X00 : Old Z n0 h0) (hEN : OwnEN Z g_IS_NULL g_AND g_OR) (E_qa2 : Exa Z h0 qa2 "com/example/ratatoskr/ratatoskr/criteria/Filter") :
    MetFree l (⟨"com/example/ratatoskr/ratatoskr/criteria/Filter", "or", "(Lcom/example/ratatoskr/ratatoskr/criteria/Filter;)Lcom/example/ratatoskr/ratatoskr/criteria/Filter;"⟩ : MethodName) (head1 (Jvm.Cond.code (⟨"com/example/ratatoskr/ratatoskr/criteria/Filter", "or", "(Lcom/example/ratatoskr/ratatoskr/criteria/Filter;)Lcom/example/ratatoskr/ratatoskr/criteria/Filter;"⟩ : MethodName) prog_13_method_6_code 2 (some (.object "com/example/ratatoskr/ratatoskr/criteria/Filter")) :: ws) ({ frames := 2, cells := 3, slots := 32, locals := 30 } : Room)) (fun a U => a = #[(.ref qa1), (.ref qa2)] ∧ Z.Warmed39 U.vm ∧ U.heap = h0 ∧ CHv Z ([] : List (String × Nat)) U.vm h0) (fun _ _ _ _ _ => True) (fun _ U o U' => ∃ v L, o = .returned v ∧ Q19 Z g_IS_NULL g_AND g_OR qa1 qa2 h0 n0 v U'.heap L ∧ CHr Z ([] : List (String × Nat)) U.vm U.heap U'.vm U'.heap ∧ ReturnedEndW U o U' L ({ frames := 2, cells := 3, slots := 32, locals := 30 } : Room).cells ({ frames := 2, cells := 3, slots := 32, locals := 30 } : Room).slots) := by
  refine MetFree.of_bodySF (plainFor_of_name pn1) hisR ?_
  intro p e s m args below meth c s₁ Bd hml0 hP hK
  obtain ⟨rfl, hZ, hh, hC0⟩ := hP
  have hx := Bd.exec
  have hby := Bd.bytes
  have hml : c.maxLocals = 2 := hml0
  have hown : s.vm.findClass "com/example/ratatoskr/ratatoskr/criteria/Filter" = some m.cls := findClass_of_methodNamed Bd.named
  have hnm := (name_of_methodNamed Bd.named Bd.method).1
  have X0 : Stand p l e ({ frames := 2, cells := 3, slots := 32, locals := 30 } : Room) (s.setVm s.vm) m #[(.ref qa1), (.ref qa2)] below meth c s₁ [] 0 0 := Stand.of_body Bd
  have e0 : s₁.heap = h0 := by rw [← hh, Bd.state]; rfl
  have N0 := Fr.nil n0
  have pre0 : ∀ t, Steps p.tables e below (s₁.setTop (mkF m 0 #[.val (.ref qa1), .val (.ref qa2)] [])) t → Steps p.tables e below (s₁.setTop (entryFrame m #[(.ref qa1), (.ref qa2)] 2)) t := fun t k => castTop (ef4 m qa1 qa2) k
  have hS0 : s.Since s.vm h0.size := (State.WarmedH.refl s).since _
  have hk0 : h0.size ≤ h0.size := Nat.le_refl _
  have hR0 : CHr Z ([] : List (String × Nat)) s.vm h0 s.vm h0 := CHr.refl hC0
  have hEL := own_EW hw
  have hwS := own_wS hw
  obtain ⟨T1, h1, X1, e1, E1, A1, D1, -, st1⟩ := newO X0 hx hZ hown (hw _ (List.mem_of_getElem? (i := 89) rfl)) (hw _ (List.mem_of_getElem? (i := 2) rfl)) (hw _ (List.mem_of_getElem? (i := 3) rfl)) e0 (g := (mkF m 0 #[.val (.ref qa1), .val (.ref qa2)] [])) rfl (hb hby d12_0) (by decide) (by decide)
  obtain ⟨b1, g1⟩ : ∃ z, z = h0.size := ⟨_, rfl⟩
  rw [← g1] at A1 D1 st1
  have K2 : Keep h0 h1 [] := (Keep.refl h0 []).ext E1
  have C3 : CHv Z ([] : List (String × Nat)) s.vm h1 := CHv.ext E1 hC0
  have R4 : CHr Z ([] : List (String × Nat)) s.vm h0 s.vm h1 := hR0.trans (CHr.ext E1 hC0)
  have F5_ : Fld Z h1 b1 "com/example/ratatoskr/ratatoskr/criteria/Filter" "comparison" "Lcom/example/ratatoskr/ratatoskr/criteria/Filter$Comparison;" .null := D1 (Or.inr (hw _ (List.mem_of_getElem? (i := 77) rfl))) (ty := (.object "com/example/ratatoskr/ratatoskr/criteria/Filter$Comparison")) (by decide)
  have F6_ : Fld Z h1 b1 "com/example/ratatoskr/ratatoskr/criteria/Filter" "left" "Lcom/example/ratatoskr/ratatoskr/criteria/Filter;" .null := D1 (Or.inr (hw _ (List.mem_of_getElem? (i := 79) rfl))) (ty := (.object "com/example/ratatoskr/ratatoskr/criteria/Filter")) (by decide)
  have F7_ : Fld Z h1 b1 "com/example/ratatoskr/ratatoskr/criteria/Filter" "junction" "Lcom/example/ratatoskr/ratatoskr/criteria/Filter$Junction;" .null := D1 (Or.inr (hw _ (List.mem_of_getElem? (i := 81) rfl))) (ty := (.object "com/example/ratatoskr/ratatoskr/criteria/Filter$Junction")) (by decide)
  have F8_ : Fld Z h1 b1 "com/example/ratatoskr/ratatoskr/criteria/Filter" "right" "Lcom/example/ratatoskr/ratatoskr/criteria/Filter;" .null := D1 (Or.inr (hw _ (List.mem_of_getElem? (i := 83) rfl))) (ty := (.object "com/example/ratatoskr/ratatoskr/criteria/Filter")) (by decide)
  have O10 : Old Z n0 h1 := X00.ext E1
  obtain ⟨T9, X9, e9, st9⟩ := getS2 X1 hx hZ hown (host := "") (Or.inl (hw _ (List.mem_of_getElem? (i := 125) rfl))) Via.refl e1 (hEN.2.2.2.2.1.ext O10.2) (g := (mkF m 5 #[.val (.ref qa1), .val (.ref qa2)] [(.ref qa1), (.ref b1), (.ref b1)])) rfl (hb hby d12_5)
  have g_b1 : n0 ≤ b1 := Nat.le_trans (Nat.le_trans (Nat.le_of_eq X00.1.symm) X00.2.1) (Nat.le_of_eq g1.symm)
  have E12_ : Exa Z h1 qa2 "com/example/ratatoskr/ratatoskr/criteria/Filter" := E_qa2.ext E1
  obtain ⟨_, _, ⟨T11, L11, k11, n11⟩, -, X11, hS11, hgr11, ⟨Lc11, hQ11, l11, y11, z11, CR11⟩, st11⟩ := X9.specialBackS hx (y := (⟨"com/example/ratatoskr/ratatoskr/criteria/Filter", "<init>", "(Lcom/example/ratatoskr/ratatoskr/criteria/Filter;Lcom/example/ratatoskr/ratatoskr/criteria/Filter$Junction;Lcom/example/ratatoskr/ratatoskr/criteria/Filter;)V"⟩ : MethodName)) rfl hown (mvT hZ (hw _ (List.mem_of_getElem? (i := 93) rfl))) (mvT hZ (hw _ (List.mem_of_getElem? (i := 94) rfl))) (mvT hZ (hw _ (List.mem_of_getElem? (i := 95) rfl))) (by decide) (backOfSH (W := 1) (EL := ([] : List (String × Nat))) (s := s) (rm18 l Z a0 hw [] g_IS_NULL g_AND g_OR b1 qa1 qa2 h1 n0 O10 hEN A1 F5_ g_b1 F6_ F7_ E12_ F8_) hZ (hw _ (List.mem_of_getElem? (i := 95) rfl)) (hw _ (List.mem_of_getElem? (i := 3) rfl)) (by decide) (by decide) hEL C3) (g := (mkF m 9 #[.val (.ref qa1), .val (.ref qa2)] [(.ref qa2), (.ref g_OR), (.ref qa1), (.ref b1), (.ref b1)])) rfl (by rw [hml]; rfl) (Steps.refl _) (a := b1) (argsL := [(.ref qa1), (.ref g_OR), (.ref qa2)]) (rest := [(.ref b1)]) (lenOf pd7 rfl) rfl (by show 2 * 0 + _ ≤ _; exact Nat.le_of_eq rfl) (hb hby d12_9) (fun _ _ => ⟨rfl, e9, (by decide : 1 + 2 ≤ _), (by decide : 4 + 28 ≤ _)⟩)
  dsimp only [Pt.U, Pt.locs, Pt.cells, Pt.slots] at X11 l11 y11 z11 st11 hQ11 CR11 hS11 hgr11
  subst l11 y11 z11
  obtain ⟨rfl, N11q, K11q, w13, w14, w15, w16, w17⟩ := hQ11
  have N11 := Fr.app N0 N11q
  have hk18' : _ ≤ h1.size := (Nat.le_trans hk0 E1.1)
  have hS11_ : s.Since T11.vm T11.heap.size := hS0.trans hS11 (Nat.le_trans hk18' (show h1.size ≤ T11.heap.size from (e9 ▸ hgr11)))
  have hZ11 : Z.Warmed39 T11.vm := State.Warmed39.trans (t := s.setVm s.vm) hZ hS11.1
  have ho11 : T11.vm.findClass "com/example/ratatoskr/ratatoskr/criteria/Filter" = some m.cls := by rw [hS11.1.alike.findClass]; exact hown
  have X11_ : Stand p l e ({ frames := 2, cells := 3, slots := 32, locals := 30 } : Room) (s.setVm T11.vm) m #[(.ref qa1), (.ref qa2)] below meth c T11 _ _ _ := X11
  have hk11 : T11.heap.size ≤ T11.heap.size := Nat.le_refl _
  have sz_b1 : h0.size ≤ b1 := (Nat.le_of_eq g1.symm)
  have K19 : Keep h0 T11.heap [] := K2.trans K11q (allS (Or.inr sz_b1) all0)
  have R21 : CHr Z ([] : List (String × Nat)) s.vm h0 T11.vm T11.heap := R4.trans CR11
  have E22_ : Exa Z T11.heap b1 "com/example/ratatoskr/ratatoskr/criteria/Filter" := A1.keep K11q
  obtain ⟨fs, hr, hrun, hended, hEnd⟩ := X11_.leaveW (s := s) hS11_ (by rw [show T11.heap = T11.heap from rfl]; exact hk11) (v := (some (.ref b1))) (fun h => by rw [Bd.returns] at h; cases h)
  have hCe : CHr Z ([] : List (String × Nat)) s.vm h0 T11.vm T11.heap := R21.trans (CHv.at X11_ hZ11 hEL CR11.1)
  refine ⟨_, _, pre0 _ ?_, hrun, hended, _, _, rfl, ?_, ?_, hEnd.1, hEnd.2.1, hEnd.2.2.1, hEnd.2.2.2.mono (by decide) (by decide)⟩
  · show Steps p.tables e below (s₁.setTop (mkF m 0 #[.val (.ref qa1), .val (.ref qa2)] [])) _
    refine st1 _ ?_
    show Steps p.tables e below (T1.setTop (mkF m 3 #[.val (.ref qa1), .val (.ref qa2)] [(.ref b1)])) _
    refine XS.dup X1.here hx rfl (hb hby d12_3) rfl rfl ?_
    show Steps p.tables e below (T1.setTop (mkF m 4 #[.val (.ref qa1), .val (.ref qa2)] [(.ref b1), (.ref b1)])) _
    refine XS.aloadN X1.here hx rfl (hb hby d12_4) rfl rfl ?_
    show Steps p.tables e below (T1.setTop (mkF m 5 #[.val (.ref qa1), .val (.ref qa2)] [(.ref qa1), (.ref b1), (.ref b1)])) _
    refine st9 _ ?_
    show Steps p.tables e below (T9.setTop (mkF m 8 #[.val (.ref qa1), .val (.ref qa2)] [(.ref g_OR), (.ref qa1), (.ref b1), (.ref b1)])) _
    refine XS.aloadN X9.here hx rfl (hb hby d12_8) rfl rfl ?_
    show Steps p.tables e below (T9.setTop (mkF m 9 #[.val (.ref qa1), .val (.ref qa2)] [(.ref qa2), (.ref g_OR), (.ref qa1), (.ref b1), (.ref b1)])) _
    refine st11.trans ?_
    show Steps p.tables e below (T11.setTop (mkF m 12 #[.val (.ref qa1), .val (.ref qa2)] [(.ref b1)])) _
    exact retOut X11_ hx Bd.returns rfl (Or.inr (Or.inr (Or.inr (Or.inr ⟨rfl, rfl, rfl⟩)))) (hb hby d12_12) hr
  · show Q19 Z g_IS_NULL g_AND g_OR qa1 qa2 h0 n0 _ T11.heap _
    exact ⟨b1, rfl, N11, K19, sz_b1, E22_, w14, w15, w16, w17⟩
  · show CHr Z ([] : List (String × Nat)) s.vm s.heap T11.vm T11.heap
    rw [hh]
    exact hCe
-- com/example/ratatoskr/ratatoskr/criteria/Filter.junction()Lcom/example/ratatoskr/ratatoskr/criteria/Filter$Junction;
def Q20 (Z : State) (g_IS_NULL : Addr) (g_AND : Addr) (g_OR : Addr) (qa1 : Addr) (h0 : Heap) (n0 : Nat) (v : Option Value) (h : Heap) (L : List Loc) : Prop := v = some (.ref g_OR) ∧ Fr n0 L ∧ h = h0
set_option maxRecDepth 65536 in
set_option maxHeartbeats 40000000 in
theorem rm20 (l : Launch) (Z : State) (a0 : Array Value) (hw : ∀ d ∈ tables_1, d.before a0 Z = true) (ws : List Jvm.Cond) (g_IS_NULL : Addr) (g_AND : Addr) (g_OR : Addr) (qa1 : Addr) (h0 : Heap) (n0 : Nat) (X00 : Old Z n0 h0) (hEN : OwnEN Z g_IS_NULL g_AND g_OR) (F_qa1_junction : Fld Z h0 qa1 "com/example/ratatoskr/ratatoskr/criteria/Filter" "junction" "Lcom/example/ratatoskr/ratatoskr/criteria/Filter$Junction;" (.ref g_OR)) :
    MetFree l (⟨"com/example/ratatoskr/ratatoskr/criteria/Filter", "junction", "()Lcom/example/ratatoskr/ratatoskr/criteria/Filter$Junction;"⟩ : MethodName) (head1 (Jvm.Cond.code (⟨"com/example/ratatoskr/ratatoskr/criteria/Filter", "junction", "()Lcom/example/ratatoskr/ratatoskr/criteria/Filter$Junction;"⟩ : MethodName) prog_13_method_9_code 1 (some (.object "com/example/ratatoskr/ratatoskr/criteria/Filter$Junction")) :: ws) ({ frames := 0, cells := 0, slots := 0, locals := 0 } : Room)) (fun a U => a = #[(.ref qa1)] ∧ Z.Warmed39 U.vm ∧ U.heap = h0) (fun _ _ _ _ _ => True) (fun _ U o U' => ∃ v L, o = .returned v ∧ Q20 Z g_IS_NULL g_AND g_OR qa1 h0 n0 v U'.heap L ∧ FrameEnd U o U' L ({ frames := 0, cells := 0, slots := 0, locals := 0 } : Room).cells ({ frames := 0, cells := 0, slots := 0, locals := 0 } : Room).slots) := by
  refine MetFree.of_bodySF (plainFor_of_name pn1) hisR ?_
  intro p e s m args below meth c s₁ Bd hml0 hP hK
  obtain ⟨rfl, hZ, hh⟩ := hP
  have hx := Bd.exec
  have hby := Bd.bytes
  have hml : c.maxLocals = 1 := hml0
  have hown : s.vm.findClass "com/example/ratatoskr/ratatoskr/criteria/Filter" = some m.cls := findClass_of_methodNamed Bd.named
  have hnm := (name_of_methodNamed Bd.named Bd.method).1
  have X0 : Stand p l e ({ frames := 0, cells := 0, slots := 0, locals := 0 } : Room) s m #[(.ref qa1)] below meth c s₁ [] 0 0 := Stand.of_body Bd
  have e0 : s₁.heap = h0 := by rw [← hh, Bd.state]; rfl
  have N0 := Fr.nil n0
  have pre0 : ∀ t, Steps p.tables e below (s₁.setTop (mkF m 0 #[.val (.ref qa1)] [])) t → Steps p.tables e below (s₁.setTop (entryFrame m #[(.ref qa1)] 1)) t := fun t k => castTop (ef3 m qa1) k
  obtain ⟨T1, X1, e1, st1⟩ := getF X0 hx hZ hown (host := "") (Or.inl (hw _ (List.mem_of_getElem? (i := 80) rfl))) Via.refl e0 F_qa1_junction (g := (mkF m 1 #[.val (.ref qa1)] [(.ref qa1)])) rfl rfl (hb hby d11_1)
  obtain ⟨fs, hr, hrun, hended, hW, hsame⟩ := X1.leave (v := (some (.ref g_OR))) (fun h => by rw [Bd.returns] at h; cases h)
  refine ⟨_, _, pre0 _ ?_, hrun, hended, _, _, rfl, ?_, ⟨_, rfl⟩, hW, hsame.mono (by decide) (by decide)⟩
  · show Steps p.tables e below (s₁.setTop (mkF m 0 #[.val (.ref qa1)] [])) _
    refine XS.aloadN X0.here hx rfl (hb hby d11_0) rfl rfl ?_
    show Steps p.tables e below (s₁.setTop (mkF m 1 #[.val (.ref qa1)] [(.ref qa1)])) _
    refine st1 _ ?_
    show Steps p.tables e below (T1.setTop (mkF m 4 #[.val (.ref qa1)] [(.ref g_OR)])) _
    exact retOut X1 hx Bd.returns rfl (Or.inr (Or.inr (Or.inr (Or.inr ⟨rfl, rfl, rfl⟩)))) (hb hby d11_4) hr
  · show Q20 Z g_IS_NULL g_AND g_OR qa1 h0 n0 _ T1.heap _
    rw [show T1.heap = h0 from e1]
    exact ⟨rfl, N0, rfl⟩
def Q0 (n0 : Nat) (v : Option Value) (h : Heap) (L : List Loc) : Prop := v = some (.int 1) ∧ Fr n0 L
set_option maxRecDepth 65536 in
set_option maxHeartbeats 40000000 in
theorem rm0 (l : Launch) (Z : State) (a0 : Array Value) (hw : ∀ d ∈ tables_1, d.before a0 Z = true) (ws : List Jvm.Cond) (G1 : Int32) (g_IS_NULL : Addr) (g_AND : Addr) (g_OR : Addr) (p1 : Int32) (p2 : Int32) (p3 : Int32) (h0 : Heap) (n0 : Nat) (X00 : Old Z n0 h0) (O2 : Sta Z Z.heap "java/lang/String" "COMPACT_STRINGS" "Z" (.int G1)) (P5 : ¬ (G1 = (0 : Int32))) (hEN : OwnEN Z g_IS_NULL g_AND g_OR) :
    MetFree l x (head1 (Jvm.Cond.code x code maxLocals ret :: ws) room_1) (fun a U => a = #[(.int p1), (.int p2), (.int p3)] ∧ Z.Warmed39 U.vm ∧ U.heap = h0 ∧ CHv Z ([] : List (String × Nat)) U.vm h0) (fun _ _ _ _ _ => True) (fun _ U o U' => ∃ v L, o = .returned v ∧ Q0 n0 v U'.heap L ∧ CHr Z ([] : List (String × Nat)) U.vm U.heap U'.vm U'.heap ∧ ReturnedEndW U o U' L room_1.cells room_1.slots) := by
  refine MetFree.of_bodySF (plainFor_of_name pn0) hisR ?_
  intro p e s m args below meth c s₁ Bd hml0 hP hK
  obtain ⟨rfl, hZ, hh, hC0⟩ := hP
  have hx := Bd.exec
  have hby := Bd.bytes
  have hml : c.maxLocals = 12 := hml0
  have hown : s.vm.findClass "com/example/ratatoskr/ratatoskr/criteria/FilterAndPinLaw" = some m.cls := findClass_of_methodNamed Bd.named
  have hnm := (name_of_methodNamed Bd.named Bd.method).1
  have X0 : Stand p l e room_1 (s.setVm s.vm) m #[(.int p1), (.int p2), (.int p3)] below meth c s₁ [] 0 0 := Stand.of_body Bd
  have e0 : s₁.heap = h0 := by rw [← hh, Bd.state]; rfl
  have N0 := Fr.nil n0
  have pre0 : ∀ t, Steps p.tables e below (s₁.setTop (mkF m 0 #[.val (.int p1), .val (.int p2), .val (.int p3), .unset, .unset, .unset, .unset, .unset, .unset, .unset, .unset, .unset] [])) t → Steps p.tables e below (s₁.setTop (entryFrame m #[(.int p1), (.int p2), (.int p3)] maxLocals)) t := fun t k => castTop (ef0 m p1 p2 p3) k
  have hS0 : s.Since s.vm h0.size := (State.WarmedH.refl s).since _
  have hk0 : h0.size ≤ h0.size := Nat.le_refl _
  have hR0 : CHr Z ([] : List (String × Nat)) s.vm h0 s.vm h0 := CHr.refl hC0
  have hEL := own_EW hw
  have hwS := own_wS hw
  obtain ⟨T1, h1, c1, X1, e1, E1, A1, st1⟩ := newP X0 hx hZ (hw _ (List.mem_of_getElem? (i := 0) rfl)) e0 (g := (mkF m 1 #[.val (.int p1), .val (.int p2), .val (.int p3), .unset, .unset, .unset, .unset, .unset, .unset, .unset, .unset, .unset] [(.int (2 : Int32))])) rfl (hb hby at_1) rfl (by decide) (cap := 2) (by decide) (by decide) (by decide) (by decide)
  obtain ⟨b1, g1⟩ : ∃ z, z = h0.size := ⟨_, rfl⟩
  rw [← g1] at A1 st1
  have K2 : Keep h0 h1 [] := (Keep.refl h0 []).ext E1
  have C3 : CHv Z ([] : List (String × Nat)) s.vm h1 := CHv.ext E1 hC0
  have R4 : CHr Z ([] : List (String × Nat)) s.vm h0 s.vm h1 := hR0.trans (CHr.ext E1 hC0)
  have A5_ : Arv Z h1 b1 c1 .char (2 : Int32) [(.int (0 : Int32)), (.int (0 : Int32))] (.int (0 : Int32)) := (Arv.new A1 (by decide)).pad (pad_rep [] (.int (0 : Int32)) 2)
  have av6 := A5_
  obtain ⟨cl6, Ar6, q6, S6, N6, H6, G6⟩ := av6
  have hin7 : ¬ ((0 : Int32) < 0 ∨ cl6.slots.size ≤ ((0 : Int32) : Int32).toNatClampNeg) := inb_of S6 (by decide)
  obtain ⟨T7, h7, X7, e7, W7, st7⟩ := stC X1 hx hZ e1 Ar6 (j := (0 : Int32)) hin7 (g := (mkF m 11 #[.val (.int p1), .val (.int p2), .val (.int p3), .unset, .unset, .unset, .unset, .unset, .unset, .unset, .unset, .unset] [(.int (((p1 &&& (255 : Int32))).toUInt32.toUInt16.toUInt32.toInt32)), (.int (0 : Int32)), (.ref b1), (.ref b1)])) rfl rfl (hb hby at_11)
  have g_b1 : n0 ≤ b1 := Nat.le_trans (Nat.le_trans (Nat.le_of_eq X00.1.symm) X00.2.1) (Nat.le_of_eq g1.symm)
  have N7_ := Fr.snoc X7 N0 g_b1
  have sz_b1 : h0.size ≤ b1 := (Nat.le_of_eq g1.symm)
  have K8 : Keep h0 h7 [] := K2.wr W7 (Or.inr sz_b1)
  have C9 : CHv Z ([] : List (String × Nat)) s.vm h7 := CHv.wr W7 (Safe.arv hZ.alike A5_ (by simp)) C3
  have R10 : CHr Z ([] : List (String × Nat)) s.vm h0 s.vm h7 := R4.trans (CHr.wr W7 (Safe.arv hZ.alike A5_ (by simp)) C3)
  have A11_ : Arv Z h7 b1 c1 .char (2 : Int32) [(.int (((p1 &&& (255 : Int32))).toUInt32.toUInt16.toUInt32.toInt32)), (.int (0 : Int32))] (.int (0 : Int32)) := by have q := Arv.set (v := .int (nar .char (((p1 &&& (255 : Int32))).toUInt32.toUInt16.toUInt32.toInt32))) Ar6 q6 S6 N6 H6 G6 (fits_nar_char _) W7 0 (by decide) (Nat.le_of_ble_eq_true rfl); rw [((own_nar_i2c _) : nar .char (((p1 &&& (255 : Int32))).toUInt32.toUInt16.toUInt32.toInt32) = (((p1 &&& (255 : Int32))).toUInt32.toUInt16.toUInt32.toInt32))] at q; exact q
  have av12 := A11_
  obtain ⟨cl12, Ar12, q12, S12, N12, H12, G12⟩ := av12
  have hin13 : ¬ ((1 : Int32) < 0 ∨ cl12.slots.size ≤ ((1 : Int32) : Int32).toNatClampNeg) := inb_of S12 (by decide)
  obtain ⟨T13, h13, X13, e13, W13, st13⟩ := stC X7 hx hZ e7 Ar12 (j := (1 : Int32)) hin13 (g := (mkF m 23 #[.val (.int p1), .val (.int p2), .val (.int p3), .unset, .unset, .unset, .unset, .unset, .unset, .unset, .unset, .unset] [(.int ((((((p1).toUInt32 >>> ((8 : Int32) &&& 31).toUInt32).toInt32) &&& (255 : Int32))).toUInt32.toUInt16.toUInt32.toInt32)), (.int (1 : Int32)), (.ref b1), (.ref b1)])) rfl rfl (hb hby at_23)
  have N13_ := Fr.snoc X13 N7_ g_b1
  have K14 : Keep h0 h13 [] := K8.wr W13 (Or.inr sz_b1)
  have C15 : CHv Z ([] : List (String × Nat)) s.vm h13 := CHv.wr W13 (Safe.arv hZ.alike A11_ (by simp)) C9
  have R16 : CHr Z ([] : List (String × Nat)) s.vm h0 s.vm h13 := R10.trans (CHr.wr W13 (Safe.arv hZ.alike A11_ (by simp)) C9)
  have A17_ : Arv Z h13 b1 c1 .char (2 : Int32) [(.int (((p1 &&& (255 : Int32))).toUInt32.toUInt16.toUInt32.toInt32)), (.int ((((((p1).toUInt32 >>> ((8 : Int32) &&& 31).toUInt32).toInt32) &&& (255 : Int32))).toUInt32.toUInt16.toUInt32.toInt32))] (.int (0 : Int32)) := by have q := Arv.set (v := .int (nar .char ((((((p1).toUInt32 >>> ((8 : Int32) &&& 31).toUInt32).toInt32) &&& (255 : Int32))).toUInt32.toUInt16.toUInt32.toInt32))) Ar12 q12 S12 N12 H12 G12 (fits_nar_char _) W13 1 (by decide) (Nat.le_of_ble_eq_true rfl); rw [((own_nar_i2c _) : nar .char ((((((p1).toUInt32 >>> ((8 : Int32) &&& 31).toUInt32).toInt32) &&& (255 : Int32))).toUInt32.toUInt16.toUInt32.toInt32) = ((((((p1).toUInt32 >>> ((8 : Int32) &&& 31).toUInt32).toInt32) &&& (255 : Int32))).toUInt32.toUInt16.toUInt32.toInt32))] at q; exact q
  obtain ⟨T18, h18, c18, X18, e18, E18, A18, st18⟩ := newP X13 hx hZ (hw _ (List.mem_of_getElem? (i := 0) rfl)) e13 (g := (mkF m 26 #[.val (.int p1), .val (.int p2), .val (.int p3), .val (.ref b1), .unset, .unset, .unset, .unset, .unset, .unset, .unset, .unset] [(.int (2 : Int32))])) rfl (hb hby at_26) rfl (by decide) (cap := 2) (by decide) (by decide) (by decide) (by decide)
  obtain ⟨b18, g18⟩ : ∃ z, z = h13.size := ⟨_, rfl⟩
  rw [← g18] at A18 st18
  have K19 : Keep h0 h18 [] := K14.ext E18
  have C20 : CHv Z ([] : List (String × Nat)) s.vm h18 := CHv.ext E18 C15
  have R21 : CHr Z ([] : List (String × Nat)) s.vm h0 s.vm h18 := R16.trans (CHr.ext E18 C15)
  have A22_ : Arv Z h18 b18 c18 .char (2 : Int32) [(.int (0 : Int32)), (.int (0 : Int32))] (.int (0 : Int32)) := (Arv.new A18 (by decide)).pad (pad_rep [] (.int (0 : Int32)) 2)
  have av23 := A22_
  obtain ⟨cl23, Ar23, q23, S23, N23, H23, G23⟩ := av23
  have hin24 : ¬ ((0 : Int32) < 0 ∨ cl23.slots.size ≤ ((0 : Int32) : Int32).toNatClampNeg) := inb_of S23 (by decide)
  obtain ⟨T24, h24, X24, e24, W24, st24⟩ := stC X18 hx hZ e18 Ar23 (j := (0 : Int32)) hin24 (g := (mkF m 36 #[.val (.int p1), .val (.int p2), .val (.int p3), .val (.ref b1), .unset, .unset, .unset, .unset, .unset, .unset, .unset, .unset] [(.int (((p2 &&& (255 : Int32))).toUInt32.toUInt16.toUInt32.toInt32)), (.int (0 : Int32)), (.ref b18), (.ref b18)])) rfl rfl (hb hby at_36)
  have O25 : Old Z n0 h1 := X00.ext E1
  have O26 : Old Z n0 h7 := O25.wr W7 g_b1
  have O27 : Old Z n0 h13 := O26.wr W13 g_b1
  have g_b18 : n0 ≤ b18 := Nat.le_trans (Nat.le_trans (Nat.le_of_eq O27.1.symm) O27.2.1) (Nat.le_of_eq g18.symm)
  have N24_ := Fr.snoc X24 N13_ g_b18
  have sz_b18 : h0.size ≤ b18 := Nat.le_trans K14.1 (Nat.le_of_eq g18.symm)
  have K28 : Keep h0 h24 [] := K19.wr W24 (Or.inr sz_b18)
  have C29 : CHv Z ([] : List (String × Nat)) s.vm h24 := CHv.wr W24 (Safe.arv hZ.alike A22_ (by simp)) C20
  have R30 : CHr Z ([] : List (String × Nat)) s.vm h0 s.vm h24 := R21.trans (CHr.wr W24 (Safe.arv hZ.alike A22_ (by simp)) C20)
  have A31_ : Arv Z h24 b18 c18 .char (2 : Int32) [(.int (((p2 &&& (255 : Int32))).toUInt32.toUInt16.toUInt32.toInt32)), (.int (0 : Int32))] (.int (0 : Int32)) := by have q := Arv.set (v := .int (nar .char (((p2 &&& (255 : Int32))).toUInt32.toUInt16.toUInt32.toInt32))) Ar23 q23 S23 N23 H23 G23 (fits_nar_char _) W24 0 (by decide) (Nat.le_of_ble_eq_true rfl); rw [((own_nar_i2c _) : nar .char (((p2 &&& (255 : Int32))).toUInt32.toUInt16.toUInt32.toInt32) = (((p2 &&& (255 : Int32))).toUInt32.toUInt16.toUInt32.toInt32))] at q; exact q
  have av32 := A31_
  obtain ⟨cl32, Ar32, q32, S32, N32, H32, G32⟩ := av32
  have hin33 : ¬ ((1 : Int32) < 0 ∨ cl32.slots.size ≤ ((1 : Int32) : Int32).toNatClampNeg) := inb_of S32 (by decide)
  obtain ⟨T33, h33, X33, e33, W33, st33⟩ := stC X24 hx hZ e24 Ar32 (j := (1 : Int32)) hin33 (g := (mkF m 48 #[.val (.int p1), .val (.int p2), .val (.int p3), .val (.ref b1), .unset, .unset, .unset, .unset, .unset, .unset, .unset, .unset] [(.int ((((((p2).toUInt32 >>> ((8 : Int32) &&& 31).toUInt32).toInt32) &&& (255 : Int32))).toUInt32.toUInt16.toUInt32.toInt32)), (.int (1 : Int32)), (.ref b18), (.ref b18)])) rfl rfl (hb hby at_48)
  have N33_ := Fr.snoc X33 N24_ g_b18
  have K34 : Keep h0 h33 [] := K28.wr W33 (Or.inr sz_b18)
  have C35 : CHv Z ([] : List (String × Nat)) s.vm h33 := CHv.wr W33 (Safe.arv hZ.alike A31_ (by simp)) C29
  have R36 : CHr Z ([] : List (String × Nat)) s.vm h0 s.vm h33 := R30.trans (CHr.wr W33 (Safe.arv hZ.alike A31_ (by simp)) C29)
  have A37_ : Arv Z h33 b18 c18 .char (2 : Int32) [(.int (((p2 &&& (255 : Int32))).toUInt32.toUInt16.toUInt32.toInt32)), (.int ((((((p2).toUInt32 >>> ((8 : Int32) &&& 31).toUInt32).toInt32) &&& (255 : Int32))).toUInt32.toUInt16.toUInt32.toInt32))] (.int (0 : Int32)) := by have q := Arv.set (v := .int (nar .char ((((((p2).toUInt32 >>> ((8 : Int32) &&& 31).toUInt32).toInt32) &&& (255 : Int32))).toUInt32.toUInt16.toUInt32.toInt32))) Ar32 q32 S32 N32 H32 G32 (fits_nar_char _) W33 1 (by decide) (Nat.le_of_ble_eq_true rfl); rw [((own_nar_i2c _) : nar .char ((((((p2).toUInt32 >>> ((8 : Int32) &&& 31).toUInt32).toInt32) &&& (255 : Int32))).toUInt32.toUInt16.toUInt32.toInt32) = ((((((p2).toUInt32 >>> ((8 : Int32) &&& 31).toUInt32).toInt32) &&& (255 : Int32))).toUInt32.toUInt16.toUInt32.toInt32))] at q; exact q
  obtain ⟨T38, h38, X38, e38, E38, A38, D38, -, st38⟩ := newO X33 hx hZ hown (hw _ (List.mem_of_getElem? (i := 1) rfl)) (hw _ (List.mem_of_getElem? (i := 2) rfl)) (hw _ (List.mem_of_getElem? (i := 3) rfl)) e33 (g := (mkF m 51 #[.val (.int p1), .val (.int p2), .val (.int p3), .val (.ref b1), .val (.ref b18), .unset, .unset, .unset, .unset, .unset, .unset, .unset] [])) rfl (hb hby at_51) (by decide) (by decide)
  obtain ⟨b38, g38⟩ : ∃ z, z = h33.size := ⟨_, rfl⟩
  rw [← g38] at A38 D38 st38
  have K39 : Keep h0 h38 [] := K34.ext E38
  have C40 : CHv Z ([] : List (String × Nat)) s.vm h38 := CHv.ext E38 C35
  have R41 : CHr Z ([] : List (String × Nat)) s.vm h0 s.vm h38 := R36.trans (CHr.ext E38 C35)
  have F42_ : Fld Z h38 b38 "com/example/ratatoskr/ratatoskr/criteria/Filter" "comparison" "Lcom/example/ratatoskr/ratatoskr/criteria/Filter$Comparison;" .null := D38 (Or.inr (hw _ (List.mem_of_getElem? (i := 77) rfl))) (ty := (.object "com/example/ratatoskr/ratatoskr/criteria/Filter$Comparison")) (by decide)
  have F43_ : Fld Z h38 b38 "com/example/ratatoskr/ratatoskr/criteria/Filter" "left" "Lcom/example/ratatoskr/ratatoskr/criteria/Filter;" .null := D38 (Or.inr (hw _ (List.mem_of_getElem? (i := 79) rfl))) (ty := (.object "com/example/ratatoskr/ratatoskr/criteria/Filter")) (by decide)
  have F44_ : Fld Z h38 b38 "com/example/ratatoskr/ratatoskr/criteria/Filter" "junction" "Lcom/example/ratatoskr/ratatoskr/criteria/Filter$Junction;" .null := D38 (Or.inr (hw _ (List.mem_of_getElem? (i := 81) rfl))) (ty := (.object "com/example/ratatoskr/ratatoskr/criteria/Filter$Junction")) (by decide)
  have F45_ : Fld Z h38 b38 "com/example/ratatoskr/ratatoskr/criteria/Filter" "right" "Lcom/example/ratatoskr/ratatoskr/criteria/Filter;" .null := D38 (Or.inr (hw _ (List.mem_of_getElem? (i := 83) rfl))) (ty := (.object "com/example/ratatoskr/ratatoskr/criteria/Filter")) (by decide)
  obtain ⟨T46, h46, X46, e46, E46, A46, D46, -, st46⟩ := newO X38 hx hZ hown (hw _ (List.mem_of_getElem? (i := 4) rfl)) (hw _ (List.mem_of_getElem? (i := 5) rfl)) (hw _ (List.mem_of_getElem? (i := 6) rfl)) e38 (g := (mkF m 55 #[.val (.int p1), .val (.int p2), .val (.int p3), .val (.ref b1), .val (.ref b18), .unset, .unset, .unset, .unset, .unset, .unset, .unset] [(.ref b38), (.ref b38)])) rfl (hb hby at_55) (by decide) (by decide)
  obtain ⟨b46, g46⟩ : ∃ z, z = h38.size := ⟨_, rfl⟩
  rw [← g46] at A46 D46 st46
  have K47 : Keep h0 h46 [] := K39.ext E46
  have C48 : CHv Z ([] : List (String × Nat)) s.vm h46 := CHv.ext E46 C40
  have R49 : CHr Z ([] : List (String × Nat)) s.vm h0 s.vm h46 := R41.trans (CHr.ext E46 C40)
  have F50_ : Fld Z h46 b46 "java/lang/String" "coder" "B" (.int (0 : Int32)) := D46 (Or.inr (hw _ (List.mem_of_getElem? (i := 30) rfl))) (ty := .byte) (by decide)
  have F51_ : Fld Z h46 b46 "java/lang/String" "value" "[B" .null := D46 (Or.inr (hw _ (List.mem_of_getElem? (i := 32) rfl))) (ty := (.array .byte)) (by decide)
  have hp53 : ∀ c ∈ ([(((p1 &&& (255 : Int32))).toUInt32.toUInt16.toUInt32.toInt32), ((((((p1).toUInt32 >>> ((8 : Int32) &&& 31).toUInt32).toInt32) &&& (255 : Int32))).toUInt32.toUInt16.toUInt32.toInt32)] : List Int32), ¬ c < 0 ∧ ¬ (255 : Int32) < c := (List.forall_mem_cons.mpr ⟨(own_lat p1), (List.forall_mem_cons.mpr ⟨(own_lat (((p1).toUInt32 >>> ((8 : Int32) &&& 31).toUInt32).toInt32)), (fun _ q => nomatch q)⟩)⟩)
  have O54 : Old Z n0 h18 := O27.ext E18
  have O55 : Old Z n0 h24 := O54.wr W24 g_b18
  have O56 : Old Z n0 h33 := O55.wr W33 g_b18
  have O57 : Old Z n0 h38 := O56.ext E38
  have g_b46 : n0 ≤ b46 := Nat.le_trans (Nat.le_trans (Nat.le_of_eq O57.1.symm) O57.2.1) (Nat.le_of_eq g46.symm)
  have O58 : Old Z n0 h46 := O57.ext E46
  have A59_ : Arv Z h18 b1 c1 .char (2 : Int32) [(.int (((p1 &&& (255 : Int32))).toUInt32.toUInt16.toUInt32.toInt32)), (.int ((((((p1).toUInt32 >>> ((8 : Int32) &&& 31).toUInt32).toInt32) &&& (255 : Int32))).toUInt32.toUInt16.toUInt32.toInt32))] (.int (0 : Int32)) := A17_.ext E18
  have A60_ : Arv Z h24 b1 c1 .char (2 : Int32) [(.int (((p1 &&& (255 : Int32))).toUInt32.toUInt16.toUInt32.toInt32)), (.int ((((((p1).toUInt32 >>> ((8 : Int32) &&& 31).toUInt32).toInt32) &&& (255 : Int32))).toUInt32.toUInt16.toUInt32.toInt32))] (.int (0 : Int32)) := A59_.other W24 (Nat.ne_of_lt (Nat.lt_of_lt_of_le (Nat.lt_of_lt_of_le A5_.lt (Nat.le_trans (Nat.le_of_eq W7.size.symm) (Nat.le_of_eq W13.size.symm))) (Nat.le_of_eq g18.symm)))
  have A61_ : Arv Z h33 b1 c1 .char (2 : Int32) [(.int (((p1 &&& (255 : Int32))).toUInt32.toUInt16.toUInt32.toInt32)), (.int ((((((p1).toUInt32 >>> ((8 : Int32) &&& 31).toUInt32).toInt32) &&& (255 : Int32))).toUInt32.toUInt16.toUInt32.toInt32))] (.int (0 : Int32)) := A60_.other W33 (Nat.ne_of_lt (Nat.lt_of_lt_of_le (Nat.lt_of_lt_of_le A5_.lt (Nat.le_trans (Nat.le_of_eq W7.size.symm) (Nat.le_of_eq W13.size.symm))) (Nat.le_of_eq g18.symm)))
  have A62_ : Arv Z h38 b1 c1 .char (2 : Int32) [(.int (((p1 &&& (255 : Int32))).toUInt32.toUInt16.toUInt32.toInt32)), (.int ((((((p1).toUInt32 >>> ((8 : Int32) &&& 31).toUInt32).toInt32) &&& (255 : Int32))).toUInt32.toUInt16.toUInt32.toInt32))] (.int (0 : Int32)) := A61_.ext E38
  have A63_ : Arv Z h46 b1 c1 .char (2 : Int32) [(.int (((p1 &&& (255 : Int32))).toUInt32.toUInt16.toUInt32.toInt32)), (.int ((((((p1).toUInt32 >>> ((8 : Int32) &&& 31).toUInt32).toInt32) &&& (255 : Int32))).toUInt32.toUInt16.toUInt32.toInt32))] (.int (0 : Int32)) := A62_.ext E46
  obtain ⟨_, _, ⟨T52, L52, k52, n52⟩, -, X52, ⟨Lc52, hQ52, l52, y52, z52⟩, st52⟩ := X46.specialBack hx (y := (⟨"java/lang/String", "<init>", "([C)V"⟩ : MethodName)) rfl hown (mvT hZ (hw _ (List.mem_of_getElem? (i := 7) rfl))) (mvT hZ (hw _ (List.mem_of_getElem? (i := 8) rfl))) (mvT hZ (hw _ (List.mem_of_getElem? (i := 9) rfl))) (by decide) (StrChars.Road.backV (s := s.setVm s.vm) (W := 3) hZ (own_ws hw) (kI := 4) (hw _ (List.mem_of_getElem? (i := 5) rfl)) (cs := ([(((p1 &&& (255 : Int32))).toUInt32.toUInt16.toUInt32.toInt32), ((((((p1).toUInt32 >>> ((8 : Int32) &&& 31).toUInt32).toInt32) &&& (255 : Int32))).toUInt32.toUInt16.toUInt32.toInt32)] : List Int32)) (bs := ([(((p1 &&& (255 : Int32))).toUInt32.toUInt16.toUInt32.toInt32), ((((((p1).toUInt32 >>> ((8 : Int32) &&& 31).toUInt32).toInt32) &&& (255 : Int32))).toUInt32.toUInt16.toUInt32.toInt32)] : List Int32).map (fun c => c.toInt8.toInt32)) (n := 2) g_b46 (Nat.le_trans (Nat.le_of_eq O58.1.symm) O58.2.1) A46 F51_ F50_ A63_ (O2.ext O58.2) P5 rfl rfl (by decide) (by decide) hp53 rfl (by decide) (by decide)) (g := (mkF m 60 #[.val (.int p1), .val (.int p2), .val (.int p3), .val (.ref b1), .val (.ref b18), .unset, .unset, .unset, .unset, .unset, .unset, .unset] [(.ref b1), (.ref b46), (.ref b46), (.ref b38), (.ref b38)])) rfl (by rw [hml]; rfl) (Steps.refl _) (a := b46) (argsL := [(.ref b1)]) (rest := [(.ref b46), (.ref b38), (.ref b38)]) (lenOf pd0 rfl) rfl (by show 2 * 0 + _ ≤ _; exact Nat.le_of_eq rfl) (hb hby at_60) (fun _ _ => ⟨rfl, e46, (by decide : 4 + 1 ≤ _), (by decide : 12 + 2 ≤ _)⟩)
  dsimp only [Pt.U, Pt.locs, Pt.cells, Pt.slots] at X52 l52 y52 z52 st52 hQ52
  subst l52 y52 z52
  obtain ⟨rfl, N52q, K52q, E52q, C52q, b64, c64_, u64, g64, ne64, V64_, A64_⟩ := hQ52
  have N52 := Fr.app N33_ N52q
  have sz_b46 : h0.size ≤ b46 := Nat.le_trans K39.1 (Nat.le_of_eq g46.symm)
  have K65 : Keep h0 T52.heap [] := K47.trans K52q (allS (Or.inr sz_b46) all0)
  have f67 : Safe Z ([] : List (String × Nat)) s.vm h46 b46 := Safe.ext E46 C40 (Safe.new (Nat.le_of_eq g46.symm))
  have C66 : CHv Z ([] : List (String × Nat)) s.vm T52.heap := CHv.keep K52q (sfS f67 sf0) C48
  have R68 : CHr Z ([] : List (String × Nat)) s.vm h0 s.vm T52.heap := R49.trans (CHr.keep K52q (sfS f67 sf0) C48)
  have O70 : Old Z n0 T52.heap := O58.keep K52q (allS g_b46 all0)
  obtain ⟨T69, X69, e69, st69⟩ := getS2 X52 hx hZ hown (host := "") (Or.inl (hw _ (List.mem_of_getElem? (i := 33) rfl))) Via.refl rfl (hEN.1.ext O70.2) (g := (mkF m 63 #[.val (.int p1), .val (.int p2), .val (.int p3), .val (.ref b1), .val (.ref b18), .unset, .unset, .unset, .unset, .unset, .unset, .unset] [(.ref b46), (.ref b38), (.ref b38)])) rfl (hb hby at_63)
  have E72_ : Exa Z h46 b38 "com/example/ratatoskr/ratatoskr/criteria/Filter" := A38.ext E46
  have E73_ : Exa Z T52.heap b38 "com/example/ratatoskr/ratatoskr/criteria/Filter" := E72_.keep K52q
  have F74_ : Fld Z h46 b38 "com/example/ratatoskr/ratatoskr/criteria/Filter" "comparison" "Lcom/example/ratatoskr/ratatoskr/criteria/Filter$Comparison;" .null := F42_.ext E46
  have F75_ : Fld Z T52.heap b38 "com/example/ratatoskr/ratatoskr/criteria/Filter" "comparison" "Lcom/example/ratatoskr/ratatoskr/criteria/Filter$Comparison;" .null := F74_.keep K52q (ninS (Nat.ne_of_lt (Nat.lt_of_lt_of_le A38.lt (Nat.le_of_eq g46.symm))) nin0)
  have g_b38 : n0 ≤ b38 := Nat.le_trans (Nat.le_trans (Nat.le_of_eq O56.1.symm) O56.2.1) (Nat.le_of_eq g38.symm)
  have F76_ : Fld Z h46 b38 "com/example/ratatoskr/ratatoskr/criteria/Filter" "left" "Lcom/example/ratatoskr/ratatoskr/criteria/Filter;" .null := F43_.ext E46
  have F77_ : Fld Z T52.heap b38 "com/example/ratatoskr/ratatoskr/criteria/Filter" "left" "Lcom/example/ratatoskr/ratatoskr/criteria/Filter;" .null := F76_.keep K52q (ninS (Nat.ne_of_lt (Nat.lt_of_lt_of_le A38.lt (Nat.le_of_eq g46.symm))) nin0)
  have F78_ : Fld Z h46 b38 "com/example/ratatoskr/ratatoskr/criteria/Filter" "junction" "Lcom/example/ratatoskr/ratatoskr/criteria/Filter$Junction;" .null := F44_.ext E46
  have F79_ : Fld Z T52.heap b38 "com/example/ratatoskr/ratatoskr/criteria/Filter" "junction" "Lcom/example/ratatoskr/ratatoskr/criteria/Filter$Junction;" .null := F78_.keep K52q (ninS (Nat.ne_of_lt (Nat.lt_of_lt_of_le A38.lt (Nat.le_of_eq g46.symm))) nin0)
  have F80_ : Fld Z h46 b38 "com/example/ratatoskr/ratatoskr/criteria/Filter" "right" "Lcom/example/ratatoskr/ratatoskr/criteria/Filter;" .null := F45_.ext E46
  have F81_ : Fld Z T52.heap b38 "com/example/ratatoskr/ratatoskr/criteria/Filter" "right" "Lcom/example/ratatoskr/ratatoskr/criteria/Filter;" .null := F80_.keep K52q (ninS (Nat.ne_of_lt (Nat.lt_of_lt_of_le A38.lt (Nat.le_of_eq g46.symm))) nin0)
  obtain ⟨_, _, ⟨T71, L71, k71, n71⟩, -, X71, hS71, hgr71, ⟨Lc71, hQ71, l71, y71, z71, CR71⟩, st71⟩ := X69.specialBackS hx (y := (⟨"com/example/ratatoskr/ratatoskr/criteria/Filter", "<init>", "(Ljava/lang/String;Lcom/example/ratatoskr/ratatoskr/criteria/ComparisonOperator;)V"⟩ : MethodName)) rfl hown (mvT hZ (hw _ (List.mem_of_getElem? (i := 36) rfl))) (mvT hZ (hw _ (List.mem_of_getElem? (i := 37) rfl))) (mvT hZ (hw _ (List.mem_of_getElem? (i := 38) rfl))) (by decide) (backOfSH (W := 1) (EL := ([] : List (String × Nat))) (s := s) (rm7 l Z a0 hw [] g_IS_NULL g_AND g_OR b38 b46 T52.heap n0 O70 hEN E73_ F75_ g_b38 F77_ F79_ F81_) hZ (hw _ (List.mem_of_getElem? (i := 38) rfl)) (hw _ (List.mem_of_getElem? (i := 3) rfl)) (by decide) (by decide) hEL C66) (g := (mkF m 66 #[.val (.int p1), .val (.int p2), .val (.int p3), .val (.ref b1), .val (.ref b18), .unset, .unset, .unset, .unset, .unset, .unset, .unset] [(.ref g_IS_NULL), (.ref b46), (.ref b38), (.ref b38)])) rfl (by rw [hml]; rfl) (Steps.refl _) (a := b38) (argsL := [(.ref b46), (.ref g_IS_NULL)]) (rest := [(.ref b38)]) (lenOf pd6 rfl) rfl (by show 2 * 0 + _ ≤ _; exact Nat.le_of_eq rfl) (hb hby at_66) (fun _ _ => ⟨rfl, e69, (by decide : 5 + 5 ≤ _), (by decide : 14 + 75 ≤ _)⟩)
  dsimp only [Pt.U, Pt.locs, Pt.cells, Pt.slots] at X71 l71 y71 z71 st71 hQ71 CR71 hS71 hgr71
  subst l71 y71 z71
  obtain ⟨b82, rfl, N71q, K71q, w83, w84, w85, w86, w87, w88, w89, w90, w91, w92⟩ := hQ71
  have N71 := Fr.app N52 N71q
  have hk93' : _ ≤ T52.heap.size := (Nat.le_trans (Nat.le_trans (Nat.le_trans (Nat.le_trans (Nat.le_trans (Nat.le_trans (Nat.le_trans (Nat.le_trans (Nat.le_trans hk0 E1.1) (Nat.le_of_eq W7.size.symm)) (Nat.le_of_eq W13.size.symm)) E18.1) (Nat.le_of_eq W24.size.symm)) (Nat.le_of_eq W33.size.symm)) E38.1) E46.1) K52q.1)
  have hS71_ : s.Since T71.vm T71.heap.size := hS0.trans hS71 (Nat.le_trans hk93' (show T52.heap.size ≤ T71.heap.size from (e69 ▸ hgr71)))
  have hZ71 : Z.Warmed39 T71.vm := State.Warmed39.trans (t := s.setVm s.vm) hZ hS71.1
  have ho71 : T71.vm.findClass "com/example/ratatoskr/ratatoskr/criteria/FilterAndPinLaw" = some m.cls := by rw [hS71.1.alike.findClass]; exact hown
  have X71_ : Stand p l e room_1 (s.setVm T71.vm) m #[(.int p1), (.int p2), (.int p3)] below meth c T71 _ _ _ := X71
  have hk71 : T71.heap.size ≤ T71.heap.size := Nat.le_refl _
  have sz_b38 : h0.size ≤ b38 := Nat.le_trans K34.1 (Nat.le_of_eq g38.symm)
  have K94 : Keep h0 T71.heap [] := K65.trans K71q (allS (Or.inr sz_b38) all0)
  have R96 : CHr Z ([] : List (String × Nat)) s.vm h0 T71.vm T71.heap := R68.trans CR71
  obtain ⟨T97, h97, X97, e97, E97, A97, D97, -, st97⟩ := newO X71_ hx hZ71 ho71 (hw _ (List.mem_of_getElem? (i := 1) rfl)) (hw _ (List.mem_of_getElem? (i := 2) rfl)) (hw _ (List.mem_of_getElem? (i := 3) rfl)) rfl (g := (mkF m 71 #[.val (.int p1), .val (.int p2), .val (.int p3), .val (.ref b1), .val (.ref b18), .val (.ref b38), .unset, .unset, .unset, .unset, .unset, .unset] [])) rfl (hb hby at_71) (by decide) (by decide)
  obtain ⟨b97, g97⟩ : ∃ z, z = T71.heap.size := ⟨_, rfl⟩
  rw [← g97] at A97 D97 st97
  have K98 : Keep h0 h97 [] := K94.ext E97
  have C99 : CHv Z ([] : List (String × Nat)) T71.vm h97 := CHv.ext E97 CR71.1
  have R100 : CHr Z ([] : List (String × Nat)) s.vm h0 T71.vm h97 := R96.trans (CHr.ext E97 CR71.1)
  have F101_ : Fld Z h97 b97 "com/example/ratatoskr/ratatoskr/criteria/Filter" "comparison" "Lcom/example/ratatoskr/ratatoskr/criteria/Filter$Comparison;" .null := D97 (Or.inr (hw _ (List.mem_of_getElem? (i := 77) rfl))) (ty := (.object "com/example/ratatoskr/ratatoskr/criteria/Filter$Comparison")) (by decide)
  have F102_ : Fld Z h97 b97 "com/example/ratatoskr/ratatoskr/criteria/Filter" "left" "Lcom/example/ratatoskr/ratatoskr/criteria/Filter;" .null := D97 (Or.inr (hw _ (List.mem_of_getElem? (i := 79) rfl))) (ty := (.object "com/example/ratatoskr/ratatoskr/criteria/Filter")) (by decide)
  have F103_ : Fld Z h97 b97 "com/example/ratatoskr/ratatoskr/criteria/Filter" "junction" "Lcom/example/ratatoskr/ratatoskr/criteria/Filter$Junction;" .null := D97 (Or.inr (hw _ (List.mem_of_getElem? (i := 81) rfl))) (ty := (.object "com/example/ratatoskr/ratatoskr/criteria/Filter$Junction")) (by decide)
  have F104_ : Fld Z h97 b97 "com/example/ratatoskr/ratatoskr/criteria/Filter" "right" "Lcom/example/ratatoskr/ratatoskr/criteria/Filter;" .null := D97 (Or.inr (hw _ (List.mem_of_getElem? (i := 83) rfl))) (ty := (.object "com/example/ratatoskr/ratatoskr/criteria/Filter")) (by decide)
  obtain ⟨T105, h105, X105, e105, E105, A105, D105, -, st105⟩ := newO X97 hx hZ71 ho71 (hw _ (List.mem_of_getElem? (i := 4) rfl)) (hw _ (List.mem_of_getElem? (i := 5) rfl)) (hw _ (List.mem_of_getElem? (i := 6) rfl)) e97 (g := (mkF m 75 #[.val (.int p1), .val (.int p2), .val (.int p3), .val (.ref b1), .val (.ref b18), .val (.ref b38), .unset, .unset, .unset, .unset, .unset, .unset] [(.ref b97), (.ref b97)])) rfl (hb hby at_75) (by decide) (by decide)
  obtain ⟨b105, g105⟩ : ∃ z, z = h97.size := ⟨_, rfl⟩
  rw [← g105] at A105 D105 st105
  have K106 : Keep h0 h105 [] := K98.ext E105
  have C107 : CHv Z ([] : List (String × Nat)) T71.vm h105 := CHv.ext E105 C99
  have R108 : CHr Z ([] : List (String × Nat)) s.vm h0 T71.vm h105 := R100.trans (CHr.ext E105 C99)
  have F109_ : Fld Z h105 b105 "java/lang/String" "coder" "B" (.int (0 : Int32)) := D105 (Or.inr (hw _ (List.mem_of_getElem? (i := 30) rfl))) (ty := .byte) (by decide)
  have F110_ : Fld Z h105 b105 "java/lang/String" "value" "[B" .null := D105 (Or.inr (hw _ (List.mem_of_getElem? (i := 32) rfl))) (ty := (.array .byte)) (by decide)
  have hp112 : ∀ c ∈ ([(((p2 &&& (255 : Int32))).toUInt32.toUInt16.toUInt32.toInt32), ((((((p2).toUInt32 >>> ((8 : Int32) &&& 31).toUInt32).toInt32) &&& (255 : Int32))).toUInt32.toUInt16.toUInt32.toInt32)] : List Int32), ¬ c < 0 ∧ ¬ (255 : Int32) < c := (List.forall_mem_cons.mpr ⟨(own_lat p2), (List.forall_mem_cons.mpr ⟨(own_lat (((p2).toUInt32 >>> ((8 : Int32) &&& 31).toUInt32).toInt32)), (fun _ q => nomatch q)⟩)⟩)
  have O113 : Old Z n0 T71.heap := O70.keep K71q (allS g_b38 all0)
  have O114 : Old Z n0 h97 := O113.ext E97
  have g_b105 : n0 ≤ b105 := Nat.le_trans (Nat.le_trans (Nat.le_of_eq O114.1.symm) O114.2.1) (Nat.le_of_eq g105.symm)
  have O115 : Old Z n0 h105 := O114.ext E105
  have A116_ : Arv Z h38 b18 c18 .char (2 : Int32) [(.int (((p2 &&& (255 : Int32))).toUInt32.toUInt16.toUInt32.toInt32)), (.int ((((((p2).toUInt32 >>> ((8 : Int32) &&& 31).toUInt32).toInt32) &&& (255 : Int32))).toUInt32.toUInt16.toUInt32.toInt32))] (.int (0 : Int32)) := A37_.ext E38
  have A117_ : Arv Z h46 b18 c18 .char (2 : Int32) [(.int (((p2 &&& (255 : Int32))).toUInt32.toUInt16.toUInt32.toInt32)), (.int ((((((p2).toUInt32 >>> ((8 : Int32) &&& 31).toUInt32).toInt32) &&& (255 : Int32))).toUInt32.toUInt16.toUInt32.toInt32))] (.int (0 : Int32)) := A116_.ext E46
  have A118_ : Arv Z T52.heap b18 c18 .char (2 : Int32) [(.int (((p2 &&& (255 : Int32))).toUInt32.toUInt16.toUInt32.toInt32)), (.int ((((((p2).toUInt32 >>> ((8 : Int32) &&& 31).toUInt32).toInt32) &&& (255 : Int32))).toUInt32.toUInt16.toUInt32.toInt32))] (.int (0 : Int32)) := A117_.keep K52q (ninS (Nat.ne_of_lt (Nat.lt_of_lt_of_le (Nat.lt_of_lt_of_le A22_.lt (Nat.le_trans (Nat.le_trans (Nat.le_of_eq W24.size.symm) (Nat.le_of_eq W33.size.symm)) E38.1)) (Nat.le_of_eq g46.symm))) nin0)
  have A119_ : Arv Z T71.heap b18 c18 .char (2 : Int32) [(.int (((p2 &&& (255 : Int32))).toUInt32.toUInt16.toUInt32.toInt32)), (.int ((((((p2).toUInt32 >>> ((8 : Int32) &&& 31).toUInt32).toInt32) &&& (255 : Int32))).toUInt32.toUInt16.toUInt32.toInt32))] (.int (0 : Int32)) := A118_.keep K71q (ninS (Nat.ne_of_lt (Nat.lt_of_lt_of_le (Nat.lt_of_lt_of_le A22_.lt (Nat.le_trans (Nat.le_of_eq W24.size.symm) (Nat.le_of_eq W33.size.symm))) (Nat.le_of_eq g38.symm))) nin0)
  have A120_ : Arv Z h97 b18 c18 .char (2 : Int32) [(.int (((p2 &&& (255 : Int32))).toUInt32.toUInt16.toUInt32.toInt32)), (.int ((((((p2).toUInt32 >>> ((8 : Int32) &&& 31).toUInt32).toInt32) &&& (255 : Int32))).toUInt32.toUInt16.toUInt32.toInt32))] (.int (0 : Int32)) := A119_.ext E97
  have A121_ : Arv Z h105 b18 c18 .char (2 : Int32) [(.int (((p2 &&& (255 : Int32))).toUInt32.toUInt16.toUInt32.toInt32)), (.int ((((((p2).toUInt32 >>> ((8 : Int32) &&& 31).toUInt32).toInt32) &&& (255 : Int32))).toUInt32.toUInt16.toUInt32.toInt32))] (.int (0 : Int32)) := A120_.ext E105
  obtain ⟨_, _, ⟨T111, L111, k111, n111⟩, -, X111, ⟨Lc111, hQ111, l111, y111, z111⟩, st111⟩ := X105.specialBack hx (y := (⟨"java/lang/String", "<init>", "([C)V"⟩ : MethodName)) rfl ho71 (mvT hZ71 (hw _ (List.mem_of_getElem? (i := 7) rfl))) (mvT hZ71 (hw _ (List.mem_of_getElem? (i := 8) rfl))) (mvT hZ71 (hw _ (List.mem_of_getElem? (i := 9) rfl))) (by decide) (StrChars.Road.backV (s := s.setVm T71.vm) (W := 3) hZ71 (own_ws hw) (kI := 4) (hw _ (List.mem_of_getElem? (i := 5) rfl)) (cs := ([(((p2 &&& (255 : Int32))).toUInt32.toUInt16.toUInt32.toInt32), ((((((p2).toUInt32 >>> ((8 : Int32) &&& 31).toUInt32).toInt32) &&& (255 : Int32))).toUInt32.toUInt16.toUInt32.toInt32)] : List Int32)) (bs := ([(((p2 &&& (255 : Int32))).toUInt32.toUInt16.toUInt32.toInt32), ((((((p2).toUInt32 >>> ((8 : Int32) &&& 31).toUInt32).toInt32) &&& (255 : Int32))).toUInt32.toUInt16.toUInt32.toInt32)] : List Int32).map (fun c => c.toInt8.toInt32)) (n := 2) g_b105 (Nat.le_trans (Nat.le_of_eq O115.1.symm) O115.2.1) A105 F110_ F109_ A121_ (O2.ext O115.2) P5 rfl rfl (by decide) (by decide) hp112 rfl (by decide) (by decide)) (g := (mkF m 81 #[.val (.int p1), .val (.int p2), .val (.int p3), .val (.ref b1), .val (.ref b18), .val (.ref b38), .unset, .unset, .unset, .unset, .unset, .unset] [(.ref b18), (.ref b105), (.ref b105), (.ref b97), (.ref b97)])) rfl (by rw [hml]; rfl) (Steps.refl _) (a := b105) (argsL := [(.ref b18)]) (rest := [(.ref b105), (.ref b97), (.ref b97)]) (lenOf pd0 rfl) rfl (by show 2 * 0 + _ ≤ _; exact Nat.le_of_eq rfl) (hb hby at_81) (fun _ _ => ⟨rfl, e105, (by decide : 12 + 1 ≤ _), (by decide : 97 + 2 ≤ _)⟩)
  dsimp only [Pt.U, Pt.locs, Pt.cells, Pt.slots] at X111 l111 y111 z111 st111 hQ111
  subst l111 y111 z111
  obtain ⟨rfl, N111q, K111q, E111q, C111q, b122, c122_, u122, g122, ne122, V122_, A122_⟩ := hQ111
  have N111 := Fr.app N71 N111q
  have sz_b105 : h0.size ≤ b105 := Nat.le_trans K98.1 (Nat.le_of_eq g105.symm)
  have K123 : Keep h0 T111.heap [] := K106.trans K111q (allS (Or.inr sz_b105) all0)
  have f125 : Safe Z ([] : List (String × Nat)) T71.vm h105 b105 := Safe.ext E105 C99 (Safe.new (Nat.le_of_eq g105.symm))
  have C124 : CHv Z ([] : List (String × Nat)) T71.vm T111.heap := CHv.keep K111q (sfS f125 sf0) C107
  have R126 : CHr Z ([] : List (String × Nat)) s.vm h0 T71.vm T111.heap := R108.trans (CHr.keep K111q (sfS f125 sf0) C107)
  have O128 : Old Z n0 T111.heap := O115.keep K111q (allS g_b105 all0)
  obtain ⟨T127, X127, e127, st127⟩ := getS2 X111 hx hZ71 ho71 (host := "") (Or.inl (hw _ (List.mem_of_getElem? (i := 33) rfl))) Via.refl rfl (hEN.1.ext O128.2) (g := (mkF m 84 #[.val (.int p1), .val (.int p2), .val (.int p3), .val (.ref b1), .val (.ref b18), .val (.ref b38), .unset, .unset, .unset, .unset, .unset, .unset] [(.ref b105), (.ref b97), (.ref b97)])) rfl (hb hby at_84)
  have E130_ : Exa Z h105 b97 "com/example/ratatoskr/ratatoskr/criteria/Filter" := A97.ext E105
  have E131_ : Exa Z T111.heap b97 "com/example/ratatoskr/ratatoskr/criteria/Filter" := E130_.keep K111q
  have F132_ : Fld Z h105 b97 "com/example/ratatoskr/ratatoskr/criteria/Filter" "comparison" "Lcom/example/ratatoskr/ratatoskr/criteria/Filter$Comparison;" .null := F101_.ext E105
  have F133_ : Fld Z T111.heap b97 "com/example/ratatoskr/ratatoskr/criteria/Filter" "comparison" "Lcom/example/ratatoskr/ratatoskr/criteria/Filter$Comparison;" .null := F132_.keep K111q (ninS (Nat.ne_of_lt (Nat.lt_of_lt_of_le A97.lt (Nat.le_of_eq g105.symm))) nin0)
  have g_b97 : n0 ≤ b97 := Nat.le_trans (Nat.le_trans (Nat.le_of_eq O113.1.symm) O113.2.1) (Nat.le_of_eq g97.symm)
  have F134_ : Fld Z h105 b97 "com/example/ratatoskr/ratatoskr/criteria/Filter" "left" "Lcom/example/ratatoskr/ratatoskr/criteria/Filter;" .null := F102_.ext E105
  have F135_ : Fld Z T111.heap b97 "com/example/ratatoskr/ratatoskr/criteria/Filter" "left" "Lcom/example/ratatoskr/ratatoskr/criteria/Filter;" .null := F134_.keep K111q (ninS (Nat.ne_of_lt (Nat.lt_of_lt_of_le A97.lt (Nat.le_of_eq g105.symm))) nin0)
  have F136_ : Fld Z h105 b97 "com/example/ratatoskr/ratatoskr/criteria/Filter" "junction" "Lcom/example/ratatoskr/ratatoskr/criteria/Filter$Junction;" .null := F103_.ext E105
  have F137_ : Fld Z T111.heap b97 "com/example/ratatoskr/ratatoskr/criteria/Filter" "junction" "Lcom/example/ratatoskr/ratatoskr/criteria/Filter$Junction;" .null := F136_.keep K111q (ninS (Nat.ne_of_lt (Nat.lt_of_lt_of_le A97.lt (Nat.le_of_eq g105.symm))) nin0)
  have F138_ : Fld Z h105 b97 "com/example/ratatoskr/ratatoskr/criteria/Filter" "right" "Lcom/example/ratatoskr/ratatoskr/criteria/Filter;" .null := F104_.ext E105
  have F139_ : Fld Z T111.heap b97 "com/example/ratatoskr/ratatoskr/criteria/Filter" "right" "Lcom/example/ratatoskr/ratatoskr/criteria/Filter;" .null := F138_.keep K111q (ninS (Nat.ne_of_lt (Nat.lt_of_lt_of_le A97.lt (Nat.le_of_eq g105.symm))) nin0)
  obtain ⟨_, _, ⟨T129, L129, k129, n129⟩, -, X129, hS129, hgr129, ⟨Lc129, hQ129, l129, y129, z129, CR129⟩, st129⟩ := X127.specialBackS hx (y := (⟨"com/example/ratatoskr/ratatoskr/criteria/Filter", "<init>", "(Ljava/lang/String;Lcom/example/ratatoskr/ratatoskr/criteria/ComparisonOperator;)V"⟩ : MethodName)) rfl ho71 (mvT hZ71 (hw _ (List.mem_of_getElem? (i := 36) rfl))) (mvT hZ71 (hw _ (List.mem_of_getElem? (i := 37) rfl))) (mvT hZ71 (hw _ (List.mem_of_getElem? (i := 38) rfl))) (by decide) (backOfSH (W := 1) (EL := ([] : List (String × Nat))) (s := s) (rm7 l Z a0 hw [] g_IS_NULL g_AND g_OR b97 b105 T111.heap n0 O128 hEN E131_ F133_ g_b97 F135_ F137_ F139_) hZ71 (hw _ (List.mem_of_getElem? (i := 38) rfl)) (hw _ (List.mem_of_getElem? (i := 3) rfl)) (by decide) (by decide) hEL C124) (g := (mkF m 87 #[.val (.int p1), .val (.int p2), .val (.int p3), .val (.ref b1), .val (.ref b18), .val (.ref b38), .unset, .unset, .unset, .unset, .unset, .unset] [(.ref g_IS_NULL), (.ref b105), (.ref b97), (.ref b97)])) rfl (by rw [hml]; rfl) (Steps.refl _) (a := b97) (argsL := [(.ref b105), (.ref g_IS_NULL)]) (rest := [(.ref b97)]) (lenOf pd6 rfl) rfl (by show 2 * 0 + _ ≤ _; exact Nat.le_of_eq rfl) (hb hby at_87) (fun _ _ => ⟨rfl, e127, (by decide : 13 + 5 ≤ _), (by decide : 99 + 75 ≤ _)⟩)
  dsimp only [Pt.U, Pt.locs, Pt.cells, Pt.slots] at X129 l129 y129 z129 st129 hQ129 CR129 hS129 hgr129
  subst l129 y129 z129
  obtain ⟨b140, rfl, N129q, K129q, w141, w142, w143, w144, w145, w146, w147, w148, w149, w150⟩ := hQ129
  have N129 := Fr.app N111 N129q
  have hk151' : _ ≤ T111.heap.size := (Nat.le_trans (Nat.le_trans (Nat.le_trans hk71 E97.1) E105.1) K111q.1)
  have hS129_ : s.Since T129.vm T129.heap.size := hS71_.trans hS129 (Nat.le_trans hk151' (show T111.heap.size ≤ T129.heap.size from (e127 ▸ hgr129)))
  have hZ129 : Z.Warmed39 T129.vm := State.Warmed39.trans (t := s.setVm T71.vm) hZ71 hS129.1
  have ho129 : T129.vm.findClass "com/example/ratatoskr/ratatoskr/criteria/FilterAndPinLaw" = some m.cls := by rw [hS129.1.alike.findClass]; exact ho71
  have X129_ : Stand p l e room_1 (s.setVm T129.vm) m #[(.int p1), (.int p2), (.int p3)] below meth c T129 _ _ _ := X129
  have hk129 : T129.heap.size ≤ T129.heap.size := Nat.le_refl _
  have sz_b97 : h0.size ≤ b97 := Nat.le_trans K94.1 (Nat.le_of_eq g97.symm)
  have K152 : Keep h0 T129.heap [] := K123.trans K129q (allS (Or.inr sz_b97) all0)
  have R154 : CHr Z ([] : List (String × Nat)) s.vm h0 T129.vm T129.heap := R126.trans CR129
  have pr155 : ∀ t, Steps p.tables e below (T129.setTop (mkF m 101 #[.val (.int p1), .val (.int p2), .val (.int p3), .val (.ref b1), .val (.ref b18), .val (.ref b38), .val (.ref b97), .val (.int (p3 &&& (3 : Int32))), .unset, .unset, .unset, .unset] [(.int ((p3 &&& (3 : Int32)) &&& (1 : Int32)))])) t → Steps p.tables e below (s₁.setTop (entryFrame m #[(.int p1), (.int p2), (.int p3)] maxLocals)) t := fun t k => pre0 t (by
    show Steps p.tables e below (s₁.setTop (mkF m 0 #[.val (.int p1), .val (.int p2), .val (.int p3), .unset, .unset, .unset, .unset, .unset, .unset, .unset, .unset, .unset] [])) _
    refine XS.iconst X0.here hx rfl (hb hby at_0) ?_
    show Steps p.tables e below (s₁.setTop (mkF m 1 #[.val (.int p1), .val (.int p2), .val (.int p3), .unset, .unset, .unset, .unset, .unset, .unset, .unset, .unset, .unset] [(.int (2 : Int32))])) _
    refine st1 _ ?_
    show Steps p.tables e below (T1.setTop (mkF m 3 #[.val (.int p1), .val (.int p2), .val (.int p3), .unset, .unset, .unset, .unset, .unset, .unset, .unset, .unset, .unset] [(.ref b1)])) _
    refine XS.dup X1.here hx rfl (hb hby at_3) rfl rfl ?_
    show Steps p.tables e below (T1.setTop (mkF m 4 #[.val (.int p1), .val (.int p2), .val (.int p3), .unset, .unset, .unset, .unset, .unset, .unset, .unset, .unset, .unset] [(.ref b1), (.ref b1)])) _
    refine XS.iconst X1.here hx rfl (hb hby at_4) ?_
    show Steps p.tables e below (T1.setTop (mkF m 5 #[.val (.int p1), .val (.int p2), .val (.int p3), .unset, .unset, .unset, .unset, .unset, .unset, .unset, .unset, .unset] [(.int (0 : Int32)), (.ref b1), (.ref b1)])) _
    refine XS.iloadN X1.here hx rfl (hb hby at_5) rfl ?_
    show Steps p.tables e below (T1.setTop (mkF m 6 #[.val (.int p1), .val (.int p2), .val (.int p3), .unset, .unset, .unset, .unset, .unset, .unset, .unset, .unset, .unset] [(.int p1), (.int (0 : Int32)), (.ref b1), (.ref b1)])) _
    refine XS.sipush X1.here hx rfl (hb hby at_6) ?_
    show Steps p.tables e below (T1.setTop (mkF m 9 #[.val (.int p1), .val (.int p2), .val (.int p3), .unset, .unset, .unset, .unset, .unset, .unset, .unset, .unset, .unset] [(.int (255 : Int32)), (.int p1), (.int (0 : Int32)), (.ref b1), (.ref b1)])) _
    refine XS.iand X1.here hx rfl (hb hby at_9) rfl ?_
    show Steps p.tables e below (T1.setTop (mkF m 10 #[.val (.int p1), .val (.int p2), .val (.int p3), .unset, .unset, .unset, .unset, .unset, .unset, .unset, .unset, .unset] [(.int (p1 &&& (255 : Int32))), (.int (0 : Int32)), (.ref b1), (.ref b1)])) _
    refine XS.i2c X1.here hx rfl (hb hby at_10) rfl ?_
    show Steps p.tables e below (T1.setTop (mkF m 11 #[.val (.int p1), .val (.int p2), .val (.int p3), .unset, .unset, .unset, .unset, .unset, .unset, .unset, .unset, .unset] [(.int (((p1 &&& (255 : Int32))).toUInt32.toUInt16.toUInt32.toInt32)), (.int (0 : Int32)), (.ref b1), (.ref b1)])) _
    refine st7 _ ?_
    show Steps p.tables e below (T7.setTop (mkF m 12 #[.val (.int p1), .val (.int p2), .val (.int p3), .unset, .unset, .unset, .unset, .unset, .unset, .unset, .unset, .unset] [(.ref b1)])) _
    refine XS.dup X7.here hx rfl (hb hby at_12) rfl rfl ?_
    show Steps p.tables e below (T7.setTop (mkF m 13 #[.val (.int p1), .val (.int p2), .val (.int p3), .unset, .unset, .unset, .unset, .unset, .unset, .unset, .unset, .unset] [(.ref b1), (.ref b1)])) _
    refine XS.iconst X7.here hx rfl (hb hby at_13) ?_
    show Steps p.tables e below (T7.setTop (mkF m 14 #[.val (.int p1), .val (.int p2), .val (.int p3), .unset, .unset, .unset, .unset, .unset, .unset, .unset, .unset, .unset] [(.int (1 : Int32)), (.ref b1), (.ref b1)])) _
    refine XS.iloadN X7.here hx rfl (hb hby at_14) rfl ?_
    show Steps p.tables e below (T7.setTop (mkF m 15 #[.val (.int p1), .val (.int p2), .val (.int p3), .unset, .unset, .unset, .unset, .unset, .unset, .unset, .unset, .unset] [(.int p1), (.int (1 : Int32)), (.ref b1), (.ref b1)])) _
    refine XS.bipush X7.here hx rfl (hb hby at_15) ?_
    show Steps p.tables e below (T7.setTop (mkF m 17 #[.val (.int p1), .val (.int p2), .val (.int p3), .unset, .unset, .unset, .unset, .unset, .unset, .unset, .unset, .unset] [(.int (8 : Int32)), (.int p1), (.int (1 : Int32)), (.ref b1), (.ref b1)])) _
    refine XS.iushr X7.here hx rfl (hb hby at_17) rfl ?_
    show Steps p.tables e below (T7.setTop (mkF m 18 #[.val (.int p1), .val (.int p2), .val (.int p3), .unset, .unset, .unset, .unset, .unset, .unset, .unset, .unset, .unset] [(.int (((p1).toUInt32 >>> ((8 : Int32) &&& 31).toUInt32).toInt32)), (.int (1 : Int32)), (.ref b1), (.ref b1)])) _
    refine XS.sipush X7.here hx rfl (hb hby at_18) ?_
    show Steps p.tables e below (T7.setTop (mkF m 21 #[.val (.int p1), .val (.int p2), .val (.int p3), .unset, .unset, .unset, .unset, .unset, .unset, .unset, .unset, .unset] [(.int (255 : Int32)), (.int (((p1).toUInt32 >>> ((8 : Int32) &&& 31).toUInt32).toInt32)), (.int (1 : Int32)), (.ref b1), (.ref b1)])) _
    refine XS.iand X7.here hx rfl (hb hby at_21) rfl ?_
    show Steps p.tables e below (T7.setTop (mkF m 22 #[.val (.int p1), .val (.int p2), .val (.int p3), .unset, .unset, .unset, .unset, .unset, .unset, .unset, .unset, .unset] [(.int ((((p1).toUInt32 >>> ((8 : Int32) &&& 31).toUInt32).toInt32) &&& (255 : Int32))), (.int (1 : Int32)), (.ref b1), (.ref b1)])) _
    refine XS.i2c X7.here hx rfl (hb hby at_22) rfl ?_
    show Steps p.tables e below (T7.setTop (mkF m 23 #[.val (.int p1), .val (.int p2), .val (.int p3), .unset, .unset, .unset, .unset, .unset, .unset, .unset, .unset, .unset] [(.int ((((((p1).toUInt32 >>> ((8 : Int32) &&& 31).toUInt32).toInt32) &&& (255 : Int32))).toUInt32.toUInt16.toUInt32.toInt32)), (.int (1 : Int32)), (.ref b1), (.ref b1)])) _
    refine st13 _ ?_
    show Steps p.tables e below (T13.setTop (mkF m 24 #[.val (.int p1), .val (.int p2), .val (.int p3), .unset, .unset, .unset, .unset, .unset, .unset, .unset, .unset, .unset] [(.ref b1)])) _
    refine XS.astoreN X13.here hx rfl (hb hby at_24) rfl rfl (l' := #[.val (.int p1), .val (.int p2), .val (.int p3), .val (.ref b1), .unset, .unset, .unset, .unset, .unset, .unset, .unset, .unset]) rfl ?_
    show Steps p.tables e below (T13.setTop (mkF m 25 #[.val (.int p1), .val (.int p2), .val (.int p3), .val (.ref b1), .unset, .unset, .unset, .unset, .unset, .unset, .unset, .unset] [])) _
    refine XS.iconst X13.here hx rfl (hb hby at_25) ?_
    show Steps p.tables e below (T13.setTop (mkF m 26 #[.val (.int p1), .val (.int p2), .val (.int p3), .val (.ref b1), .unset, .unset, .unset, .unset, .unset, .unset, .unset, .unset] [(.int (2 : Int32))])) _
    refine st18 _ ?_
    show Steps p.tables e below (T18.setTop (mkF m 28 #[.val (.int p1), .val (.int p2), .val (.int p3), .val (.ref b1), .unset, .unset, .unset, .unset, .unset, .unset, .unset, .unset] [(.ref b18)])) _
    refine XS.dup X18.here hx rfl (hb hby at_28) rfl rfl ?_
    show Steps p.tables e below (T18.setTop (mkF m 29 #[.val (.int p1), .val (.int p2), .val (.int p3), .val (.ref b1), .unset, .unset, .unset, .unset, .unset, .unset, .unset, .unset] [(.ref b18), (.ref b18)])) _
    refine XS.iconst X18.here hx rfl (hb hby at_29) ?_
    show Steps p.tables e below (T18.setTop (mkF m 30 #[.val (.int p1), .val (.int p2), .val (.int p3), .val (.ref b1), .unset, .unset, .unset, .unset, .unset, .unset, .unset, .unset] [(.int (0 : Int32)), (.ref b18), (.ref b18)])) _
    refine XS.iloadN X18.here hx rfl (hb hby at_30) rfl ?_
    show Steps p.tables e below (T18.setTop (mkF m 31 #[.val (.int p1), .val (.int p2), .val (.int p3), .val (.ref b1), .unset, .unset, .unset, .unset, .unset, .unset, .unset, .unset] [(.int p2), (.int (0 : Int32)), (.ref b18), (.ref b18)])) _
    refine XS.sipush X18.here hx rfl (hb hby at_31) ?_
    show Steps p.tables e below (T18.setTop (mkF m 34 #[.val (.int p1), .val (.int p2), .val (.int p3), .val (.ref b1), .unset, .unset, .unset, .unset, .unset, .unset, .unset, .unset] [(.int (255 : Int32)), (.int p2), (.int (0 : Int32)), (.ref b18), (.ref b18)])) _
    refine XS.iand X18.here hx rfl (hb hby at_34) rfl ?_
    show Steps p.tables e below (T18.setTop (mkF m 35 #[.val (.int p1), .val (.int p2), .val (.int p3), .val (.ref b1), .unset, .unset, .unset, .unset, .unset, .unset, .unset, .unset] [(.int (p2 &&& (255 : Int32))), (.int (0 : Int32)), (.ref b18), (.ref b18)])) _
    refine XS.i2c X18.here hx rfl (hb hby at_35) rfl ?_
    show Steps p.tables e below (T18.setTop (mkF m 36 #[.val (.int p1), .val (.int p2), .val (.int p3), .val (.ref b1), .unset, .unset, .unset, .unset, .unset, .unset, .unset, .unset] [(.int (((p2 &&& (255 : Int32))).toUInt32.toUInt16.toUInt32.toInt32)), (.int (0 : Int32)), (.ref b18), (.ref b18)])) _
    refine st24 _ ?_
    show Steps p.tables e below (T24.setTop (mkF m 37 #[.val (.int p1), .val (.int p2), .val (.int p3), .val (.ref b1), .unset, .unset, .unset, .unset, .unset, .unset, .unset, .unset] [(.ref b18)])) _
    refine XS.dup X24.here hx rfl (hb hby at_37) rfl rfl ?_
    show Steps p.tables e below (T24.setTop (mkF m 38 #[.val (.int p1), .val (.int p2), .val (.int p3), .val (.ref b1), .unset, .unset, .unset, .unset, .unset, .unset, .unset, .unset] [(.ref b18), (.ref b18)])) _
    refine XS.iconst X24.here hx rfl (hb hby at_38) ?_
    show Steps p.tables e below (T24.setTop (mkF m 39 #[.val (.int p1), .val (.int p2), .val (.int p3), .val (.ref b1), .unset, .unset, .unset, .unset, .unset, .unset, .unset, .unset] [(.int (1 : Int32)), (.ref b18), (.ref b18)])) _
    refine XS.iloadN X24.here hx rfl (hb hby at_39) rfl ?_
    show Steps p.tables e below (T24.setTop (mkF m 40 #[.val (.int p1), .val (.int p2), .val (.int p3), .val (.ref b1), .unset, .unset, .unset, .unset, .unset, .unset, .unset, .unset] [(.int p2), (.int (1 : Int32)), (.ref b18), (.ref b18)])) _
    refine XS.bipush X24.here hx rfl (hb hby at_40) ?_
    show Steps p.tables e below (T24.setTop (mkF m 42 #[.val (.int p1), .val (.int p2), .val (.int p3), .val (.ref b1), .unset, .unset, .unset, .unset, .unset, .unset, .unset, .unset] [(.int (8 : Int32)), (.int p2), (.int (1 : Int32)), (.ref b18), (.ref b18)])) _
    refine XS.iushr X24.here hx rfl (hb hby at_42) rfl ?_
    show Steps p.tables e below (T24.setTop (mkF m 43 #[.val (.int p1), .val (.int p2), .val (.int p3), .val (.ref b1), .unset, .unset, .unset, .unset, .unset, .unset, .unset, .unset] [(.int (((p2).toUInt32 >>> ((8 : Int32) &&& 31).toUInt32).toInt32)), (.int (1 : Int32)), (.ref b18), (.ref b18)])) _
    refine XS.sipush X24.here hx rfl (hb hby at_43) ?_
    show Steps p.tables e below (T24.setTop (mkF m 46 #[.val (.int p1), .val (.int p2), .val (.int p3), .val (.ref b1), .unset, .unset, .unset, .unset, .unset, .unset, .unset, .unset] [(.int (255 : Int32)), (.int (((p2).toUInt32 >>> ((8 : Int32) &&& 31).toUInt32).toInt32)), (.int (1 : Int32)), (.ref b18), (.ref b18)])) _
    refine XS.iand X24.here hx rfl (hb hby at_46) rfl ?_
    show Steps p.tables e below (T24.setTop (mkF m 47 #[.val (.int p1), .val (.int p2), .val (.int p3), .val (.ref b1), .unset, .unset, .unset, .unset, .unset, .unset, .unset, .unset] [(.int ((((p2).toUInt32 >>> ((8 : Int32) &&& 31).toUInt32).toInt32) &&& (255 : Int32))), (.int (1 : Int32)), (.ref b18), (.ref b18)])) _
    refine XS.i2c X24.here hx rfl (hb hby at_47) rfl ?_
    show Steps p.tables e below (T24.setTop (mkF m 48 #[.val (.int p1), .val (.int p2), .val (.int p3), .val (.ref b1), .unset, .unset, .unset, .unset, .unset, .unset, .unset, .unset] [(.int ((((((p2).toUInt32 >>> ((8 : Int32) &&& 31).toUInt32).toInt32) &&& (255 : Int32))).toUInt32.toUInt16.toUInt32.toInt32)), (.int (1 : Int32)), (.ref b18), (.ref b18)])) _
    refine st33 _ ?_
    show Steps p.tables e below (T33.setTop (mkF m 49 #[.val (.int p1), .val (.int p2), .val (.int p3), .val (.ref b1), .unset, .unset, .unset, .unset, .unset, .unset, .unset, .unset] [(.ref b18)])) _
    refine XS.astore X33.here hx rfl (hb hby at_49) rfl rfl (l' := #[.val (.int p1), .val (.int p2), .val (.int p3), .val (.ref b1), .val (.ref b18), .unset, .unset, .unset, .unset, .unset, .unset, .unset]) rfl ?_
    show Steps p.tables e below (T33.setTop (mkF m 51 #[.val (.int p1), .val (.int p2), .val (.int p3), .val (.ref b1), .val (.ref b18), .unset, .unset, .unset, .unset, .unset, .unset, .unset] [])) _
    refine st38 _ ?_
    show Steps p.tables e below (T38.setTop (mkF m 54 #[.val (.int p1), .val (.int p2), .val (.int p3), .val (.ref b1), .val (.ref b18), .unset, .unset, .unset, .unset, .unset, .unset, .unset] [(.ref b38)])) _
    refine XS.dup X38.here hx rfl (hb hby at_54) rfl rfl ?_
    show Steps p.tables e below (T38.setTop (mkF m 55 #[.val (.int p1), .val (.int p2), .val (.int p3), .val (.ref b1), .val (.ref b18), .unset, .unset, .unset, .unset, .unset, .unset, .unset] [(.ref b38), (.ref b38)])) _
    refine st46 _ ?_
    show Steps p.tables e below (T46.setTop (mkF m 58 #[.val (.int p1), .val (.int p2), .val (.int p3), .val (.ref b1), .val (.ref b18), .unset, .unset, .unset, .unset, .unset, .unset, .unset] [(.ref b46), (.ref b38), (.ref b38)])) _
    refine XS.dup X46.here hx rfl (hb hby at_58) rfl rfl ?_
    show Steps p.tables e below (T46.setTop (mkF m 59 #[.val (.int p1), .val (.int p2), .val (.int p3), .val (.ref b1), .val (.ref b18), .unset, .unset, .unset, .unset, .unset, .unset, .unset] [(.ref b46), (.ref b46), (.ref b38), (.ref b38)])) _
    refine XS.aloadN X46.here hx rfl (hb hby at_59) rfl rfl ?_
    show Steps p.tables e below (T46.setTop (mkF m 60 #[.val (.int p1), .val (.int p2), .val (.int p3), .val (.ref b1), .val (.ref b18), .unset, .unset, .unset, .unset, .unset, .unset, .unset] [(.ref b1), (.ref b46), (.ref b46), (.ref b38), (.ref b38)])) _
    refine st52.trans ?_
    show Steps p.tables e below (T52.setTop (mkF m 63 #[.val (.int p1), .val (.int p2), .val (.int p3), .val (.ref b1), .val (.ref b18), .unset, .unset, .unset, .unset, .unset, .unset, .unset] [(.ref b46), (.ref b38), (.ref b38)])) _
    refine st69 _ ?_
    show Steps p.tables e below (T69.setTop (mkF m 66 #[.val (.int p1), .val (.int p2), .val (.int p3), .val (.ref b1), .val (.ref b18), .unset, .unset, .unset, .unset, .unset, .unset, .unset] [(.ref g_IS_NULL), (.ref b46), (.ref b38), (.ref b38)])) _
    refine st71.trans ?_
    show Steps p.tables e below (T71.setTop (mkF m 69 #[.val (.int p1), .val (.int p2), .val (.int p3), .val (.ref b1), .val (.ref b18), .unset, .unset, .unset, .unset, .unset, .unset, .unset] [(.ref b38)])) _
    refine XS.astore X71_.here hx rfl (hb hby at_69) rfl rfl (l' := #[.val (.int p1), .val (.int p2), .val (.int p3), .val (.ref b1), .val (.ref b18), .val (.ref b38), .unset, .unset, .unset, .unset, .unset, .unset]) rfl ?_
    show Steps p.tables e below (T71.setTop (mkF m 71 #[.val (.int p1), .val (.int p2), .val (.int p3), .val (.ref b1), .val (.ref b18), .val (.ref b38), .unset, .unset, .unset, .unset, .unset, .unset] [])) _
    refine st97 _ ?_
    show Steps p.tables e below (T97.setTop (mkF m 74 #[.val (.int p1), .val (.int p2), .val (.int p3), .val (.ref b1), .val (.ref b18), .val (.ref b38), .unset, .unset, .unset, .unset, .unset, .unset] [(.ref b97)])) _
    refine XS.dup X97.here hx rfl (hb hby at_74) rfl rfl ?_
    show Steps p.tables e below (T97.setTop (mkF m 75 #[.val (.int p1), .val (.int p2), .val (.int p3), .val (.ref b1), .val (.ref b18), .val (.ref b38), .unset, .unset, .unset, .unset, .unset, .unset] [(.ref b97), (.ref b97)])) _
    refine st105 _ ?_
    show Steps p.tables e below (T105.setTop (mkF m 78 #[.val (.int p1), .val (.int p2), .val (.int p3), .val (.ref b1), .val (.ref b18), .val (.ref b38), .unset, .unset, .unset, .unset, .unset, .unset] [(.ref b105), (.ref b97), (.ref b97)])) _
    refine XS.dup X105.here hx rfl (hb hby at_78) rfl rfl ?_
    show Steps p.tables e below (T105.setTop (mkF m 79 #[.val (.int p1), .val (.int p2), .val (.int p3), .val (.ref b1), .val (.ref b18), .val (.ref b38), .unset, .unset, .unset, .unset, .unset, .unset] [(.ref b105), (.ref b105), (.ref b97), (.ref b97)])) _
    refine XS.aload X105.here hx rfl (hb hby at_79) rfl rfl ?_
    show Steps p.tables e below (T105.setTop (mkF m 81 #[.val (.int p1), .val (.int p2), .val (.int p3), .val (.ref b1), .val (.ref b18), .val (.ref b38), .unset, .unset, .unset, .unset, .unset, .unset] [(.ref b18), (.ref b105), (.ref b105), (.ref b97), (.ref b97)])) _
    refine st111.trans ?_
    show Steps p.tables e below (T111.setTop (mkF m 84 #[.val (.int p1), .val (.int p2), .val (.int p3), .val (.ref b1), .val (.ref b18), .val (.ref b38), .unset, .unset, .unset, .unset, .unset, .unset] [(.ref b105), (.ref b97), (.ref b97)])) _
    refine st127 _ ?_
    show Steps p.tables e below (T127.setTop (mkF m 87 #[.val (.int p1), .val (.int p2), .val (.int p3), .val (.ref b1), .val (.ref b18), .val (.ref b38), .unset, .unset, .unset, .unset, .unset, .unset] [(.ref g_IS_NULL), (.ref b105), (.ref b97), (.ref b97)])) _
    refine st129.trans ?_
    show Steps p.tables e below (T129.setTop (mkF m 90 #[.val (.int p1), .val (.int p2), .val (.int p3), .val (.ref b1), .val (.ref b18), .val (.ref b38), .unset, .unset, .unset, .unset, .unset, .unset] [(.ref b97)])) _
    refine XS.astore X129_.here hx rfl (hb hby at_90) rfl rfl (l' := #[.val (.int p1), .val (.int p2), .val (.int p3), .val (.ref b1), .val (.ref b18), .val (.ref b38), .val (.ref b97), .unset, .unset, .unset, .unset, .unset]) rfl ?_
    show Steps p.tables e below (T129.setTop (mkF m 92 #[.val (.int p1), .val (.int p2), .val (.int p3), .val (.ref b1), .val (.ref b18), .val (.ref b38), .val (.ref b97), .unset, .unset, .unset, .unset, .unset] [])) _
    refine XS.iloadN X129_.here hx rfl (hb hby at_92) rfl ?_
    show Steps p.tables e below (T129.setTop (mkF m 93 #[.val (.int p1), .val (.int p2), .val (.int p3), .val (.ref b1), .val (.ref b18), .val (.ref b38), .val (.ref b97), .unset, .unset, .unset, .unset, .unset] [(.int p3)])) _
    refine XS.iconst X129_.here hx rfl (hb hby at_93) ?_
    show Steps p.tables e below (T129.setTop (mkF m 94 #[.val (.int p1), .val (.int p2), .val (.int p3), .val (.ref b1), .val (.ref b18), .val (.ref b38), .val (.ref b97), .unset, .unset, .unset, .unset, .unset] [(.int (3 : Int32)), (.int p3)])) _
    refine XS.iand X129_.here hx rfl (hb hby at_94) rfl ?_
    show Steps p.tables e below (T129.setTop (mkF m 95 #[.val (.int p1), .val (.int p2), .val (.int p3), .val (.ref b1), .val (.ref b18), .val (.ref b38), .val (.ref b97), .unset, .unset, .unset, .unset, .unset] [(.int (p3 &&& (3 : Int32)))])) _
    refine XS.istore X129_.here hx rfl (hb hby at_95) rfl (l' := #[.val (.int p1), .val (.int p2), .val (.int p3), .val (.ref b1), .val (.ref b18), .val (.ref b38), .val (.ref b97), .val (.int (p3 &&& (3 : Int32))), .unset, .unset, .unset, .unset]) rfl ?_
    show Steps p.tables e below (T129.setTop (mkF m 97 #[.val (.int p1), .val (.int p2), .val (.int p3), .val (.ref b1), .val (.ref b18), .val (.ref b38), .val (.ref b97), .val (.int (p3 &&& (3 : Int32))), .unset, .unset, .unset, .unset] [])) _
    refine XS.iload X129_.here hx rfl (hb hby at_97) rfl ?_
    show Steps p.tables e below (T129.setTop (mkF m 99 #[.val (.int p1), .val (.int p2), .val (.int p3), .val (.ref b1), .val (.ref b18), .val (.ref b38), .val (.ref b97), .val (.int (p3 &&& (3 : Int32))), .unset, .unset, .unset, .unset] [(.int (p3 &&& (3 : Int32)))])) _
    refine XS.iconst X129_.here hx rfl (hb hby at_99) ?_
    show Steps p.tables e below (T129.setTop (mkF m 100 #[.val (.int p1), .val (.int p2), .val (.int p3), .val (.ref b1), .val (.ref b18), .val (.ref b38), .val (.ref b97), .val (.int (p3 &&& (3 : Int32))), .unset, .unset, .unset, .unset] [(.int (1 : Int32)), (.int (p3 &&& (3 : Int32)))])) _
    refine XS.iand X129_.here hx rfl (hb hby at_100) rfl ?_
    exact k)
  by_cases hc156 : ((p3 &&& (3 : Int32)) &&& (1 : Int32)) = (0 : Int32)
  ·
    skip
    have pr157 : ∀ t, Steps p.tables e below (T129.setTop (mkF m 133 #[.val (.int p1), .val (.int p2), .val (.int p3), .val (.ref b1), .val (.ref b18), .val (.ref b38), .val (.ref b97), .val (.int (p3 &&& (3 : Int32))), .val (.int (0 : Int32)), .val (.ref b38), .unset, .unset] [(.int (2 : Int32)), (.int (p3 &&& (3 : Int32)))])) t → Steps p.tables e below (s₁.setTop (entryFrame m #[(.int p1), (.int p2), (.int p3)] maxLocals)) t := fun t k => pr155 t (by
      show Steps p.tables e below (T129.setTop (mkF m 101 #[.val (.int p1), .val (.int p2), .val (.int p3), .val (.ref b1), .val (.ref b18), .val (.ref b38), .val (.ref b97), .val (.int (p3 &&& (3 : Int32))), .unset, .unset, .unset, .unset] [(.int ((p3 &&& (3 : Int32)) &&& (1 : Int32)))])) _
      refine XS.ifYes X129_.here hx rfl (pc0 := 101) (pc' := 108) rfl (hb hby at_101) rfl (XT.i0_eq_t (hc156 : ((p3 &&& (3 : Int32)) &&& (1 : Int32)) = (0 : Int32))) (by decide) (by decide) ?_
      show Steps p.tables e below (T129.setTop (mkF m 108 #[.val (.int p1), .val (.int p2), .val (.int p3), .val (.ref b1), .val (.ref b18), .val (.ref b38), .val (.ref b97), .val (.int (p3 &&& (3 : Int32))), .unset, .unset, .unset, .unset] [])) _
      refine XS.iconst X129_.here hx rfl (hb hby at_108) ?_
      show Steps p.tables e below (T129.setTop (mkF m 109 #[.val (.int p1), .val (.int p2), .val (.int p3), .val (.ref b1), .val (.ref b18), .val (.ref b38), .val (.ref b97), .val (.int (p3 &&& (3 : Int32))), .unset, .unset, .unset, .unset] [(.int (0 : Int32))])) _
      refine XS.istore X129_.here hx rfl (hb hby at_109) rfl (l' := #[.val (.int p1), .val (.int p2), .val (.int p3), .val (.ref b1), .val (.ref b18), .val (.ref b38), .val (.ref b97), .val (.int (p3 &&& (3 : Int32))), .val (.int (0 : Int32)), .unset, .unset, .unset]) rfl ?_
      show Steps p.tables e below (T129.setTop (mkF m 111 #[.val (.int p1), .val (.int p2), .val (.int p3), .val (.ref b1), .val (.ref b18), .val (.ref b38), .val (.ref b97), .val (.int (p3 &&& (3 : Int32))), .val (.int (0 : Int32)), .unset, .unset, .unset] [])) _
      refine XS.iload X129_.here hx rfl (hb hby at_111) rfl ?_
      show Steps p.tables e below (T129.setTop (mkF m 113 #[.val (.int p1), .val (.int p2), .val (.int p3), .val (.ref b1), .val (.ref b18), .val (.ref b38), .val (.ref b97), .val (.int (p3 &&& (3 : Int32))), .val (.int (0 : Int32)), .unset, .unset, .unset] [(.int (0 : Int32))])) _
      refine XS.ifYes X129_.here hx rfl (pc0 := 113) (pc' := 126) rfl (hb hby at_113) rfl (XT.i0_eq_t ((by decide) : (0 : Int32) = (0 : Int32))) (by decide) (by decide) ?_
      show Steps p.tables e below (T129.setTop (mkF m 126 #[.val (.int p1), .val (.int p2), .val (.int p3), .val (.ref b1), .val (.ref b18), .val (.ref b38), .val (.ref b97), .val (.int (p3 &&& (3 : Int32))), .val (.int (0 : Int32)), .unset, .unset, .unset] [])) _
      refine XS.aload X129_.here hx rfl (hb hby at_126) rfl rfl ?_
      show Steps p.tables e below (T129.setTop (mkF m 128 #[.val (.int p1), .val (.int p2), .val (.int p3), .val (.ref b1), .val (.ref b18), .val (.ref b38), .val (.ref b97), .val (.int (p3 &&& (3 : Int32))), .val (.int (0 : Int32)), .unset, .unset, .unset] [(.ref b38)])) _
      refine XS.astore X129_.here hx rfl (hb hby at_128) rfl rfl (l' := #[.val (.int p1), .val (.int p2), .val (.int p3), .val (.ref b1), .val (.ref b18), .val (.ref b38), .val (.ref b97), .val (.int (p3 &&& (3 : Int32))), .val (.int (0 : Int32)), .val (.ref b38), .unset, .unset]) rfl ?_
      show Steps p.tables e below (T129.setTop (mkF m 130 #[.val (.int p1), .val (.int p2), .val (.int p3), .val (.ref b1), .val (.ref b18), .val (.ref b38), .val (.ref b97), .val (.int (p3 &&& (3 : Int32))), .val (.int (0 : Int32)), .val (.ref b38), .unset, .unset] [])) _
      refine XS.iload X129_.here hx rfl (hb hby at_130) rfl ?_
      show Steps p.tables e below (T129.setTop (mkF m 132 #[.val (.int p1), .val (.int p2), .val (.int p3), .val (.ref b1), .val (.ref b18), .val (.ref b38), .val (.ref b97), .val (.int (p3 &&& (3 : Int32))), .val (.int (0 : Int32)), .val (.ref b38), .unset, .unset] [(.int (p3 &&& (3 : Int32)))])) _
      refine XS.iconst X129_.here hx rfl (hb hby at_132) ?_
      exact k)
    by_cases hc158 : (p3 &&& (3 : Int32)) = (2 : Int32)
    ·
      skip
      have E160_ : Exa Z T71.heap b38 "com/example/ratatoskr/ratatoskr/criteria/Filter" := E73_.keep K71q
      have E161_ : Exa Z h97 b38 "com/example/ratatoskr/ratatoskr/criteria/Filter" := E160_.ext E97
      have E162_ : Exa Z h105 b38 "com/example/ratatoskr/ratatoskr/criteria/Filter" := E161_.ext E105
      have E163_ : Exa Z T111.heap b38 "com/example/ratatoskr/ratatoskr/criteria/Filter" := E162_.keep K111q
      have E164_ : Exa Z T129.heap b38 "com/example/ratatoskr/ratatoskr/criteria/Filter" := E163_.keep K129q
      have O165 : Old Z n0 T129.heap := O128.keep K129q (allS g_b97 all0)
      obtain ⟨cq159, kq159, q159a, q159b, q159c⟩ := isOf hZ129 rfl E164_
      obtain ⟨_, _, ⟨T159, L159, k159, n159⟩, -, X159, hS159, hgr159, ⟨Lc159, hQ159, l159, y159, z159, CR159⟩, st159⟩ := X129_.virtualBackS hx (y := (⟨"com/example/ratatoskr/ratatoskr/criteria/Filter", "and", "(Lcom/example/ratatoskr/ratatoskr/criteria/Filter;)Lcom/example/ratatoskr/ratatoskr/criteria/Filter;"⟩ : MethodName)) (z := (⟨"com/example/ratatoskr/ratatoskr/criteria/Filter", "and", "(Lcom/example/ratatoskr/ratatoskr/criteria/Filter;)Lcom/example/ratatoskr/ratatoskr/criteria/Filter;"⟩ : MethodName)) ho129 (mvT hZ129 (hw _ (List.mem_of_getElem? (i := 84) rfl))) (mvT hZ129 (hw _ (List.mem_of_getElem? (i := 85) rfl))) (notFace_of_selects (args := #[]) (mvT hZ129 (hw _ (List.mem_of_getElem? (i := 87) rfl)))) (mvT hZ129 (hw _ (List.mem_of_getElem? (i := 87) rfl))) (mvT hZ129 (hw _ (List.mem_of_getElem? (i := 86) rfl))) (by decide) (backOfSH (W := 0) (EL := ([] : List (String × Nat))) (s := s) (rm9 l Z a0 hw [] g_IS_NULL g_AND g_OR b38 T129.heap n0 O165 hEN E164_) hZ129 (hw _ (List.mem_of_getElem? (i := 88) rfl)) (hw _ (List.mem_of_getElem? (i := 3) rfl)) (by decide) (by decide) hEL CR129.1) q159a q159c (g := (mkF m 149 #[.val (.int p1), .val (.int p2), .val (.int p3), .val (.ref b1), .val (.ref b18), .val (.ref b38), .val (.ref b97), .val (.int (p3 &&& (3 : Int32))), .val (.int (0 : Int32)), .val (.ref b38), .val (.ref b38), .unset] [(.ref b38), (.ref b38)])) rfl (by rw [hml]; rfl) (Steps.refl _) (argsL := [(.ref b38)]) (rest := []) (lenOf pd8 rfl) rfl (by show 2 * 0 + _ ≤ _; exact Nat.le_of_eq rfl) (hb hby at_149) (fun _ _ => ⟨rfl, rfl, (by decide : 18 + 3 ≤ _), (by decide : 174 + 32 ≤ _)⟩)
      dsimp only [Pt.U, Pt.locs, Pt.cells, Pt.slots] at X159 l159 y159 z159 st159 hQ159 CR159 hS159 hgr159
      subst l159 y159 z159
      obtain ⟨b166, rfl, N159q, K159q, w167, w168, w169, w170, w171, w172⟩ := hQ159
      have N159 := Fr.app N129 N159q
      have hS159_ : s.Since T159.vm T159.heap.size := hS129_.trans hS159 (Nat.le_trans hk129 (show T129.heap.size ≤ T159.heap.size from hgr159))
      have hZ159 : Z.Warmed39 T159.vm := State.Warmed39.trans (t := s.setVm T129.vm) hZ129 hS159.1
      have ho159 : T159.vm.findClass "com/example/ratatoskr/ratatoskr/criteria/FilterAndPinLaw" = some m.cls := by rw [hS159.1.alike.findClass]; exact ho129
      have X159_ : Stand p l e room_1 (s.setVm T159.vm) m #[(.int p1), (.int p2), (.int p3)] below meth c T159 _ _ _ := X159
      have hk159 : T159.heap.size ≤ T159.heap.size := Nat.le_refl _
      have K173 : Keep h0 T159.heap [] := K152.trans K159q (fun x q => nomatch q)
      have R175 : CHr Z ([] : List (String × Nat)) s.vm h0 T159.vm T159.heap := R154.trans CR159
      have O177 : Old Z n0 T159.heap := O165.keep K159q all0
      obtain ⟨cq176, kq176, q176a, q176b, q176c⟩ := isOf hZ159 rfl w168
      obtain ⟨_, _, ⟨T176, L176, k176, n176⟩, -, X176, ⟨Lc176, hQ176, l176, y176, z176⟩, st176⟩ := X159_.virtualBack hx (y := (⟨"com/example/ratatoskr/ratatoskr/criteria/Filter", "comparison", "()Lcom/example/ratatoskr/ratatoskr/criteria/Filter$Comparison;"⟩ : MethodName)) (z := (⟨"com/example/ratatoskr/ratatoskr/criteria/Filter", "comparison", "()Lcom/example/ratatoskr/ratatoskr/criteria/Filter$Comparison;"⟩ : MethodName)) ho159 (mvT hZ159 (hw _ (List.mem_of_getElem? (i := 99) rfl))) (mvT hZ159 (hw _ (List.mem_of_getElem? (i := 100) rfl))) (notFace_of_selects (args := #[]) (mvT hZ159 (hw _ (List.mem_of_getElem? (i := 102) rfl)))) (mvT hZ159 (hw _ (List.mem_of_getElem? (i := 102) rfl))) (mvT hZ159 (hw _ (List.mem_of_getElem? (i := 101) rfl))) (by decide) (backOf (s := s.setVm T159.vm) (W := 0) (rm10 l Z a0 hw []  b166 T159.heap n0 O177 w169) hZ159 (hw _ (List.mem_of_getElem? (i := 103) rfl)) (hw _ (List.mem_of_getElem? (i := 3) rfl)) (by decide) (by decide)) q176a q176c (g := (mkF m 177 #[.val (.int p1), .val (.int p2), .val (.int p3), .val (.ref b1), .val (.ref b18), .val (.ref b38), .val (.ref b97), .val (.int (p3 &&& (3 : Int32))), .val (.int (0 : Int32)), .val (.ref b38), .val (.ref b38), .val (.ref b166)] [(.ref b166)])) rfl (by rw [hml]; rfl) (Steps.refl _) (argsL := []) (rest := []) (lenOf pd9 rfl) rfl (by show 2 * 0 + _ ≤ _; exact Nat.le_of_eq rfl) (hb hby at_177) (fun _ _ => ⟨rfl, rfl, (by decide : 21 + 0 ≤ _), (by decide : 206 + 0 ≤ _)⟩)
      dsimp only [Pt.U, Pt.locs, Pt.cells, Pt.slots] at X176 l176 y176 z176 st176 hQ176
      subst l176 y176 z176
      obtain ⟨rfl, N176q, e176q⟩ := hQ176
      have N176 := Fr.app N159 N176q
      obtain ⟨cq178, kq178, q178a, q178b, q178c⟩ := isOf hZ159 e176q w168
      obtain ⟨_, _, ⟨T178, L178, k178, n178⟩, -, X178, ⟨Lc178, hQ178, l178, y178, z178⟩, st178⟩ := X176.virtualBack hx (y := (⟨"com/example/ratatoskr/ratatoskr/criteria/Filter", "left", "()Lcom/example/ratatoskr/ratatoskr/criteria/Filter;"⟩ : MethodName)) (z := (⟨"com/example/ratatoskr/ratatoskr/criteria/Filter", "left", "()Lcom/example/ratatoskr/ratatoskr/criteria/Filter;"⟩ : MethodName)) ho159 (mvT hZ159 (hw _ (List.mem_of_getElem? (i := 104) rfl))) (mvT hZ159 (hw _ (List.mem_of_getElem? (i := 105) rfl))) (notFace_of_selects (args := #[]) (mvT hZ159 (hw _ (List.mem_of_getElem? (i := 107) rfl)))) (mvT hZ159 (hw _ (List.mem_of_getElem? (i := 107) rfl))) (mvT hZ159 (hw _ (List.mem_of_getElem? (i := 106) rfl))) (by decide) (backOf (s := s.setVm T159.vm) (W := 0) (rm11 l Z a0 hw []  b166 b38 T159.heap n0 O177 w170) hZ159 (hw _ (List.mem_of_getElem? (i := 108) rfl)) (hw _ (List.mem_of_getElem? (i := 3) rfl)) (by decide) (by decide)) q178a q178c (g := (mkF m 187 #[.val (.int p1), .val (.int p2), .val (.int p3), .val (.ref b1), .val (.ref b18), .val (.ref b38), .val (.ref b97), .val (.int (p3 &&& (3 : Int32))), .val (.int (0 : Int32)), .val (.ref b38), .val (.ref b38), .val (.ref b166)] [(.ref b166)])) rfl (by rw [hml]; rfl) (Steps.refl _) (argsL := []) (rest := []) (lenOf pd10 rfl) rfl (by show 2 * 0 + _ ≤ _; exact Nat.le_of_eq rfl) (hb hby at_187) (fun _ _ => ⟨rfl, e176q, (by decide : 21 + 0 ≤ _), (by decide : 206 + 0 ≤ _)⟩)
      dsimp only [Pt.U, Pt.locs, Pt.cells, Pt.slots] at X178 l178 y178 z178 st178 hQ178
      subst l178 y178 z178
      obtain ⟨rfl, N178q, e178q⟩ := hQ178
      have N178 := Fr.app N176 N178q
      obtain ⟨cq179, kq179, q179a, q179b, q179c⟩ := isOf hZ159 e178q w168
      obtain ⟨_, _, ⟨T179, L179, k179, n179⟩, -, X179, ⟨Lc179, hQ179, l179, y179, z179⟩, st179⟩ := X178.virtualBack hx (y := (⟨"com/example/ratatoskr/ratatoskr/criteria/Filter", "right", "()Lcom/example/ratatoskr/ratatoskr/criteria/Filter;"⟩ : MethodName)) (z := (⟨"com/example/ratatoskr/ratatoskr/criteria/Filter", "right", "()Lcom/example/ratatoskr/ratatoskr/criteria/Filter;"⟩ : MethodName)) ho159 (mvT hZ159 (hw _ (List.mem_of_getElem? (i := 109) rfl))) (mvT hZ159 (hw _ (List.mem_of_getElem? (i := 110) rfl))) (notFace_of_selects (args := #[]) (mvT hZ159 (hw _ (List.mem_of_getElem? (i := 112) rfl)))) (mvT hZ159 (hw _ (List.mem_of_getElem? (i := 112) rfl))) (mvT hZ159 (hw _ (List.mem_of_getElem? (i := 111) rfl))) (by decide) (backOf (s := s.setVm T159.vm) (W := 0) (rm12 l Z a0 hw []  b166 b38 T159.heap n0 O177 w172) hZ159 (hw _ (List.mem_of_getElem? (i := 113) rfl)) (hw _ (List.mem_of_getElem? (i := 3) rfl)) (by decide) (by decide)) q179a q179c (g := (mkF m 197 #[.val (.int p1), .val (.int p2), .val (.int p3), .val (.ref b1), .val (.ref b18), .val (.ref b38), .val (.ref b97), .val (.int (p3 &&& (3 : Int32))), .val (.int (0 : Int32)), .val (.ref b38), .val (.ref b38), .val (.ref b166)] [(.ref b166)])) rfl (by rw [hml]; rfl) (Steps.refl _) (argsL := []) (rest := []) (lenOf pd10 rfl) rfl (by show 2 * 0 + _ ≤ _; exact Nat.le_of_eq rfl) (hb hby at_197) (fun _ _ => ⟨rfl, e178q, (by decide : 21 + 0 ≤ _), (by decide : 206 + 0 ≤ _)⟩)
      dsimp only [Pt.U, Pt.locs, Pt.cells, Pt.slots] at X179 l179 y179 z179 st179 hQ179
      subst l179 y179 z179
      obtain ⟨rfl, N179q, e179q⟩ := hQ179
      have N179 := Fr.app N178 N179q
      obtain ⟨cq180, kq180, q180a, q180b, q180c⟩ := isOf hZ159 e179q w168
      obtain ⟨_, _, ⟨T180, L180, k180, n180⟩, -, X180, ⟨Lc180, hQ180, l180, y180, z180⟩, st180⟩ := X179.virtualBack hx (y := (⟨"com/example/ratatoskr/ratatoskr/criteria/Filter", "junction", "()Lcom/example/ratatoskr/ratatoskr/criteria/Filter$Junction;"⟩ : MethodName)) (z := (⟨"com/example/ratatoskr/ratatoskr/criteria/Filter", "junction", "()Lcom/example/ratatoskr/ratatoskr/criteria/Filter$Junction;"⟩ : MethodName)) ho159 (mvT hZ159 (hw _ (List.mem_of_getElem? (i := 114) rfl))) (mvT hZ159 (hw _ (List.mem_of_getElem? (i := 115) rfl))) (notFace_of_selects (args := #[]) (mvT hZ159 (hw _ (List.mem_of_getElem? (i := 117) rfl)))) (mvT hZ159 (hw _ (List.mem_of_getElem? (i := 117) rfl))) (mvT hZ159 (hw _ (List.mem_of_getElem? (i := 116) rfl))) (by decide) (backOf (s := s.setVm T159.vm) (W := 0) (rm13 l Z a0 hw [] g_IS_NULL g_AND g_OR b166 T159.heap n0 O177 hEN w171) hZ159 (hw _ (List.mem_of_getElem? (i := 118) rfl)) (hw _ (List.mem_of_getElem? (i := 3) rfl)) (by decide) (by decide)) q180a q180c (g := (mkF m 207 #[.val (.int p1), .val (.int p2), .val (.int p3), .val (.ref b1), .val (.ref b18), .val (.ref b38), .val (.ref b97), .val (.int (p3 &&& (3 : Int32))), .val (.int (0 : Int32)), .val (.ref b38), .val (.ref b38), .val (.ref b166)] [(.ref b166)])) rfl (by rw [hml]; rfl) (Steps.refl _) (argsL := []) (rest := []) (lenOf pd11 rfl) rfl (by show 2 * 0 + _ ≤ _; exact Nat.le_of_eq rfl) (hb hby at_207) (fun _ _ => ⟨rfl, e179q, (by decide : 21 + 0 ≤ _), (by decide : 206 + 0 ≤ _)⟩)
      dsimp only [Pt.U, Pt.locs, Pt.cells, Pt.slots] at X180 l180 y180 z180 st180 hQ180
      subst l180 y180 z180
      obtain ⟨rfl, N180q, e180q⟩ := hQ180
      have N180 := Fr.app N179 N180q
      obtain ⟨T181, X181, e181, st181⟩ := getS2 X180 hx hZ159 ho159 (host := "") (Or.inl (hw _ (List.mem_of_getElem? (i := 119) rfl))) Via.refl e180q (hEN.2.2.1.ext O177.2) (g := (mkF m 210 #[.val (.int p1), .val (.int p2), .val (.int p3), .val (.ref b1), .val (.ref b18), .val (.ref b38), .val (.ref b97), .val (.int (p3 &&& (3 : Int32))), .val (.int (0 : Int32)), .val (.ref b38), .val (.ref b38), .val (.ref b166)] [(.ref g_AND)])) rfl (hb hby at_210)
      have F183_ : Fld Z h97 b38 "com/example/ratatoskr/ratatoskr/criteria/Filter" "junction" "Lcom/example/ratatoskr/ratatoskr/criteria/Filter$Junction;" .null := w87.ext E97
      have F184_ : Fld Z h105 b38 "com/example/ratatoskr/ratatoskr/criteria/Filter" "junction" "Lcom/example/ratatoskr/ratatoskr/criteria/Filter$Junction;" .null := F183_.ext E105
      have F185_ : Fld Z T111.heap b38 "com/example/ratatoskr/ratatoskr/criteria/Filter" "junction" "Lcom/example/ratatoskr/ratatoskr/criteria/Filter$Junction;" .null := F184_.keep K111q (ninS (Nat.ne_of_lt (Nat.lt_of_lt_of_le (Nat.lt_of_lt_of_le A38.lt (Nat.le_trans (Nat.le_trans (Nat.le_trans E46.1 K52q.1) K71q.1) E97.1)) (Nat.le_of_eq g105.symm))) nin0)
      have F186_ : Fld Z T129.heap b38 "com/example/ratatoskr/ratatoskr/criteria/Filter" "junction" "Lcom/example/ratatoskr/ratatoskr/criteria/Filter$Junction;" .null := F185_.keep K129q (ninS (Nat.ne_of_lt (Nat.lt_of_lt_of_le (Nat.lt_of_lt_of_le A38.lt (Nat.le_trans (Nat.le_trans E46.1 K52q.1) K71q.1)) (Nat.le_of_eq g97.symm))) nin0)
      have F187_ : Fld Z T159.heap b38 "com/example/ratatoskr/ratatoskr/criteria/Filter" "junction" "Lcom/example/ratatoskr/ratatoskr/criteria/Filter$Junction;" .null := F186_.keep K159q nin0
      have E188_ : Exa Z T159.heap b38 "com/example/ratatoskr/ratatoskr/criteria/Filter" := E164_.keep K159q
      obtain ⟨cq182, kq182, q182a, q182b, q182c⟩ := isOf hZ159 e181 E188_
      obtain ⟨_, _, ⟨T182, L182, k182, n182⟩, -, X182, ⟨Lc182, hQ182, l182, y182, z182⟩, st182⟩ := X181.virtualBack hx (y := (⟨"com/example/ratatoskr/ratatoskr/criteria/Filter", "junction", "()Lcom/example/ratatoskr/ratatoskr/criteria/Filter$Junction;"⟩ : MethodName)) (z := (⟨"com/example/ratatoskr/ratatoskr/criteria/Filter", "junction", "()Lcom/example/ratatoskr/ratatoskr/criteria/Filter$Junction;"⟩ : MethodName)) ho159 (mvT hZ159 (hw _ (List.mem_of_getElem? (i := 114) rfl))) (mvT hZ159 (hw _ (List.mem_of_getElem? (i := 115) rfl))) (notFace_of_selects (args := #[]) (mvT hZ159 (hw _ (List.mem_of_getElem? (i := 117) rfl)))) (mvT hZ159 (hw _ (List.mem_of_getElem? (i := 117) rfl))) (mvT hZ159 (hw _ (List.mem_of_getElem? (i := 116) rfl))) (by decide) (backOf (s := s.setVm T159.vm) (W := 0) (rm14 l Z a0 hw []  b38 T159.heap n0 O177 F187_) hZ159 (hw _ (List.mem_of_getElem? (i := 118) rfl)) (hw _ (List.mem_of_getElem? (i := 3) rfl)) (by decide) (by decide)) q182a q182c (g := (mkF m 248 #[.val (.int p1), .val (.int p2), .val (.int p3), .val (.ref b1), .val (.ref b18), .val (.ref b38), .val (.ref b97), .val (.int (p3 &&& (3 : Int32))), .val (.int (0 : Int32)), .val (.ref b38), .val (.ref b38), .val (.ref b166)] [(.ref b38)])) rfl (by rw [hml]; rfl) (Steps.refl _) (argsL := []) (rest := []) (lenOf pd11 rfl) rfl (by show 2 * 0 + _ ≤ _; exact Nat.le_of_eq rfl) (hb hby at_248) (fun _ _ => ⟨rfl, e181, (by decide : 21 + 0 ≤ _), (by decide : 206 + 0 ≤ _)⟩)
      dsimp only [Pt.U, Pt.locs, Pt.cells, Pt.slots] at X182 l182 y182 z182 st182 hQ182
      subst l182 y182 z182
      obtain ⟨rfl, N182q, e182q⟩ := hQ182
      have N182 := Fr.app N180 N182q
      have F190_ : Fld Z h97 b38 "com/example/ratatoskr/ratatoskr/criteria/Filter" "left" "Lcom/example/ratatoskr/ratatoskr/criteria/Filter;" .null := w86.ext E97
      have F191_ : Fld Z h105 b38 "com/example/ratatoskr/ratatoskr/criteria/Filter" "left" "Lcom/example/ratatoskr/ratatoskr/criteria/Filter;" .null := F190_.ext E105
      have F192_ : Fld Z T111.heap b38 "com/example/ratatoskr/ratatoskr/criteria/Filter" "left" "Lcom/example/ratatoskr/ratatoskr/criteria/Filter;" .null := F191_.keep K111q (ninS (Nat.ne_of_lt (Nat.lt_of_lt_of_le (Nat.lt_of_lt_of_le A38.lt (Nat.le_trans (Nat.le_trans (Nat.le_trans E46.1 K52q.1) K71q.1) E97.1)) (Nat.le_of_eq g105.symm))) nin0)
      have F193_ : Fld Z T129.heap b38 "com/example/ratatoskr/ratatoskr/criteria/Filter" "left" "Lcom/example/ratatoskr/ratatoskr/criteria/Filter;" .null := F192_.keep K129q (ninS (Nat.ne_of_lt (Nat.lt_of_lt_of_le (Nat.lt_of_lt_of_le A38.lt (Nat.le_trans (Nat.le_trans E46.1 K52q.1) K71q.1)) (Nat.le_of_eq g97.symm))) nin0)
      have F194_ : Fld Z T159.heap b38 "com/example/ratatoskr/ratatoskr/criteria/Filter" "left" "Lcom/example/ratatoskr/ratatoskr/criteria/Filter;" .null := F193_.keep K159q nin0
      obtain ⟨cq189, kq189, q189a, q189b, q189c⟩ := isOf hZ159 e182q E188_
      obtain ⟨_, _, ⟨T189, L189, k189, n189⟩, -, X189, ⟨Lc189, hQ189, l189, y189, z189⟩, st189⟩ := X182.virtualBack hx (y := (⟨"com/example/ratatoskr/ratatoskr/criteria/Filter", "left", "()Lcom/example/ratatoskr/ratatoskr/criteria/Filter;"⟩ : MethodName)) (z := (⟨"com/example/ratatoskr/ratatoskr/criteria/Filter", "left", "()Lcom/example/ratatoskr/ratatoskr/criteria/Filter;"⟩ : MethodName)) ho159 (mvT hZ159 (hw _ (List.mem_of_getElem? (i := 104) rfl))) (mvT hZ159 (hw _ (List.mem_of_getElem? (i := 105) rfl))) (notFace_of_selects (args := #[]) (mvT hZ159 (hw _ (List.mem_of_getElem? (i := 107) rfl)))) (mvT hZ159 (hw _ (List.mem_of_getElem? (i := 107) rfl))) (mvT hZ159 (hw _ (List.mem_of_getElem? (i := 106) rfl))) (by decide) (backOf (s := s.setVm T159.vm) (W := 0) (rm15 l Z a0 hw []  b38 T159.heap n0 O177 F194_) hZ159 (hw _ (List.mem_of_getElem? (i := 108) rfl)) (hw _ (List.mem_of_getElem? (i := 3) rfl)) (by decide) (by decide)) q189a q189c (g := (mkF m 256 #[.val (.int p1), .val (.int p2), .val (.int p3), .val (.ref b1), .val (.ref b18), .val (.ref b38), .val (.ref b97), .val (.int (p3 &&& (3 : Int32))), .val (.int (0 : Int32)), .val (.ref b38), .val (.ref b38), .val (.ref b166)] [(.ref b38)])) rfl (by rw [hml]; rfl) (Steps.refl _) (argsL := []) (rest := []) (lenOf pd10 rfl) rfl (by show 2 * 0 + _ ≤ _; exact Nat.le_of_eq rfl) (hb hby at_256) (fun _ _ => ⟨rfl, e182q, (by decide : 21 + 0 ≤ _), (by decide : 206 + 0 ≤ _)⟩)
      dsimp only [Pt.U, Pt.locs, Pt.cells, Pt.slots] at X189 l189 y189 z189 st189 hQ189
      subst l189 y189 z189
      obtain ⟨rfl, N189q, e189q⟩ := hQ189
      have N189 := Fr.app N182 N189q
      obtain ⟨fs, hr, hrun, hended, hEnd⟩ := X189.leaveW (s := s) hS159_ (by rw [show T189.heap = T159.heap from e189q]; exact hk159) (v := (some (.int (1 : Int32)))) (fun h => by rw [Bd.returns] at h; cases h)
      have hCe : CHr Z ([] : List (String × Nat)) s.vm h0 T189.vm T159.heap := R175.trans (CHv.at X189 hZ159 hEL CR159.1)
      refine ⟨_, _, pr157 _ ?_, hrun, hended, _, _, rfl, ?_, ?_, hEnd.1, hEnd.2.1, hEnd.2.2.1, hEnd.2.2.2.mono (by decide) (by decide)⟩
      · show Steps p.tables e below (T129.setTop (mkF m 133 #[.val (.int p1), .val (.int p2), .val (.int p3), .val (.ref b1), .val (.ref b18), .val (.ref b38), .val (.ref b97), .val (.int (p3 &&& (3 : Int32))), .val (.int (0 : Int32)), .val (.ref b38), .unset, .unset] [(.int (2 : Int32)), (.int (p3 &&& (3 : Int32)))])) _
        refine XS.icmpNo X129_.here hx rfl (hb hby at_133) rfl (XT.ii_ne_f (hc158 : (p3 &&& (3 : Int32)) = (2 : Int32))) ?_
        show Steps p.tables e below (T129.setTop (mkF m 136 #[.val (.int p1), .val (.int p2), .val (.int p3), .val (.ref b1), .val (.ref b18), .val (.ref b38), .val (.ref b97), .val (.int (p3 &&& (3 : Int32))), .val (.int (0 : Int32)), .val (.ref b38), .unset, .unset] [])) _
        refine XS.aload X129_.here hx rfl (hb hby at_136) rfl rfl ?_
        show Steps p.tables e below (T129.setTop (mkF m 138 #[.val (.int p1), .val (.int p2), .val (.int p3), .val (.ref b1), .val (.ref b18), .val (.ref b38), .val (.ref b97), .val (.int (p3 &&& (3 : Int32))), .val (.int (0 : Int32)), .val (.ref b38), .unset, .unset] [(.ref b38)])) _
        refine XS.goto X129_.here hx rfl (pc0 := 138) (pc' := 143) rfl (hb hby at_138) (by decide) (by decide) ?_
        show Steps p.tables e below (T129.setTop (mkF m 143 #[.val (.int p1), .val (.int p2), .val (.int p3), .val (.ref b1), .val (.ref b18), .val (.ref b38), .val (.ref b97), .val (.int (p3 &&& (3 : Int32))), .val (.int (0 : Int32)), .val (.ref b38), .unset, .unset] [(.ref b38)])) _
        refine XS.astore X129_.here hx rfl (hb hby at_143) rfl rfl (l' := #[.val (.int p1), .val (.int p2), .val (.int p3), .val (.ref b1), .val (.ref b18), .val (.ref b38), .val (.ref b97), .val (.int (p3 &&& (3 : Int32))), .val (.int (0 : Int32)), .val (.ref b38), .val (.ref b38), .unset]) rfl ?_
        show Steps p.tables e below (T129.setTop (mkF m 145 #[.val (.int p1), .val (.int p2), .val (.int p3), .val (.ref b1), .val (.ref b18), .val (.ref b38), .val (.ref b97), .val (.int (p3 &&& (3 : Int32))), .val (.int (0 : Int32)), .val (.ref b38), .val (.ref b38), .unset] [])) _
        refine XS.aload X129_.here hx rfl (hb hby at_145) rfl rfl ?_
        show Steps p.tables e below (T129.setTop (mkF m 147 #[.val (.int p1), .val (.int p2), .val (.int p3), .val (.ref b1), .val (.ref b18), .val (.ref b38), .val (.ref b97), .val (.int (p3 &&& (3 : Int32))), .val (.int (0 : Int32)), .val (.ref b38), .val (.ref b38), .unset] [(.ref b38)])) _
        refine XS.aload X129_.here hx rfl (hb hby at_147) rfl rfl ?_
        show Steps p.tables e below (T129.setTop (mkF m 149 #[.val (.int p1), .val (.int p2), .val (.int p3), .val (.ref b1), .val (.ref b18), .val (.ref b38), .val (.ref b97), .val (.int (p3 &&& (3 : Int32))), .val (.int (0 : Int32)), .val (.ref b38), .val (.ref b38), .unset] [(.ref b38), (.ref b38)])) _
        refine st159.trans ?_
        show Steps p.tables e below (T159.setTop (mkF m 152 #[.val (.int p1), .val (.int p2), .val (.int p3), .val (.ref b1), .val (.ref b18), .val (.ref b38), .val (.ref b97), .val (.int (p3 &&& (3 : Int32))), .val (.int (0 : Int32)), .val (.ref b38), .val (.ref b38), .unset] [(.ref b166)])) _
        refine XS.astore X159_.here hx rfl (hb hby at_152) rfl rfl (l' := #[.val (.int p1), .val (.int p2), .val (.int p3), .val (.ref b1), .val (.ref b18), .val (.ref b38), .val (.ref b97), .val (.int (p3 &&& (3 : Int32))), .val (.int (0 : Int32)), .val (.ref b38), .val (.ref b38), .val (.ref b166)]) rfl ?_
        show Steps p.tables e below (T159.setTop (mkF m 154 #[.val (.int p1), .val (.int p2), .val (.int p3), .val (.ref b1), .val (.ref b18), .val (.ref b38), .val (.ref b97), .val (.int (p3 &&& (3 : Int32))), .val (.int (0 : Int32)), .val (.ref b38), .val (.ref b38), .val (.ref b166)] [])) _
        refine XS.aload X159_.here hx rfl (hb hby at_154) rfl rfl ?_
        show Steps p.tables e below (T159.setTop (mkF m 156 #[.val (.int p1), .val (.int p2), .val (.int p3), .val (.ref b1), .val (.ref b18), .val (.ref b38), .val (.ref b97), .val (.int (p3 &&& (3 : Int32))), .val (.int (0 : Int32)), .val (.ref b38), .val (.ref b38), .val (.ref b166)] [(.ref b166)])) _
        refine XS.ifnullNo X159_.here hx rfl (hb hby at_156) rfl ?_
        show Steps p.tables e below (T159.setTop (mkF m 159 #[.val (.int p1), .val (.int p2), .val (.int p3), .val (.ref b1), .val (.ref b18), .val (.ref b38), .val (.ref b97), .val (.int (p3 &&& (3 : Int32))), .val (.int (0 : Int32)), .val (.ref b38), .val (.ref b38), .val (.ref b166)] [])) _
        refine XS.aload X159_.here hx rfl (hb hby at_159) rfl rfl ?_
        show Steps p.tables e below (T159.setTop (mkF m 161 #[.val (.int p1), .val (.int p2), .val (.int p3), .val (.ref b1), .val (.ref b18), .val (.ref b38), .val (.ref b97), .val (.int (p3 &&& (3 : Int32))), .val (.int (0 : Int32)), .val (.ref b38), .val (.ref b38), .val (.ref b166)] [(.ref b166)])) _
        refine XS.aload X159_.here hx rfl (hb hby at_161) rfl rfl ?_
        show Steps p.tables e below (T159.setTop (mkF m 163 #[.val (.int p1), .val (.int p2), .val (.int p3), .val (.ref b1), .val (.ref b18), .val (.ref b38), .val (.ref b97), .val (.int (p3 &&& (3 : Int32))), .val (.int (0 : Int32)), .val (.ref b38), .val (.ref b38), .val (.ref b166)] [(.ref b38), (.ref b166)])) _
        refine Jvm.RoadKit.acmp (g := (mkF m 163 #[.val (.int p1), .val (.int p2), .val (.int p3), .val (.ref b1), .val (.ref b18), .val (.ref b38), .val (.ref b97), .val (.int (p3 &&& (3 : Int32))), .val (.int (0 : Int32)), .val (.ref b38), .val (.ref b38), .val (.ref b166)] [(.ref b38), (.ref b166)])) X159_ hx rfl rfl rfl (pc0 := 163) (pc' := 166) (same := false) rfl (hb hby at_163) rfl (decide_eq_false fun q => (Ne.symm (Nat.ne_of_lt (Nat.lt_of_lt_of_le (Nat.lt_of_lt_of_le A38.lt (Nat.le_trans (Nat.le_trans (Nat.le_trans (Nat.le_trans (Nat.le_trans (Nat.le_trans E46.1 K52q.1) K71q.1) E97.1) E105.1) K111q.1) K129q.1)) w167))) (Value.ref.inj q)) (by decide) (by decide) ?_
        show Steps p.tables e below (T159.setTop (mkF m 166 #[.val (.int p1), .val (.int p2), .val (.int p3), .val (.ref b1), .val (.ref b18), .val (.ref b38), .val (.ref b97), .val (.int (p3 &&& (3 : Int32))), .val (.int (0 : Int32)), .val (.ref b38), .val (.ref b38), .val (.ref b166)] [])) _
        refine XS.aload X159_.here hx rfl (hb hby at_166) rfl rfl ?_
        show Steps p.tables e below (T159.setTop (mkF m 168 #[.val (.int p1), .val (.int p2), .val (.int p3), .val (.ref b1), .val (.ref b18), .val (.ref b38), .val (.ref b97), .val (.int (p3 &&& (3 : Int32))), .val (.int (0 : Int32)), .val (.ref b38), .val (.ref b38), .val (.ref b166)] [(.ref b166)])) _
        refine XS.aload X159_.here hx rfl (hb hby at_168) rfl rfl ?_
        show Steps p.tables e below (T159.setTop (mkF m 170 #[.val (.int p1), .val (.int p2), .val (.int p3), .val (.ref b1), .val (.ref b18), .val (.ref b38), .val (.ref b97), .val (.int (p3 &&& (3 : Int32))), .val (.int (0 : Int32)), .val (.ref b38), .val (.ref b38), .val (.ref b166)] [(.ref b38), (.ref b166)])) _
        refine Jvm.RoadKit.acmp (g := (mkF m 170 #[.val (.int p1), .val (.int p2), .val (.int p3), .val (.ref b1), .val (.ref b18), .val (.ref b38), .val (.ref b97), .val (.int (p3 &&& (3 : Int32))), .val (.int (0 : Int32)), .val (.ref b38), .val (.ref b38), .val (.ref b166)] [(.ref b38), (.ref b166)])) X159_ hx rfl rfl rfl (pc0 := 170) (pc' := 175) (same := false) rfl (hb hby at_170) rfl (decide_eq_false fun q => (Ne.symm (Nat.ne_of_lt (Nat.lt_of_lt_of_le (Nat.lt_of_lt_of_le A38.lt (Nat.le_trans (Nat.le_trans (Nat.le_trans (Nat.le_trans (Nat.le_trans (Nat.le_trans E46.1 K52q.1) K71q.1) E97.1) E105.1) K111q.1) K129q.1)) w167))) (Value.ref.inj q)) (by decide) (by decide) ?_
        show Steps p.tables e below (T159.setTop (mkF m 175 #[.val (.int p1), .val (.int p2), .val (.int p3), .val (.ref b1), .val (.ref b18), .val (.ref b38), .val (.ref b97), .val (.int (p3 &&& (3 : Int32))), .val (.int (0 : Int32)), .val (.ref b38), .val (.ref b38), .val (.ref b166)] [])) _
        refine XS.aload X159_.here hx rfl (hb hby at_175) rfl rfl ?_
        show Steps p.tables e below (T159.setTop (mkF m 177 #[.val (.int p1), .val (.int p2), .val (.int p3), .val (.ref b1), .val (.ref b18), .val (.ref b38), .val (.ref b97), .val (.int (p3 &&& (3 : Int32))), .val (.int (0 : Int32)), .val (.ref b38), .val (.ref b38), .val (.ref b166)] [(.ref b166)])) _
        refine st176.trans ?_
        show Steps p.tables e below (T176.setTop (mkF m 180 #[.val (.int p1), .val (.int p2), .val (.int p3), .val (.ref b1), .val (.ref b18), .val (.ref b38), .val (.ref b97), .val (.int (p3 &&& (3 : Int32))), .val (.int (0 : Int32)), .val (.ref b38), .val (.ref b38), .val (.ref b166)] [.null])) _
        refine XS.ifnullYes X176.here hx rfl (pc0 := 180) (pc' := 185) rfl (hb hby at_180) rfl (by decide) (by decide) ?_
        show Steps p.tables e below (T176.setTop (mkF m 185 #[.val (.int p1), .val (.int p2), .val (.int p3), .val (.ref b1), .val (.ref b18), .val (.ref b38), .val (.ref b97), .val (.int (p3 &&& (3 : Int32))), .val (.int (0 : Int32)), .val (.ref b38), .val (.ref b38), .val (.ref b166)] [])) _
        refine XS.aload X176.here hx rfl (hb hby at_185) rfl rfl ?_
        show Steps p.tables e below (T176.setTop (mkF m 187 #[.val (.int p1), .val (.int p2), .val (.int p3), .val (.ref b1), .val (.ref b18), .val (.ref b38), .val (.ref b97), .val (.int (p3 &&& (3 : Int32))), .val (.int (0 : Int32)), .val (.ref b38), .val (.ref b38), .val (.ref b166)] [(.ref b166)])) _
        refine st178.trans ?_
        show Steps p.tables e below (T178.setTop (mkF m 190 #[.val (.int p1), .val (.int p2), .val (.int p3), .val (.ref b1), .val (.ref b18), .val (.ref b38), .val (.ref b97), .val (.int (p3 &&& (3 : Int32))), .val (.int (0 : Int32)), .val (.ref b38), .val (.ref b38), .val (.ref b166)] [(.ref b38)])) _
        refine XS.aload X178.here hx rfl (hb hby at_190) rfl rfl ?_
        show Steps p.tables e below (T178.setTop (mkF m 192 #[.val (.int p1), .val (.int p2), .val (.int p3), .val (.ref b1), .val (.ref b18), .val (.ref b38), .val (.ref b97), .val (.int (p3 &&& (3 : Int32))), .val (.int (0 : Int32)), .val (.ref b38), .val (.ref b38), .val (.ref b166)] [(.ref b38), (.ref b38)])) _
        refine Jvm.RoadKit.acmp (g := (mkF m 192 #[.val (.int p1), .val (.int p2), .val (.int p3), .val (.ref b1), .val (.ref b18), .val (.ref b38), .val (.ref b97), .val (.int (p3 &&& (3 : Int32))), .val (.int (0 : Int32)), .val (.ref b38), .val (.ref b38), .val (.ref b166)] [(.ref b38), (.ref b38)])) X178 hx rfl rfl rfl (pc0 := 192) (pc' := 195) (same := true) rfl (hb hby at_192) rfl (decide_eq_true rfl) (by decide) (by decide) ?_
        show Steps p.tables e below (T178.setTop (mkF m 195 #[.val (.int p1), .val (.int p2), .val (.int p3), .val (.ref b1), .val (.ref b18), .val (.ref b38), .val (.ref b97), .val (.int (p3 &&& (3 : Int32))), .val (.int (0 : Int32)), .val (.ref b38), .val (.ref b38), .val (.ref b166)] [])) _
        refine XS.aload X178.here hx rfl (hb hby at_195) rfl rfl ?_
        show Steps p.tables e below (T178.setTop (mkF m 197 #[.val (.int p1), .val (.int p2), .val (.int p3), .val (.ref b1), .val (.ref b18), .val (.ref b38), .val (.ref b97), .val (.int (p3 &&& (3 : Int32))), .val (.int (0 : Int32)), .val (.ref b38), .val (.ref b38), .val (.ref b166)] [(.ref b166)])) _
        refine st179.trans ?_
        show Steps p.tables e below (T179.setTop (mkF m 200 #[.val (.int p1), .val (.int p2), .val (.int p3), .val (.ref b1), .val (.ref b18), .val (.ref b38), .val (.ref b97), .val (.int (p3 &&& (3 : Int32))), .val (.int (0 : Int32)), .val (.ref b38), .val (.ref b38), .val (.ref b166)] [(.ref b38)])) _
        refine XS.aload X179.here hx rfl (hb hby at_200) rfl rfl ?_
        show Steps p.tables e below (T179.setTop (mkF m 202 #[.val (.int p1), .val (.int p2), .val (.int p3), .val (.ref b1), .val (.ref b18), .val (.ref b38), .val (.ref b97), .val (.int (p3 &&& (3 : Int32))), .val (.int (0 : Int32)), .val (.ref b38), .val (.ref b38), .val (.ref b166)] [(.ref b38), (.ref b38)])) _
        refine Jvm.RoadKit.acmp (g := (mkF m 202 #[.val (.int p1), .val (.int p2), .val (.int p3), .val (.ref b1), .val (.ref b18), .val (.ref b38), .val (.ref b97), .val (.int (p3 &&& (3 : Int32))), .val (.int (0 : Int32)), .val (.ref b38), .val (.ref b38), .val (.ref b166)] [(.ref b38), (.ref b38)])) X179 hx rfl rfl rfl (pc0 := 202) (pc' := 205) (same := true) rfl (hb hby at_202) rfl (decide_eq_true rfl) (by decide) (by decide) ?_
        show Steps p.tables e below (T179.setTop (mkF m 205 #[.val (.int p1), .val (.int p2), .val (.int p3), .val (.ref b1), .val (.ref b18), .val (.ref b38), .val (.ref b97), .val (.int (p3 &&& (3 : Int32))), .val (.int (0 : Int32)), .val (.ref b38), .val (.ref b38), .val (.ref b166)] [])) _
        refine XS.aload X179.here hx rfl (hb hby at_205) rfl rfl ?_
        show Steps p.tables e below (T179.setTop (mkF m 207 #[.val (.int p1), .val (.int p2), .val (.int p3), .val (.ref b1), .val (.ref b18), .val (.ref b38), .val (.ref b97), .val (.int (p3 &&& (3 : Int32))), .val (.int (0 : Int32)), .val (.ref b38), .val (.ref b38), .val (.ref b166)] [(.ref b166)])) _
        refine st180.trans ?_
        show Steps p.tables e below (T180.setTop (mkF m 210 #[.val (.int p1), .val (.int p2), .val (.int p3), .val (.ref b1), .val (.ref b18), .val (.ref b38), .val (.ref b97), .val (.int (p3 &&& (3 : Int32))), .val (.int (0 : Int32)), .val (.ref b38), .val (.ref b38), .val (.ref b166)] [(.ref g_AND)])) _
        refine st181 _ ?_
        show Steps p.tables e below (T181.setTop (mkF m 213 #[.val (.int p1), .val (.int p2), .val (.int p3), .val (.ref b1), .val (.ref b18), .val (.ref b38), .val (.ref b97), .val (.int (p3 &&& (3 : Int32))), .val (.int (0 : Int32)), .val (.ref b38), .val (.ref b38), .val (.ref b166)] [(.ref g_AND), (.ref g_AND)])) _
        refine Jvm.RoadKit.acmp (g := (mkF m 213 #[.val (.int p1), .val (.int p2), .val (.int p3), .val (.ref b1), .val (.ref b18), .val (.ref b38), .val (.ref b97), .val (.int (p3 &&& (3 : Int32))), .val (.int (0 : Int32)), .val (.ref b38), .val (.ref b38), .val (.ref b166)] [(.ref g_AND), (.ref g_AND)])) X181 hx rfl rfl rfl (pc0 := 213) (pc' := 218) (same := true) rfl (hb hby at_213) rfl (decide_eq_true rfl) (by decide) (by decide) ?_
        show Steps p.tables e below (T181.setTop (mkF m 218 #[.val (.int p1), .val (.int p2), .val (.int p3), .val (.ref b1), .val (.ref b18), .val (.ref b38), .val (.ref b97), .val (.int (p3 &&& (3 : Int32))), .val (.int (0 : Int32)), .val (.ref b38), .val (.ref b38), .val (.ref b166)] [])) _
        refine XS.iload X181.here hx rfl (hb hby at_218) rfl ?_
        show Steps p.tables e below (T181.setTop (mkF m 220 #[.val (.int p1), .val (.int p2), .val (.int p3), .val (.ref b1), .val (.ref b18), .val (.ref b38), .val (.ref b97), .val (.int (p3 &&& (3 : Int32))), .val (.int (0 : Int32)), .val (.ref b38), .val (.ref b38), .val (.ref b166)] [(.int (0 : Int32))])) _
        refine XS.ifYes X181.here hx rfl (pc0 := 220) (pc' := 246) rfl (hb hby at_220) rfl (XT.i0_eq_t ((by decide) : (0 : Int32) = (0 : Int32))) (by decide) (by decide) ?_
        show Steps p.tables e below (T181.setTop (mkF m 246 #[.val (.int p1), .val (.int p2), .val (.int p3), .val (.ref b1), .val (.ref b18), .val (.ref b38), .val (.ref b97), .val (.int (p3 &&& (3 : Int32))), .val (.int (0 : Int32)), .val (.ref b38), .val (.ref b38), .val (.ref b166)] [])) _
        refine XS.aload X181.here hx rfl (hb hby at_246) rfl rfl ?_
        show Steps p.tables e below (T181.setTop (mkF m 248 #[.val (.int p1), .val (.int p2), .val (.int p3), .val (.ref b1), .val (.ref b18), .val (.ref b38), .val (.ref b97), .val (.int (p3 &&& (3 : Int32))), .val (.int (0 : Int32)), .val (.ref b38), .val (.ref b38), .val (.ref b166)] [(.ref b38)])) _
        refine st182.trans ?_
        show Steps p.tables e below (T182.setTop (mkF m 251 #[.val (.int p1), .val (.int p2), .val (.int p3), .val (.ref b1), .val (.ref b18), .val (.ref b38), .val (.ref b97), .val (.int (p3 &&& (3 : Int32))), .val (.int (0 : Int32)), .val (.ref b38), .val (.ref b38), .val (.ref b166)] [.null])) _
        refine XS.ifnonnullNo X182.here hx rfl (hb hby at_251) rfl ?_
        show Steps p.tables e below (T182.setTop (mkF m 254 #[.val (.int p1), .val (.int p2), .val (.int p3), .val (.ref b1), .val (.ref b18), .val (.ref b38), .val (.ref b97), .val (.int (p3 &&& (3 : Int32))), .val (.int (0 : Int32)), .val (.ref b38), .val (.ref b38), .val (.ref b166)] [])) _
        refine XS.aload X182.here hx rfl (hb hby at_254) rfl rfl ?_
        show Steps p.tables e below (T182.setTop (mkF m 256 #[.val (.int p1), .val (.int p2), .val (.int p3), .val (.ref b1), .val (.ref b18), .val (.ref b38), .val (.ref b97), .val (.int (p3 &&& (3 : Int32))), .val (.int (0 : Int32)), .val (.ref b38), .val (.ref b38), .val (.ref b166)] [(.ref b38)])) _
        refine st189.trans ?_
        show Steps p.tables e below (T189.setTop (mkF m 259 #[.val (.int p1), .val (.int p2), .val (.int p3), .val (.ref b1), .val (.ref b18), .val (.ref b38), .val (.ref b97), .val (.int (p3 &&& (3 : Int32))), .val (.int (0 : Int32)), .val (.ref b38), .val (.ref b38), .val (.ref b166)] [.null])) _
        refine XS.ifnullYes X189.here hx rfl (pc0 := 259) (pc' := 264) rfl (hb hby at_259) rfl (by decide) (by decide) ?_
        show Steps p.tables e below (T189.setTop (mkF m 264 #[.val (.int p1), .val (.int p2), .val (.int p3), .val (.ref b1), .val (.ref b18), .val (.ref b38), .val (.ref b97), .val (.int (p3 &&& (3 : Int32))), .val (.int (0 : Int32)), .val (.ref b38), .val (.ref b38), .val (.ref b166)] [])) _
        refine XS.aload X189.here hx rfl (hb hby at_264) rfl rfl ?_
        show Steps p.tables e below (T189.setTop (mkF m 266 #[.val (.int p1), .val (.int p2), .val (.int p3), .val (.ref b1), .val (.ref b18), .val (.ref b38), .val (.ref b97), .val (.int (p3 &&& (3 : Int32))), .val (.int (0 : Int32)), .val (.ref b38), .val (.ref b38), .val (.ref b166)] [(.ref b38)])) _
        refine XS.aload X189.here hx rfl (hb hby at_266) rfl rfl ?_
        show Steps p.tables e below (T189.setTop (mkF m 268 #[.val (.int p1), .val (.int p2), .val (.int p3), .val (.ref b1), .val (.ref b18), .val (.ref b38), .val (.ref b97), .val (.int (p3 &&& (3 : Int32))), .val (.int (0 : Int32)), .val (.ref b38), .val (.ref b38), .val (.ref b166)] [(.ref b97), (.ref b38)])) _
        refine Jvm.RoadKit.acmp (g := (mkF m 268 #[.val (.int p1), .val (.int p2), .val (.int p3), .val (.ref b1), .val (.ref b18), .val (.ref b38), .val (.ref b97), .val (.int (p3 &&& (3 : Int32))), .val (.int (0 : Int32)), .val (.ref b38), .val (.ref b38), .val (.ref b166)] [(.ref b97), (.ref b38)])) X189 hx rfl rfl rfl (pc0 := 268) (pc' := 281) (same := false) rfl (hb hby at_268) rfl (decide_eq_false fun q => (Nat.ne_of_lt (Nat.lt_of_lt_of_le (Nat.lt_of_lt_of_le A38.lt (Nat.le_trans (Nat.le_trans E46.1 K52q.1) K71q.1)) (Nat.le_of_eq g97.symm))) (Value.ref.inj q)) (by decide) (by decide) ?_
        show Steps p.tables e below (T189.setTop (mkF m 281 #[.val (.int p1), .val (.int p2), .val (.int p3), .val (.ref b1), .val (.ref b18), .val (.ref b38), .val (.ref b97), .val (.int (p3 &&& (3 : Int32))), .val (.int (0 : Int32)), .val (.ref b38), .val (.ref b38), .val (.ref b166)] [])) _
        refine XS.iconst X189.here hx rfl (hb hby at_281) ?_
        show Steps p.tables e below (T189.setTop (mkF m 282 #[.val (.int p1), .val (.int p2), .val (.int p3), .val (.ref b1), .val (.ref b18), .val (.ref b38), .val (.ref b97), .val (.int (p3 &&& (3 : Int32))), .val (.int (0 : Int32)), .val (.ref b38), .val (.ref b38), .val (.ref b166)] [(.int (1 : Int32))])) _
        exact retN X189 hx (t := .boolean) Bd.returns (by simp) (hb hby at_282) hr
      · show Q0 n0 _ T189.heap _
        rw [show T189.heap = T159.heap from e189q]
        exact ⟨rfl, N189⟩
      · show CHr Z ([] : List (String × Nat)) s.vm s.heap T189.vm T189.heap
        rw [hh]
        rw [show T189.heap = T159.heap from e189q]
        exact hCe
    ·
      skip
      have E196_ : Exa Z T129.heap b97 "com/example/ratatoskr/ratatoskr/criteria/Filter" := E131_.keep K129q
      have O197 : Old Z n0 T129.heap := O128.keep K129q (allS g_b97 all0)
      have E198_ : Exa Z T71.heap b38 "com/example/ratatoskr/ratatoskr/criteria/Filter" := E73_.keep K71q
      have E199_ : Exa Z h97 b38 "com/example/ratatoskr/ratatoskr/criteria/Filter" := E198_.ext E97
      have E200_ : Exa Z h105 b38 "com/example/ratatoskr/ratatoskr/criteria/Filter" := E199_.ext E105
      have E201_ : Exa Z T111.heap b38 "com/example/ratatoskr/ratatoskr/criteria/Filter" := E200_.keep K111q
      have E202_ : Exa Z T129.heap b38 "com/example/ratatoskr/ratatoskr/criteria/Filter" := E201_.keep K129q
      obtain ⟨cq195, kq195, q195a, q195b, q195c⟩ := isOf hZ129 rfl E202_
      obtain ⟨_, _, ⟨T195, L195, k195, n195⟩, -, X195, hS195, hgr195, ⟨Lc195, hQ195, l195, y195, z195, CR195⟩, st195⟩ := X129_.virtualBackS hx (y := (⟨"com/example/ratatoskr/ratatoskr/criteria/Filter", "and", "(Lcom/example/ratatoskr/ratatoskr/criteria/Filter;)Lcom/example/ratatoskr/ratatoskr/criteria/Filter;"⟩ : MethodName)) (z := (⟨"com/example/ratatoskr/ratatoskr/criteria/Filter", "and", "(Lcom/example/ratatoskr/ratatoskr/criteria/Filter;)Lcom/example/ratatoskr/ratatoskr/criteria/Filter;"⟩ : MethodName)) ho129 (mvT hZ129 (hw _ (List.mem_of_getElem? (i := 84) rfl))) (mvT hZ129 (hw _ (List.mem_of_getElem? (i := 85) rfl))) (notFace_of_selects (args := #[]) (mvT hZ129 (hw _ (List.mem_of_getElem? (i := 87) rfl)))) (mvT hZ129 (hw _ (List.mem_of_getElem? (i := 87) rfl))) (mvT hZ129 (hw _ (List.mem_of_getElem? (i := 86) rfl))) (by decide) (backOfSH (W := 0) (EL := ([] : List (String × Nat))) (s := s) (rm17 l Z a0 hw [] g_IS_NULL g_AND g_OR b38 b97 T129.heap n0 O197 hEN E196_) hZ129 (hw _ (List.mem_of_getElem? (i := 88) rfl)) (hw _ (List.mem_of_getElem? (i := 3) rfl)) (by decide) (by decide) hEL CR129.1) q195a q195c (g := (mkF m 149 #[.val (.int p1), .val (.int p2), .val (.int p3), .val (.ref b1), .val (.ref b18), .val (.ref b38), .val (.ref b97), .val (.int (p3 &&& (3 : Int32))), .val (.int (0 : Int32)), .val (.ref b38), .val (.ref b97), .unset] [(.ref b97), (.ref b38)])) rfl (by rw [hml]; rfl) (Steps.refl _) (argsL := [(.ref b97)]) (rest := []) (lenOf pd8 rfl) rfl (by show 2 * 0 + _ ≤ _; exact Nat.le_of_eq rfl) (hb hby at_149) (fun _ _ => ⟨rfl, rfl, (by decide : 18 + 3 ≤ _), (by decide : 174 + 32 ≤ _)⟩)
      dsimp only [Pt.U, Pt.locs, Pt.cells, Pt.slots] at X195 l195 y195 z195 st195 hQ195 CR195 hS195 hgr195
      subst l195 y195 z195
      obtain ⟨b203, rfl, N195q, K195q, w204, w205, w206, w207, w208, w209⟩ := hQ195
      have N195 := Fr.app N129 N195q
      have hS195_ : s.Since T195.vm T195.heap.size := hS129_.trans hS195 (Nat.le_trans hk129 (show T129.heap.size ≤ T195.heap.size from hgr195))
      have hZ195 : Z.Warmed39 T195.vm := State.Warmed39.trans (t := s.setVm T129.vm) hZ129 hS195.1
      have ho195 : T195.vm.findClass "com/example/ratatoskr/ratatoskr/criteria/FilterAndPinLaw" = some m.cls := by rw [hS195.1.alike.findClass]; exact ho129
      have X195_ : Stand p l e room_1 (s.setVm T195.vm) m #[(.int p1), (.int p2), (.int p3)] below meth c T195 _ _ _ := X195
      have hk195 : T195.heap.size ≤ T195.heap.size := Nat.le_refl _
      have K210 : Keep h0 T195.heap [] := K152.trans K195q (fun x q => nomatch q)
      have R212 : CHr Z ([] : List (String × Nat)) s.vm h0 T195.vm T195.heap := R154.trans CR195
      have O214 : Old Z n0 T195.heap := O197.keep K195q all0
      obtain ⟨cq213, kq213, q213a, q213b, q213c⟩ := isOf hZ195 rfl w205
      obtain ⟨_, _, ⟨T213, L213, k213, n213⟩, -, X213, ⟨Lc213, hQ213, l213, y213, z213⟩, st213⟩ := X195_.virtualBack hx (y := (⟨"com/example/ratatoskr/ratatoskr/criteria/Filter", "comparison", "()Lcom/example/ratatoskr/ratatoskr/criteria/Filter$Comparison;"⟩ : MethodName)) (z := (⟨"com/example/ratatoskr/ratatoskr/criteria/Filter", "comparison", "()Lcom/example/ratatoskr/ratatoskr/criteria/Filter$Comparison;"⟩ : MethodName)) ho195 (mvT hZ195 (hw _ (List.mem_of_getElem? (i := 99) rfl))) (mvT hZ195 (hw _ (List.mem_of_getElem? (i := 100) rfl))) (notFace_of_selects (args := #[]) (mvT hZ195 (hw _ (List.mem_of_getElem? (i := 102) rfl)))) (mvT hZ195 (hw _ (List.mem_of_getElem? (i := 102) rfl))) (mvT hZ195 (hw _ (List.mem_of_getElem? (i := 101) rfl))) (by decide) (backOf (s := s.setVm T195.vm) (W := 0) (rm10 l Z a0 hw []  b203 T195.heap n0 O214 w206) hZ195 (hw _ (List.mem_of_getElem? (i := 103) rfl)) (hw _ (List.mem_of_getElem? (i := 3) rfl)) (by decide) (by decide)) q213a q213c (g := (mkF m 177 #[.val (.int p1), .val (.int p2), .val (.int p3), .val (.ref b1), .val (.ref b18), .val (.ref b38), .val (.ref b97), .val (.int (p3 &&& (3 : Int32))), .val (.int (0 : Int32)), .val (.ref b38), .val (.ref b97), .val (.ref b203)] [(.ref b203)])) rfl (by rw [hml]; rfl) (Steps.refl _) (argsL := []) (rest := []) (lenOf pd9 rfl) rfl (by show 2 * 0 + _ ≤ _; exact Nat.le_of_eq rfl) (hb hby at_177) (fun _ _ => ⟨rfl, rfl, (by decide : 21 + 0 ≤ _), (by decide : 206 + 0 ≤ _)⟩)
      dsimp only [Pt.U, Pt.locs, Pt.cells, Pt.slots] at X213 l213 y213 z213 st213 hQ213
      subst l213 y213 z213
      obtain ⟨rfl, N213q, e213q⟩ := hQ213
      have N213 := Fr.app N195 N213q
      obtain ⟨cq215, kq215, q215a, q215b, q215c⟩ := isOf hZ195 e213q w205
      obtain ⟨_, _, ⟨T215, L215, k215, n215⟩, -, X215, ⟨Lc215, hQ215, l215, y215, z215⟩, st215⟩ := X213.virtualBack hx (y := (⟨"com/example/ratatoskr/ratatoskr/criteria/Filter", "left", "()Lcom/example/ratatoskr/ratatoskr/criteria/Filter;"⟩ : MethodName)) (z := (⟨"com/example/ratatoskr/ratatoskr/criteria/Filter", "left", "()Lcom/example/ratatoskr/ratatoskr/criteria/Filter;"⟩ : MethodName)) ho195 (mvT hZ195 (hw _ (List.mem_of_getElem? (i := 104) rfl))) (mvT hZ195 (hw _ (List.mem_of_getElem? (i := 105) rfl))) (notFace_of_selects (args := #[]) (mvT hZ195 (hw _ (List.mem_of_getElem? (i := 107) rfl)))) (mvT hZ195 (hw _ (List.mem_of_getElem? (i := 107) rfl))) (mvT hZ195 (hw _ (List.mem_of_getElem? (i := 106) rfl))) (by decide) (backOf (s := s.setVm T195.vm) (W := 0) (rm11 l Z a0 hw []  b203 b38 T195.heap n0 O214 w207) hZ195 (hw _ (List.mem_of_getElem? (i := 108) rfl)) (hw _ (List.mem_of_getElem? (i := 3) rfl)) (by decide) (by decide)) q215a q215c (g := (mkF m 187 #[.val (.int p1), .val (.int p2), .val (.int p3), .val (.ref b1), .val (.ref b18), .val (.ref b38), .val (.ref b97), .val (.int (p3 &&& (3 : Int32))), .val (.int (0 : Int32)), .val (.ref b38), .val (.ref b97), .val (.ref b203)] [(.ref b203)])) rfl (by rw [hml]; rfl) (Steps.refl _) (argsL := []) (rest := []) (lenOf pd10 rfl) rfl (by show 2 * 0 + _ ≤ _; exact Nat.le_of_eq rfl) (hb hby at_187) (fun _ _ => ⟨rfl, e213q, (by decide : 21 + 0 ≤ _), (by decide : 206 + 0 ≤ _)⟩)
      dsimp only [Pt.U, Pt.locs, Pt.cells, Pt.slots] at X215 l215 y215 z215 st215 hQ215
      subst l215 y215 z215
      obtain ⟨rfl, N215q, e215q⟩ := hQ215
      have N215 := Fr.app N213 N215q
      obtain ⟨cq216, kq216, q216a, q216b, q216c⟩ := isOf hZ195 e215q w205
      obtain ⟨_, _, ⟨T216, L216, k216, n216⟩, -, X216, ⟨Lc216, hQ216, l216, y216, z216⟩, st216⟩ := X215.virtualBack hx (y := (⟨"com/example/ratatoskr/ratatoskr/criteria/Filter", "right", "()Lcom/example/ratatoskr/ratatoskr/criteria/Filter;"⟩ : MethodName)) (z := (⟨"com/example/ratatoskr/ratatoskr/criteria/Filter", "right", "()Lcom/example/ratatoskr/ratatoskr/criteria/Filter;"⟩ : MethodName)) ho195 (mvT hZ195 (hw _ (List.mem_of_getElem? (i := 109) rfl))) (mvT hZ195 (hw _ (List.mem_of_getElem? (i := 110) rfl))) (notFace_of_selects (args := #[]) (mvT hZ195 (hw _ (List.mem_of_getElem? (i := 112) rfl)))) (mvT hZ195 (hw _ (List.mem_of_getElem? (i := 112) rfl))) (mvT hZ195 (hw _ (List.mem_of_getElem? (i := 111) rfl))) (by decide) (backOf (s := s.setVm T195.vm) (W := 0) (rm12 l Z a0 hw []  b203 b97 T195.heap n0 O214 w209) hZ195 (hw _ (List.mem_of_getElem? (i := 113) rfl)) (hw _ (List.mem_of_getElem? (i := 3) rfl)) (by decide) (by decide)) q216a q216c (g := (mkF m 197 #[.val (.int p1), .val (.int p2), .val (.int p3), .val (.ref b1), .val (.ref b18), .val (.ref b38), .val (.ref b97), .val (.int (p3 &&& (3 : Int32))), .val (.int (0 : Int32)), .val (.ref b38), .val (.ref b97), .val (.ref b203)] [(.ref b203)])) rfl (by rw [hml]; rfl) (Steps.refl _) (argsL := []) (rest := []) (lenOf pd10 rfl) rfl (by show 2 * 0 + _ ≤ _; exact Nat.le_of_eq rfl) (hb hby at_197) (fun _ _ => ⟨rfl, e215q, (by decide : 21 + 0 ≤ _), (by decide : 206 + 0 ≤ _)⟩)
      dsimp only [Pt.U, Pt.locs, Pt.cells, Pt.slots] at X216 l216 y216 z216 st216 hQ216
      subst l216 y216 z216
      obtain ⟨rfl, N216q, e216q⟩ := hQ216
      have N216 := Fr.app N215 N216q
      obtain ⟨cq217, kq217, q217a, q217b, q217c⟩ := isOf hZ195 e216q w205
      obtain ⟨_, _, ⟨T217, L217, k217, n217⟩, -, X217, ⟨Lc217, hQ217, l217, y217, z217⟩, st217⟩ := X216.virtualBack hx (y := (⟨"com/example/ratatoskr/ratatoskr/criteria/Filter", "junction", "()Lcom/example/ratatoskr/ratatoskr/criteria/Filter$Junction;"⟩ : MethodName)) (z := (⟨"com/example/ratatoskr/ratatoskr/criteria/Filter", "junction", "()Lcom/example/ratatoskr/ratatoskr/criteria/Filter$Junction;"⟩ : MethodName)) ho195 (mvT hZ195 (hw _ (List.mem_of_getElem? (i := 114) rfl))) (mvT hZ195 (hw _ (List.mem_of_getElem? (i := 115) rfl))) (notFace_of_selects (args := #[]) (mvT hZ195 (hw _ (List.mem_of_getElem? (i := 117) rfl)))) (mvT hZ195 (hw _ (List.mem_of_getElem? (i := 117) rfl))) (mvT hZ195 (hw _ (List.mem_of_getElem? (i := 116) rfl))) (by decide) (backOf (s := s.setVm T195.vm) (W := 0) (rm13 l Z a0 hw [] g_IS_NULL g_AND g_OR b203 T195.heap n0 O214 hEN w208) hZ195 (hw _ (List.mem_of_getElem? (i := 118) rfl)) (hw _ (List.mem_of_getElem? (i := 3) rfl)) (by decide) (by decide)) q217a q217c (g := (mkF m 207 #[.val (.int p1), .val (.int p2), .val (.int p3), .val (.ref b1), .val (.ref b18), .val (.ref b38), .val (.ref b97), .val (.int (p3 &&& (3 : Int32))), .val (.int (0 : Int32)), .val (.ref b38), .val (.ref b97), .val (.ref b203)] [(.ref b203)])) rfl (by rw [hml]; rfl) (Steps.refl _) (argsL := []) (rest := []) (lenOf pd11 rfl) rfl (by show 2 * 0 + _ ≤ _; exact Nat.le_of_eq rfl) (hb hby at_207) (fun _ _ => ⟨rfl, e216q, (by decide : 21 + 0 ≤ _), (by decide : 206 + 0 ≤ _)⟩)
      dsimp only [Pt.U, Pt.locs, Pt.cells, Pt.slots] at X217 l217 y217 z217 st217 hQ217
      subst l217 y217 z217
      obtain ⟨rfl, N217q, e217q⟩ := hQ217
      have N217 := Fr.app N216 N217q
      obtain ⟨T218, X218, e218, st218⟩ := getS2 X217 hx hZ195 ho195 (host := "") (Or.inl (hw _ (List.mem_of_getElem? (i := 119) rfl))) Via.refl e217q (hEN.2.2.1.ext O214.2) (g := (mkF m 210 #[.val (.int p1), .val (.int p2), .val (.int p3), .val (.ref b1), .val (.ref b18), .val (.ref b38), .val (.ref b97), .val (.int (p3 &&& (3 : Int32))), .val (.int (0 : Int32)), .val (.ref b38), .val (.ref b97), .val (.ref b203)] [(.ref g_AND)])) rfl (hb hby at_210)
      have F220_ : Fld Z h97 b38 "com/example/ratatoskr/ratatoskr/criteria/Filter" "junction" "Lcom/example/ratatoskr/ratatoskr/criteria/Filter$Junction;" .null := w87.ext E97
      have F221_ : Fld Z h105 b38 "com/example/ratatoskr/ratatoskr/criteria/Filter" "junction" "Lcom/example/ratatoskr/ratatoskr/criteria/Filter$Junction;" .null := F220_.ext E105
      have F222_ : Fld Z T111.heap b38 "com/example/ratatoskr/ratatoskr/criteria/Filter" "junction" "Lcom/example/ratatoskr/ratatoskr/criteria/Filter$Junction;" .null := F221_.keep K111q (ninS (Nat.ne_of_lt (Nat.lt_of_lt_of_le (Nat.lt_of_lt_of_le A38.lt (Nat.le_trans (Nat.le_trans (Nat.le_trans E46.1 K52q.1) K71q.1) E97.1)) (Nat.le_of_eq g105.symm))) nin0)
      have F223_ : Fld Z T129.heap b38 "com/example/ratatoskr/ratatoskr/criteria/Filter" "junction" "Lcom/example/ratatoskr/ratatoskr/criteria/Filter$Junction;" .null := F222_.keep K129q (ninS (Nat.ne_of_lt (Nat.lt_of_lt_of_le (Nat.lt_of_lt_of_le A38.lt (Nat.le_trans (Nat.le_trans E46.1 K52q.1) K71q.1)) (Nat.le_of_eq g97.symm))) nin0)
      have F224_ : Fld Z T195.heap b38 "com/example/ratatoskr/ratatoskr/criteria/Filter" "junction" "Lcom/example/ratatoskr/ratatoskr/criteria/Filter$Junction;" .null := F223_.keep K195q nin0
      have E225_ : Exa Z T195.heap b38 "com/example/ratatoskr/ratatoskr/criteria/Filter" := E202_.keep K195q
      obtain ⟨cq219, kq219, q219a, q219b, q219c⟩ := isOf hZ195 e218 E225_
      obtain ⟨_, _, ⟨T219, L219, k219, n219⟩, -, X219, ⟨Lc219, hQ219, l219, y219, z219⟩, st219⟩ := X218.virtualBack hx (y := (⟨"com/example/ratatoskr/ratatoskr/criteria/Filter", "junction", "()Lcom/example/ratatoskr/ratatoskr/criteria/Filter$Junction;"⟩ : MethodName)) (z := (⟨"com/example/ratatoskr/ratatoskr/criteria/Filter", "junction", "()Lcom/example/ratatoskr/ratatoskr/criteria/Filter$Junction;"⟩ : MethodName)) ho195 (mvT hZ195 (hw _ (List.mem_of_getElem? (i := 114) rfl))) (mvT hZ195 (hw _ (List.mem_of_getElem? (i := 115) rfl))) (notFace_of_selects (args := #[]) (mvT hZ195 (hw _ (List.mem_of_getElem? (i := 117) rfl)))) (mvT hZ195 (hw _ (List.mem_of_getElem? (i := 117) rfl))) (mvT hZ195 (hw _ (List.mem_of_getElem? (i := 116) rfl))) (by decide) (backOf (s := s.setVm T195.vm) (W := 0) (rm14 l Z a0 hw []  b38 T195.heap n0 O214 F224_) hZ195 (hw _ (List.mem_of_getElem? (i := 118) rfl)) (hw _ (List.mem_of_getElem? (i := 3) rfl)) (by decide) (by decide)) q219a q219c (g := (mkF m 248 #[.val (.int p1), .val (.int p2), .val (.int p3), .val (.ref b1), .val (.ref b18), .val (.ref b38), .val (.ref b97), .val (.int (p3 &&& (3 : Int32))), .val (.int (0 : Int32)), .val (.ref b38), .val (.ref b97), .val (.ref b203)] [(.ref b38)])) rfl (by rw [hml]; rfl) (Steps.refl _) (argsL := []) (rest := []) (lenOf pd11 rfl) rfl (by show 2 * 0 + _ ≤ _; exact Nat.le_of_eq rfl) (hb hby at_248) (fun _ _ => ⟨rfl, e218, (by decide : 21 + 0 ≤ _), (by decide : 206 + 0 ≤ _)⟩)
      dsimp only [Pt.U, Pt.locs, Pt.cells, Pt.slots] at X219 l219 y219 z219 st219 hQ219
      subst l219 y219 z219
      obtain ⟨rfl, N219q, e219q⟩ := hQ219
      have N219 := Fr.app N217 N219q
      have F227_ : Fld Z h97 b38 "com/example/ratatoskr/ratatoskr/criteria/Filter" "left" "Lcom/example/ratatoskr/ratatoskr/criteria/Filter;" .null := w86.ext E97
      have F228_ : Fld Z h105 b38 "com/example/ratatoskr/ratatoskr/criteria/Filter" "left" "Lcom/example/ratatoskr/ratatoskr/criteria/Filter;" .null := F227_.ext E105
      have F229_ : Fld Z T111.heap b38 "com/example/ratatoskr/ratatoskr/criteria/Filter" "left" "Lcom/example/ratatoskr/ratatoskr/criteria/Filter;" .null := F228_.keep K111q (ninS (Nat.ne_of_lt (Nat.lt_of_lt_of_le (Nat.lt_of_lt_of_le A38.lt (Nat.le_trans (Nat.le_trans (Nat.le_trans E46.1 K52q.1) K71q.1) E97.1)) (Nat.le_of_eq g105.symm))) nin0)
      have F230_ : Fld Z T129.heap b38 "com/example/ratatoskr/ratatoskr/criteria/Filter" "left" "Lcom/example/ratatoskr/ratatoskr/criteria/Filter;" .null := F229_.keep K129q (ninS (Nat.ne_of_lt (Nat.lt_of_lt_of_le (Nat.lt_of_lt_of_le A38.lt (Nat.le_trans (Nat.le_trans E46.1 K52q.1) K71q.1)) (Nat.le_of_eq g97.symm))) nin0)
      have F231_ : Fld Z T195.heap b38 "com/example/ratatoskr/ratatoskr/criteria/Filter" "left" "Lcom/example/ratatoskr/ratatoskr/criteria/Filter;" .null := F230_.keep K195q nin0
      obtain ⟨cq226, kq226, q226a, q226b, q226c⟩ := isOf hZ195 e219q E225_
      obtain ⟨_, _, ⟨T226, L226, k226, n226⟩, -, X226, ⟨Lc226, hQ226, l226, y226, z226⟩, st226⟩ := X219.virtualBack hx (y := (⟨"com/example/ratatoskr/ratatoskr/criteria/Filter", "left", "()Lcom/example/ratatoskr/ratatoskr/criteria/Filter;"⟩ : MethodName)) (z := (⟨"com/example/ratatoskr/ratatoskr/criteria/Filter", "left", "()Lcom/example/ratatoskr/ratatoskr/criteria/Filter;"⟩ : MethodName)) ho195 (mvT hZ195 (hw _ (List.mem_of_getElem? (i := 104) rfl))) (mvT hZ195 (hw _ (List.mem_of_getElem? (i := 105) rfl))) (notFace_of_selects (args := #[]) (mvT hZ195 (hw _ (List.mem_of_getElem? (i := 107) rfl)))) (mvT hZ195 (hw _ (List.mem_of_getElem? (i := 107) rfl))) (mvT hZ195 (hw _ (List.mem_of_getElem? (i := 106) rfl))) (by decide) (backOf (s := s.setVm T195.vm) (W := 0) (rm15 l Z a0 hw []  b38 T195.heap n0 O214 F231_) hZ195 (hw _ (List.mem_of_getElem? (i := 108) rfl)) (hw _ (List.mem_of_getElem? (i := 3) rfl)) (by decide) (by decide)) q226a q226c (g := (mkF m 256 #[.val (.int p1), .val (.int p2), .val (.int p3), .val (.ref b1), .val (.ref b18), .val (.ref b38), .val (.ref b97), .val (.int (p3 &&& (3 : Int32))), .val (.int (0 : Int32)), .val (.ref b38), .val (.ref b97), .val (.ref b203)] [(.ref b38)])) rfl (by rw [hml]; rfl) (Steps.refl _) (argsL := []) (rest := []) (lenOf pd10 rfl) rfl (by show 2 * 0 + _ ≤ _; exact Nat.le_of_eq rfl) (hb hby at_256) (fun _ _ => ⟨rfl, e219q, (by decide : 21 + 0 ≤ _), (by decide : 206 + 0 ≤ _)⟩)
      dsimp only [Pt.U, Pt.locs, Pt.cells, Pt.slots] at X226 l226 y226 z226 st226 hQ226
      subst l226 y226 z226
      obtain ⟨rfl, N226q, e226q⟩ := hQ226
      have N226 := Fr.app N219 N226q
      have F233_ : Fld Z T195.heap b97 "com/example/ratatoskr/ratatoskr/criteria/Filter" "junction" "Lcom/example/ratatoskr/ratatoskr/criteria/Filter$Junction;" .null := w145.keep K195q nin0
      have E234_ : Exa Z T195.heap b97 "com/example/ratatoskr/ratatoskr/criteria/Filter" := E196_.keep K195q
      obtain ⟨cq232, kq232, q232a, q232b, q232c⟩ := isOf hZ195 e226q E234_
      obtain ⟨_, _, ⟨T232, L232, k232, n232⟩, -, X232, ⟨Lc232, hQ232, l232, y232, z232⟩, st232⟩ := X226.virtualBack hx (y := (⟨"com/example/ratatoskr/ratatoskr/criteria/Filter", "junction", "()Lcom/example/ratatoskr/ratatoskr/criteria/Filter$Junction;"⟩ : MethodName)) (z := (⟨"com/example/ratatoskr/ratatoskr/criteria/Filter", "junction", "()Lcom/example/ratatoskr/ratatoskr/criteria/Filter$Junction;"⟩ : MethodName)) ho195 (mvT hZ195 (hw _ (List.mem_of_getElem? (i := 114) rfl))) (mvT hZ195 (hw _ (List.mem_of_getElem? (i := 115) rfl))) (notFace_of_selects (args := #[]) (mvT hZ195 (hw _ (List.mem_of_getElem? (i := 117) rfl)))) (mvT hZ195 (hw _ (List.mem_of_getElem? (i := 117) rfl))) (mvT hZ195 (hw _ (List.mem_of_getElem? (i := 116) rfl))) (by decide) (backOf (s := s.setVm T195.vm) (W := 0) (rm14 l Z a0 hw []  b97 T195.heap n0 O214 F233_) hZ195 (hw _ (List.mem_of_getElem? (i := 118) rfl)) (hw _ (List.mem_of_getElem? (i := 3) rfl)) (by decide) (by decide)) q232a q232c (g := (mkF m 273 #[.val (.int p1), .val (.int p2), .val (.int p3), .val (.ref b1), .val (.ref b18), .val (.ref b38), .val (.ref b97), .val (.int (p3 &&& (3 : Int32))), .val (.int (0 : Int32)), .val (.ref b38), .val (.ref b97), .val (.ref b203)] [(.ref b97)])) rfl (by rw [hml]; rfl) (Steps.refl _) (argsL := []) (rest := []) (lenOf pd11 rfl) rfl (by show 2 * 0 + _ ≤ _; exact Nat.le_of_eq rfl) (hb hby at_273) (fun _ _ => ⟨rfl, e226q, (by decide : 21 + 0 ≤ _), (by decide : 206 + 0 ≤ _)⟩)
      dsimp only [Pt.U, Pt.locs, Pt.cells, Pt.slots] at X232 l232 y232 z232 st232 hQ232
      subst l232 y232 z232
      obtain ⟨rfl, N232q, e232q⟩ := hQ232
      have N232 := Fr.app N226 N232q
      obtain ⟨fs, hr, hrun, hended, hEnd⟩ := X232.leaveW (s := s) hS195_ (by rw [show T232.heap = T195.heap from e232q]; exact hk195) (v := (some (.int (1 : Int32)))) (fun h => by rw [Bd.returns] at h; cases h)
      have hCe : CHr Z ([] : List (String × Nat)) s.vm h0 T232.vm T195.heap := R212.trans (CHv.at X232 hZ195 hEL CR195.1)
      refine ⟨_, _, pr157 _ ?_, hrun, hended, _, _, rfl, ?_, ?_, hEnd.1, hEnd.2.1, hEnd.2.2.1, hEnd.2.2.2.mono (by decide) (by decide)⟩
      · show Steps p.tables e below (T129.setTop (mkF m 133 #[.val (.int p1), .val (.int p2), .val (.int p3), .val (.ref b1), .val (.ref b18), .val (.ref b38), .val (.ref b97), .val (.int (p3 &&& (3 : Int32))), .val (.int (0 : Int32)), .val (.ref b38), .unset, .unset] [(.int (2 : Int32)), (.int (p3 &&& (3 : Int32)))])) _
        refine XS.icmpYes X129_.here hx rfl (pc0 := 133) (pc' := 141) rfl (hb hby at_133) rfl (XT.ii_ne_t (hc158 : ¬ ((p3 &&& (3 : Int32)) = (2 : Int32)))) (by decide) (by decide) ?_
        show Steps p.tables e below (T129.setTop (mkF m 141 #[.val (.int p1), .val (.int p2), .val (.int p3), .val (.ref b1), .val (.ref b18), .val (.ref b38), .val (.ref b97), .val (.int (p3 &&& (3 : Int32))), .val (.int (0 : Int32)), .val (.ref b38), .unset, .unset] [])) _
        refine XS.aload X129_.here hx rfl (hb hby at_141) rfl rfl ?_
        show Steps p.tables e below (T129.setTop (mkF m 143 #[.val (.int p1), .val (.int p2), .val (.int p3), .val (.ref b1), .val (.ref b18), .val (.ref b38), .val (.ref b97), .val (.int (p3 &&& (3 : Int32))), .val (.int (0 : Int32)), .val (.ref b38), .unset, .unset] [(.ref b97)])) _
        refine XS.astore X129_.here hx rfl (hb hby at_143) rfl rfl (l' := #[.val (.int p1), .val (.int p2), .val (.int p3), .val (.ref b1), .val (.ref b18), .val (.ref b38), .val (.ref b97), .val (.int (p3 &&& (3 : Int32))), .val (.int (0 : Int32)), .val (.ref b38), .val (.ref b97), .unset]) rfl ?_
        show Steps p.tables e below (T129.setTop (mkF m 145 #[.val (.int p1), .val (.int p2), .val (.int p3), .val (.ref b1), .val (.ref b18), .val (.ref b38), .val (.ref b97), .val (.int (p3 &&& (3 : Int32))), .val (.int (0 : Int32)), .val (.ref b38), .val (.ref b97), .unset] [])) _
        refine XS.aload X129_.here hx rfl (hb hby at_145) rfl rfl ?_
        show Steps p.tables e below (T129.setTop (mkF m 147 #[.val (.int p1), .val (.int p2), .val (.int p3), .val (.ref b1), .val (.ref b18), .val (.ref b38), .val (.ref b97), .val (.int (p3 &&& (3 : Int32))), .val (.int (0 : Int32)), .val (.ref b38), .val (.ref b97), .unset] [(.ref b38)])) _
        refine XS.aload X129_.here hx rfl (hb hby at_147) rfl rfl ?_
        show Steps p.tables e below (T129.setTop (mkF m 149 #[.val (.int p1), .val (.int p2), .val (.int p3), .val (.ref b1), .val (.ref b18), .val (.ref b38), .val (.ref b97), .val (.int (p3 &&& (3 : Int32))), .val (.int (0 : Int32)), .val (.ref b38), .val (.ref b97), .unset] [(.ref b97), (.ref b38)])) _
        refine st195.trans ?_
        show Steps p.tables e below (T195.setTop (mkF m 152 #[.val (.int p1), .val (.int p2), .val (.int p3), .val (.ref b1), .val (.ref b18), .val (.ref b38), .val (.ref b97), .val (.int (p3 &&& (3 : Int32))), .val (.int (0 : Int32)), .val (.ref b38), .val (.ref b97), .unset] [(.ref b203)])) _
        refine XS.astore X195_.here hx rfl (hb hby at_152) rfl rfl (l' := #[.val (.int p1), .val (.int p2), .val (.int p3), .val (.ref b1), .val (.ref b18), .val (.ref b38), .val (.ref b97), .val (.int (p3 &&& (3 : Int32))), .val (.int (0 : Int32)), .val (.ref b38), .val (.ref b97), .val (.ref b203)]) rfl ?_
        show Steps p.tables e below (T195.setTop (mkF m 154 #[.val (.int p1), .val (.int p2), .val (.int p3), .val (.ref b1), .val (.ref b18), .val (.ref b38), .val (.ref b97), .val (.int (p3 &&& (3 : Int32))), .val (.int (0 : Int32)), .val (.ref b38), .val (.ref b97), .val (.ref b203)] [])) _
        refine XS.aload X195_.here hx rfl (hb hby at_154) rfl rfl ?_
        show Steps p.tables e below (T195.setTop (mkF m 156 #[.val (.int p1), .val (.int p2), .val (.int p3), .val (.ref b1), .val (.ref b18), .val (.ref b38), .val (.ref b97), .val (.int (p3 &&& (3 : Int32))), .val (.int (0 : Int32)), .val (.ref b38), .val (.ref b97), .val (.ref b203)] [(.ref b203)])) _
        refine XS.ifnullNo X195_.here hx rfl (hb hby at_156) rfl ?_
        show Steps p.tables e below (T195.setTop (mkF m 159 #[.val (.int p1), .val (.int p2), .val (.int p3), .val (.ref b1), .val (.ref b18), .val (.ref b38), .val (.ref b97), .val (.int (p3 &&& (3 : Int32))), .val (.int (0 : Int32)), .val (.ref b38), .val (.ref b97), .val (.ref b203)] [])) _
        refine XS.aload X195_.here hx rfl (hb hby at_159) rfl rfl ?_
        show Steps p.tables e below (T195.setTop (mkF m 161 #[.val (.int p1), .val (.int p2), .val (.int p3), .val (.ref b1), .val (.ref b18), .val (.ref b38), .val (.ref b97), .val (.int (p3 &&& (3 : Int32))), .val (.int (0 : Int32)), .val (.ref b38), .val (.ref b97), .val (.ref b203)] [(.ref b203)])) _
        refine XS.aload X195_.here hx rfl (hb hby at_161) rfl rfl ?_
        show Steps p.tables e below (T195.setTop (mkF m 163 #[.val (.int p1), .val (.int p2), .val (.int p3), .val (.ref b1), .val (.ref b18), .val (.ref b38), .val (.ref b97), .val (.int (p3 &&& (3 : Int32))), .val (.int (0 : Int32)), .val (.ref b38), .val (.ref b97), .val (.ref b203)] [(.ref b38), (.ref b203)])) _
        refine Jvm.RoadKit.acmp (g := (mkF m 163 #[.val (.int p1), .val (.int p2), .val (.int p3), .val (.ref b1), .val (.ref b18), .val (.ref b38), .val (.ref b97), .val (.int (p3 &&& (3 : Int32))), .val (.int (0 : Int32)), .val (.ref b38), .val (.ref b97), .val (.ref b203)] [(.ref b38), (.ref b203)])) X195_ hx rfl rfl rfl (pc0 := 163) (pc' := 166) (same := false) rfl (hb hby at_163) rfl (decide_eq_false fun q => (Ne.symm (Nat.ne_of_lt (Nat.lt_of_lt_of_le (Nat.lt_of_lt_of_le A38.lt (Nat.le_trans (Nat.le_trans (Nat.le_trans (Nat.le_trans (Nat.le_trans (Nat.le_trans E46.1 K52q.1) K71q.1) E97.1) E105.1) K111q.1) K129q.1)) w204))) (Value.ref.inj q)) (by decide) (by decide) ?_
        show Steps p.tables e below (T195.setTop (mkF m 166 #[.val (.int p1), .val (.int p2), .val (.int p3), .val (.ref b1), .val (.ref b18), .val (.ref b38), .val (.ref b97), .val (.int (p3 &&& (3 : Int32))), .val (.int (0 : Int32)), .val (.ref b38), .val (.ref b97), .val (.ref b203)] [])) _
        refine XS.aload X195_.here hx rfl (hb hby at_166) rfl rfl ?_
        show Steps p.tables e below (T195.setTop (mkF m 168 #[.val (.int p1), .val (.int p2), .val (.int p3), .val (.ref b1), .val (.ref b18), .val (.ref b38), .val (.ref b97), .val (.int (p3 &&& (3 : Int32))), .val (.int (0 : Int32)), .val (.ref b38), .val (.ref b97), .val (.ref b203)] [(.ref b203)])) _
        refine XS.aload X195_.here hx rfl (hb hby at_168) rfl rfl ?_
        show Steps p.tables e below (T195.setTop (mkF m 170 #[.val (.int p1), .val (.int p2), .val (.int p3), .val (.ref b1), .val (.ref b18), .val (.ref b38), .val (.ref b97), .val (.int (p3 &&& (3 : Int32))), .val (.int (0 : Int32)), .val (.ref b38), .val (.ref b97), .val (.ref b203)] [(.ref b97), (.ref b203)])) _
        refine Jvm.RoadKit.acmp (g := (mkF m 170 #[.val (.int p1), .val (.int p2), .val (.int p3), .val (.ref b1), .val (.ref b18), .val (.ref b38), .val (.ref b97), .val (.int (p3 &&& (3 : Int32))), .val (.int (0 : Int32)), .val (.ref b38), .val (.ref b97), .val (.ref b203)] [(.ref b97), (.ref b203)])) X195_ hx rfl rfl rfl (pc0 := 170) (pc' := 175) (same := false) rfl (hb hby at_170) rfl (decide_eq_false fun q => (Ne.symm (Nat.ne_of_lt (Nat.lt_of_lt_of_le (Nat.lt_of_lt_of_le A97.lt (Nat.le_trans (Nat.le_trans E105.1 K111q.1) K129q.1)) w204))) (Value.ref.inj q)) (by decide) (by decide) ?_
        show Steps p.tables e below (T195.setTop (mkF m 175 #[.val (.int p1), .val (.int p2), .val (.int p3), .val (.ref b1), .val (.ref b18), .val (.ref b38), .val (.ref b97), .val (.int (p3 &&& (3 : Int32))), .val (.int (0 : Int32)), .val (.ref b38), .val (.ref b97), .val (.ref b203)] [])) _
        refine XS.aload X195_.here hx rfl (hb hby at_175) rfl rfl ?_
        show Steps p.tables e below (T195.setTop (mkF m 177 #[.val (.int p1), .val (.int p2), .val (.int p3), .val (.ref b1), .val (.ref b18), .val (.ref b38), .val (.ref b97), .val (.int (p3 &&& (3 : Int32))), .val (.int (0 : Int32)), .val (.ref b38), .val (.ref b97), .val (.ref b203)] [(.ref b203)])) _
        refine st213.trans ?_
        show Steps p.tables e below (T213.setTop (mkF m 180 #[.val (.int p1), .val (.int p2), .val (.int p3), .val (.ref b1), .val (.ref b18), .val (.ref b38), .val (.ref b97), .val (.int (p3 &&& (3 : Int32))), .val (.int (0 : Int32)), .val (.ref b38), .val (.ref b97), .val (.ref b203)] [.null])) _
        refine XS.ifnullYes X213.here hx rfl (pc0 := 180) (pc' := 185) rfl (hb hby at_180) rfl (by decide) (by decide) ?_
        show Steps p.tables e below (T213.setTop (mkF m 185 #[.val (.int p1), .val (.int p2), .val (.int p3), .val (.ref b1), .val (.ref b18), .val (.ref b38), .val (.ref b97), .val (.int (p3 &&& (3 : Int32))), .val (.int (0 : Int32)), .val (.ref b38), .val (.ref b97), .val (.ref b203)] [])) _
        refine XS.aload X213.here hx rfl (hb hby at_185) rfl rfl ?_
        show Steps p.tables e below (T213.setTop (mkF m 187 #[.val (.int p1), .val (.int p2), .val (.int p3), .val (.ref b1), .val (.ref b18), .val (.ref b38), .val (.ref b97), .val (.int (p3 &&& (3 : Int32))), .val (.int (0 : Int32)), .val (.ref b38), .val (.ref b97), .val (.ref b203)] [(.ref b203)])) _
        refine st215.trans ?_
        show Steps p.tables e below (T215.setTop (mkF m 190 #[.val (.int p1), .val (.int p2), .val (.int p3), .val (.ref b1), .val (.ref b18), .val (.ref b38), .val (.ref b97), .val (.int (p3 &&& (3 : Int32))), .val (.int (0 : Int32)), .val (.ref b38), .val (.ref b97), .val (.ref b203)] [(.ref b38)])) _
        refine XS.aload X215.here hx rfl (hb hby at_190) rfl rfl ?_
        show Steps p.tables e below (T215.setTop (mkF m 192 #[.val (.int p1), .val (.int p2), .val (.int p3), .val (.ref b1), .val (.ref b18), .val (.ref b38), .val (.ref b97), .val (.int (p3 &&& (3 : Int32))), .val (.int (0 : Int32)), .val (.ref b38), .val (.ref b97), .val (.ref b203)] [(.ref b38), (.ref b38)])) _
        refine Jvm.RoadKit.acmp (g := (mkF m 192 #[.val (.int p1), .val (.int p2), .val (.int p3), .val (.ref b1), .val (.ref b18), .val (.ref b38), .val (.ref b97), .val (.int (p3 &&& (3 : Int32))), .val (.int (0 : Int32)), .val (.ref b38), .val (.ref b97), .val (.ref b203)] [(.ref b38), (.ref b38)])) X215 hx rfl rfl rfl (pc0 := 192) (pc' := 195) (same := true) rfl (hb hby at_192) rfl (decide_eq_true rfl) (by decide) (by decide) ?_
        show Steps p.tables e below (T215.setTop (mkF m 195 #[.val (.int p1), .val (.int p2), .val (.int p3), .val (.ref b1), .val (.ref b18), .val (.ref b38), .val (.ref b97), .val (.int (p3 &&& (3 : Int32))), .val (.int (0 : Int32)), .val (.ref b38), .val (.ref b97), .val (.ref b203)] [])) _
        refine XS.aload X215.here hx rfl (hb hby at_195) rfl rfl ?_
        show Steps p.tables e below (T215.setTop (mkF m 197 #[.val (.int p1), .val (.int p2), .val (.int p3), .val (.ref b1), .val (.ref b18), .val (.ref b38), .val (.ref b97), .val (.int (p3 &&& (3 : Int32))), .val (.int (0 : Int32)), .val (.ref b38), .val (.ref b97), .val (.ref b203)] [(.ref b203)])) _
        refine st216.trans ?_
        show Steps p.tables e below (T216.setTop (mkF m 200 #[.val (.int p1), .val (.int p2), .val (.int p3), .val (.ref b1), .val (.ref b18), .val (.ref b38), .val (.ref b97), .val (.int (p3 &&& (3 : Int32))), .val (.int (0 : Int32)), .val (.ref b38), .val (.ref b97), .val (.ref b203)] [(.ref b97)])) _
        refine XS.aload X216.here hx rfl (hb hby at_200) rfl rfl ?_
        show Steps p.tables e below (T216.setTop (mkF m 202 #[.val (.int p1), .val (.int p2), .val (.int p3), .val (.ref b1), .val (.ref b18), .val (.ref b38), .val (.ref b97), .val (.int (p3 &&& (3 : Int32))), .val (.int (0 : Int32)), .val (.ref b38), .val (.ref b97), .val (.ref b203)] [(.ref b97), (.ref b97)])) _
        refine Jvm.RoadKit.acmp (g := (mkF m 202 #[.val (.int p1), .val (.int p2), .val (.int p3), .val (.ref b1), .val (.ref b18), .val (.ref b38), .val (.ref b97), .val (.int (p3 &&& (3 : Int32))), .val (.int (0 : Int32)), .val (.ref b38), .val (.ref b97), .val (.ref b203)] [(.ref b97), (.ref b97)])) X216 hx rfl rfl rfl (pc0 := 202) (pc' := 205) (same := true) rfl (hb hby at_202) rfl (decide_eq_true rfl) (by decide) (by decide) ?_
        show Steps p.tables e below (T216.setTop (mkF m 205 #[.val (.int p1), .val (.int p2), .val (.int p3), .val (.ref b1), .val (.ref b18), .val (.ref b38), .val (.ref b97), .val (.int (p3 &&& (3 : Int32))), .val (.int (0 : Int32)), .val (.ref b38), .val (.ref b97), .val (.ref b203)] [])) _
        refine XS.aload X216.here hx rfl (hb hby at_205) rfl rfl ?_
        show Steps p.tables e below (T216.setTop (mkF m 207 #[.val (.int p1), .val (.int p2), .val (.int p3), .val (.ref b1), .val (.ref b18), .val (.ref b38), .val (.ref b97), .val (.int (p3 &&& (3 : Int32))), .val (.int (0 : Int32)), .val (.ref b38), .val (.ref b97), .val (.ref b203)] [(.ref b203)])) _
        refine st217.trans ?_
        show Steps p.tables e below (T217.setTop (mkF m 210 #[.val (.int p1), .val (.int p2), .val (.int p3), .val (.ref b1), .val (.ref b18), .val (.ref b38), .val (.ref b97), .val (.int (p3 &&& (3 : Int32))), .val (.int (0 : Int32)), .val (.ref b38), .val (.ref b97), .val (.ref b203)] [(.ref g_AND)])) _
        refine st218 _ ?_
        show Steps p.tables e below (T218.setTop (mkF m 213 #[.val (.int p1), .val (.int p2), .val (.int p3), .val (.ref b1), .val (.ref b18), .val (.ref b38), .val (.ref b97), .val (.int (p3 &&& (3 : Int32))), .val (.int (0 : Int32)), .val (.ref b38), .val (.ref b97), .val (.ref b203)] [(.ref g_AND), (.ref g_AND)])) _
        refine Jvm.RoadKit.acmp (g := (mkF m 213 #[.val (.int p1), .val (.int p2), .val (.int p3), .val (.ref b1), .val (.ref b18), .val (.ref b38), .val (.ref b97), .val (.int (p3 &&& (3 : Int32))), .val (.int (0 : Int32)), .val (.ref b38), .val (.ref b97), .val (.ref b203)] [(.ref g_AND), (.ref g_AND)])) X218 hx rfl rfl rfl (pc0 := 213) (pc' := 218) (same := true) rfl (hb hby at_213) rfl (decide_eq_true rfl) (by decide) (by decide) ?_
        show Steps p.tables e below (T218.setTop (mkF m 218 #[.val (.int p1), .val (.int p2), .val (.int p3), .val (.ref b1), .val (.ref b18), .val (.ref b38), .val (.ref b97), .val (.int (p3 &&& (3 : Int32))), .val (.int (0 : Int32)), .val (.ref b38), .val (.ref b97), .val (.ref b203)] [])) _
        refine XS.iload X218.here hx rfl (hb hby at_218) rfl ?_
        show Steps p.tables e below (T218.setTop (mkF m 220 #[.val (.int p1), .val (.int p2), .val (.int p3), .val (.ref b1), .val (.ref b18), .val (.ref b38), .val (.ref b97), .val (.int (p3 &&& (3 : Int32))), .val (.int (0 : Int32)), .val (.ref b38), .val (.ref b97), .val (.ref b203)] [(.int (0 : Int32))])) _
        refine XS.ifYes X218.here hx rfl (pc0 := 220) (pc' := 246) rfl (hb hby at_220) rfl (XT.i0_eq_t ((by decide) : (0 : Int32) = (0 : Int32))) (by decide) (by decide) ?_
        show Steps p.tables e below (T218.setTop (mkF m 246 #[.val (.int p1), .val (.int p2), .val (.int p3), .val (.ref b1), .val (.ref b18), .val (.ref b38), .val (.ref b97), .val (.int (p3 &&& (3 : Int32))), .val (.int (0 : Int32)), .val (.ref b38), .val (.ref b97), .val (.ref b203)] [])) _
        refine XS.aload X218.here hx rfl (hb hby at_246) rfl rfl ?_
        show Steps p.tables e below (T218.setTop (mkF m 248 #[.val (.int p1), .val (.int p2), .val (.int p3), .val (.ref b1), .val (.ref b18), .val (.ref b38), .val (.ref b97), .val (.int (p3 &&& (3 : Int32))), .val (.int (0 : Int32)), .val (.ref b38), .val (.ref b97), .val (.ref b203)] [(.ref b38)])) _
        refine st219.trans ?_
        show Steps p.tables e below (T219.setTop (mkF m 251 #[.val (.int p1), .val (.int p2), .val (.int p3), .val (.ref b1), .val (.ref b18), .val (.ref b38), .val (.ref b97), .val (.int (p3 &&& (3 : Int32))), .val (.int (0 : Int32)), .val (.ref b38), .val (.ref b97), .val (.ref b203)] [.null])) _
        refine XS.ifnonnullNo X219.here hx rfl (hb hby at_251) rfl ?_
        show Steps p.tables e below (T219.setTop (mkF m 254 #[.val (.int p1), .val (.int p2), .val (.int p3), .val (.ref b1), .val (.ref b18), .val (.ref b38), .val (.ref b97), .val (.int (p3 &&& (3 : Int32))), .val (.int (0 : Int32)), .val (.ref b38), .val (.ref b97), .val (.ref b203)] [])) _
        refine XS.aload X219.here hx rfl (hb hby at_254) rfl rfl ?_
        show Steps p.tables e below (T219.setTop (mkF m 256 #[.val (.int p1), .val (.int p2), .val (.int p3), .val (.ref b1), .val (.ref b18), .val (.ref b38), .val (.ref b97), .val (.int (p3 &&& (3 : Int32))), .val (.int (0 : Int32)), .val (.ref b38), .val (.ref b97), .val (.ref b203)] [(.ref b38)])) _
        refine st226.trans ?_
        show Steps p.tables e below (T226.setTop (mkF m 259 #[.val (.int p1), .val (.int p2), .val (.int p3), .val (.ref b1), .val (.ref b18), .val (.ref b38), .val (.ref b97), .val (.int (p3 &&& (3 : Int32))), .val (.int (0 : Int32)), .val (.ref b38), .val (.ref b97), .val (.ref b203)] [.null])) _
        refine XS.ifnullYes X226.here hx rfl (pc0 := 259) (pc' := 264) rfl (hb hby at_259) rfl (by decide) (by decide) ?_
        show Steps p.tables e below (T226.setTop (mkF m 264 #[.val (.int p1), .val (.int p2), .val (.int p3), .val (.ref b1), .val (.ref b18), .val (.ref b38), .val (.ref b97), .val (.int (p3 &&& (3 : Int32))), .val (.int (0 : Int32)), .val (.ref b38), .val (.ref b97), .val (.ref b203)] [])) _
        refine XS.aload X226.here hx rfl (hb hby at_264) rfl rfl ?_
        show Steps p.tables e below (T226.setTop (mkF m 266 #[.val (.int p1), .val (.int p2), .val (.int p3), .val (.ref b1), .val (.ref b18), .val (.ref b38), .val (.ref b97), .val (.int (p3 &&& (3 : Int32))), .val (.int (0 : Int32)), .val (.ref b38), .val (.ref b97), .val (.ref b203)] [(.ref b97)])) _
        refine XS.aload X226.here hx rfl (hb hby at_266) rfl rfl ?_
        show Steps p.tables e below (T226.setTop (mkF m 268 #[.val (.int p1), .val (.int p2), .val (.int p3), .val (.ref b1), .val (.ref b18), .val (.ref b38), .val (.ref b97), .val (.int (p3 &&& (3 : Int32))), .val (.int (0 : Int32)), .val (.ref b38), .val (.ref b97), .val (.ref b203)] [(.ref b97), (.ref b97)])) _
        refine Jvm.RoadKit.acmp (g := (mkF m 268 #[.val (.int p1), .val (.int p2), .val (.int p3), .val (.ref b1), .val (.ref b18), .val (.ref b38), .val (.ref b97), .val (.int (p3 &&& (3 : Int32))), .val (.int (0 : Int32)), .val (.ref b38), .val (.ref b97), .val (.ref b203)] [(.ref b97), (.ref b97)])) X226 hx rfl rfl rfl (pc0 := 268) (pc' := 271) (same := true) rfl (hb hby at_268) rfl (decide_eq_true rfl) (by decide) (by decide) ?_
        show Steps p.tables e below (T226.setTop (mkF m 271 #[.val (.int p1), .val (.int p2), .val (.int p3), .val (.ref b1), .val (.ref b18), .val (.ref b38), .val (.ref b97), .val (.int (p3 &&& (3 : Int32))), .val (.int (0 : Int32)), .val (.ref b38), .val (.ref b97), .val (.ref b203)] [])) _
        refine XS.aload X226.here hx rfl (hb hby at_271) rfl rfl ?_
        show Steps p.tables e below (T226.setTop (mkF m 273 #[.val (.int p1), .val (.int p2), .val (.int p3), .val (.ref b1), .val (.ref b18), .val (.ref b38), .val (.ref b97), .val (.int (p3 &&& (3 : Int32))), .val (.int (0 : Int32)), .val (.ref b38), .val (.ref b97), .val (.ref b203)] [(.ref b97)])) _
        refine st232.trans ?_
        show Steps p.tables e below (T232.setTop (mkF m 276 #[.val (.int p1), .val (.int p2), .val (.int p3), .val (.ref b1), .val (.ref b18), .val (.ref b38), .val (.ref b97), .val (.int (p3 &&& (3 : Int32))), .val (.int (0 : Int32)), .val (.ref b38), .val (.ref b97), .val (.ref b203)] [.null])) _
        refine XS.ifnullYes X232.here hx rfl (pc0 := 276) (pc' := 281) rfl (hb hby at_276) rfl (by decide) (by decide) ?_
        show Steps p.tables e below (T232.setTop (mkF m 281 #[.val (.int p1), .val (.int p2), .val (.int p3), .val (.ref b1), .val (.ref b18), .val (.ref b38), .val (.ref b97), .val (.int (p3 &&& (3 : Int32))), .val (.int (0 : Int32)), .val (.ref b38), .val (.ref b97), .val (.ref b203)] [])) _
        refine XS.iconst X232.here hx rfl (hb hby at_281) ?_
        show Steps p.tables e below (T232.setTop (mkF m 282 #[.val (.int p1), .val (.int p2), .val (.int p3), .val (.ref b1), .val (.ref b18), .val (.ref b38), .val (.ref b97), .val (.int (p3 &&& (3 : Int32))), .val (.int (0 : Int32)), .val (.ref b38), .val (.ref b97), .val (.ref b203)] [(.int (1 : Int32))])) _
        exact retN X232 hx (t := .boolean) Bd.returns (by simp) (hb hby at_282) hr
      · show Q0 n0 _ T232.heap _
        rw [show T232.heap = T195.heap from e232q]
        exact ⟨rfl, N232⟩
      · show CHr Z ([] : List (String × Nat)) s.vm s.heap T232.vm T232.heap
        rw [hh]
        rw [show T232.heap = T195.heap from e232q]
        exact hCe
  ·
    skip
    have E236_ : Exa Z T129.heap b97 "com/example/ratatoskr/ratatoskr/criteria/Filter" := E131_.keep K129q
    have O237 : Old Z n0 T129.heap := O128.keep K129q (allS g_b97 all0)
    have E238_ : Exa Z T71.heap b38 "com/example/ratatoskr/ratatoskr/criteria/Filter" := E73_.keep K71q
    have E239_ : Exa Z h97 b38 "com/example/ratatoskr/ratatoskr/criteria/Filter" := E238_.ext E97
    have E240_ : Exa Z h105 b38 "com/example/ratatoskr/ratatoskr/criteria/Filter" := E239_.ext E105
    have E241_ : Exa Z T111.heap b38 "com/example/ratatoskr/ratatoskr/criteria/Filter" := E240_.keep K111q
    have E242_ : Exa Z T129.heap b38 "com/example/ratatoskr/ratatoskr/criteria/Filter" := E241_.keep K129q
    obtain ⟨cq235, kq235, q235a, q235b, q235c⟩ := isOf hZ129 rfl E242_
    obtain ⟨_, _, ⟨T235, L235, k235, n235⟩, -, X235, hS235, hgr235, ⟨Lc235, hQ235, l235, y235, z235, CR235⟩, st235⟩ := X129_.virtualBackS hx (y := (⟨"com/example/ratatoskr/ratatoskr/criteria/Filter", "or", "(Lcom/example/ratatoskr/ratatoskr/criteria/Filter;)Lcom/example/ratatoskr/ratatoskr/criteria/Filter;"⟩ : MethodName)) (z := (⟨"com/example/ratatoskr/ratatoskr/criteria/Filter", "or", "(Lcom/example/ratatoskr/ratatoskr/criteria/Filter;)Lcom/example/ratatoskr/ratatoskr/criteria/Filter;"⟩ : MethodName)) ho129 (mvT hZ129 (hw _ (List.mem_of_getElem? (i := 120) rfl))) (mvT hZ129 (hw _ (List.mem_of_getElem? (i := 121) rfl))) (notFace_of_selects (args := #[]) (mvT hZ129 (hw _ (List.mem_of_getElem? (i := 123) rfl)))) (mvT hZ129 (hw _ (List.mem_of_getElem? (i := 123) rfl))) (mvT hZ129 (hw _ (List.mem_of_getElem? (i := 122) rfl))) (by decide) (backOfSH (W := 0) (EL := ([] : List (String × Nat))) (s := s) (rm19 l Z a0 hw [] g_IS_NULL g_AND g_OR b38 b97 T129.heap n0 O237 hEN E236_) hZ129 (hw _ (List.mem_of_getElem? (i := 124) rfl)) (hw _ (List.mem_of_getElem? (i := 3) rfl)) (by decide) (by decide) hEL CR129.1) q235a q235c (g := (mkF m 120 #[.val (.int p1), .val (.int p2), .val (.int p3), .val (.ref b1), .val (.ref b18), .val (.ref b38), .val (.ref b97), .val (.int (p3 &&& (3 : Int32))), .val (.int (1 : Int32)), .unset, .unset, .unset] [(.ref b97), (.ref b38)])) rfl (by rw [hml]; rfl) (Steps.refl _) (argsL := [(.ref b97)]) (rest := []) (lenOf pd8 rfl) rfl (by show 2 * 0 + _ ≤ _; exact Nat.le_of_eq rfl) (hb hby at_120) (fun _ _ => ⟨rfl, rfl, (by decide : 18 + 3 ≤ _), (by decide : 174 + 32 ≤ _)⟩)
    dsimp only [Pt.U, Pt.locs, Pt.cells, Pt.slots] at X235 l235 y235 z235 st235 hQ235 CR235 hS235 hgr235
    subst l235 y235 z235
    obtain ⟨b243, rfl, N235q, K235q, w244, w245, w246, w247, w248, w249⟩ := hQ235
    have N235 := Fr.app N129 N235q
    have hS235_ : s.Since T235.vm T235.heap.size := hS129_.trans hS235 (Nat.le_trans hk129 (show T129.heap.size ≤ T235.heap.size from hgr235))
    have hZ235 : Z.Warmed39 T235.vm := State.Warmed39.trans (t := s.setVm T129.vm) hZ129 hS235.1
    have ho235 : T235.vm.findClass "com/example/ratatoskr/ratatoskr/criteria/FilterAndPinLaw" = some m.cls := by rw [hS235.1.alike.findClass]; exact ho129
    have X235_ : Stand p l e room_1 (s.setVm T235.vm) m #[(.int p1), (.int p2), (.int p3)] below meth c T235 _ _ _ := X235
    have hk235 : T235.heap.size ≤ T235.heap.size := Nat.le_refl _
    have K250 : Keep h0 T235.heap [] := K152.trans K235q (fun x q => nomatch q)
    have R252 : CHr Z ([] : List (String × Nat)) s.vm h0 T235.vm T235.heap := R154.trans CR235
    have pr253 : ∀ t, Steps p.tables e below (T235.setTop (mkF m 133 #[.val (.int p1), .val (.int p2), .val (.int p3), .val (.ref b1), .val (.ref b18), .val (.ref b38), .val (.ref b97), .val (.int (p3 &&& (3 : Int32))), .val (.int (1 : Int32)), .val (.ref b243), .unset, .unset] [(.int (2 : Int32)), (.int (p3 &&& (3 : Int32)))])) t → Steps p.tables e below (s₁.setTop (entryFrame m #[(.int p1), (.int p2), (.int p3)] maxLocals)) t := fun t k => pr155 t (by
      show Steps p.tables e below (T129.setTop (mkF m 101 #[.val (.int p1), .val (.int p2), .val (.int p3), .val (.ref b1), .val (.ref b18), .val (.ref b38), .val (.ref b97), .val (.int (p3 &&& (3 : Int32))), .unset, .unset, .unset, .unset] [(.int ((p3 &&& (3 : Int32)) &&& (1 : Int32)))])) _
      refine XS.ifNo X129_.here hx rfl (hb hby at_101) rfl (XT.i0_eq_f (hc156 : ¬ (((p3 &&& (3 : Int32)) &&& (1 : Int32)) = (0 : Int32)))) ?_
      show Steps p.tables e below (T129.setTop (mkF m 104 #[.val (.int p1), .val (.int p2), .val (.int p3), .val (.ref b1), .val (.ref b18), .val (.ref b38), .val (.ref b97), .val (.int (p3 &&& (3 : Int32))), .unset, .unset, .unset, .unset] [])) _
      refine XS.iconst X129_.here hx rfl (hb hby at_104) ?_
      show Steps p.tables e below (T129.setTop (mkF m 105 #[.val (.int p1), .val (.int p2), .val (.int p3), .val (.ref b1), .val (.ref b18), .val (.ref b38), .val (.ref b97), .val (.int (p3 &&& (3 : Int32))), .unset, .unset, .unset, .unset] [(.int (1 : Int32))])) _
      refine XS.goto X129_.here hx rfl (pc0 := 105) (pc' := 109) rfl (hb hby at_105) (by decide) (by decide) ?_
      show Steps p.tables e below (T129.setTop (mkF m 109 #[.val (.int p1), .val (.int p2), .val (.int p3), .val (.ref b1), .val (.ref b18), .val (.ref b38), .val (.ref b97), .val (.int (p3 &&& (3 : Int32))), .unset, .unset, .unset, .unset] [(.int (1 : Int32))])) _
      refine XS.istore X129_.here hx rfl (hb hby at_109) rfl (l' := #[.val (.int p1), .val (.int p2), .val (.int p3), .val (.ref b1), .val (.ref b18), .val (.ref b38), .val (.ref b97), .val (.int (p3 &&& (3 : Int32))), .val (.int (1 : Int32)), .unset, .unset, .unset]) rfl ?_
      show Steps p.tables e below (T129.setTop (mkF m 111 #[.val (.int p1), .val (.int p2), .val (.int p3), .val (.ref b1), .val (.ref b18), .val (.ref b38), .val (.ref b97), .val (.int (p3 &&& (3 : Int32))), .val (.int (1 : Int32)), .unset, .unset, .unset] [])) _
      refine XS.iload X129_.here hx rfl (hb hby at_111) rfl ?_
      show Steps p.tables e below (T129.setTop (mkF m 113 #[.val (.int p1), .val (.int p2), .val (.int p3), .val (.ref b1), .val (.ref b18), .val (.ref b38), .val (.ref b97), .val (.int (p3 &&& (3 : Int32))), .val (.int (1 : Int32)), .unset, .unset, .unset] [(.int (1 : Int32))])) _
      refine XS.ifNo X129_.here hx rfl (hb hby at_113) rfl (XT.i0_eq_f ((by decide) : ¬ ((1 : Int32) = (0 : Int32)))) ?_
      show Steps p.tables e below (T129.setTop (mkF m 116 #[.val (.int p1), .val (.int p2), .val (.int p3), .val (.ref b1), .val (.ref b18), .val (.ref b38), .val (.ref b97), .val (.int (p3 &&& (3 : Int32))), .val (.int (1 : Int32)), .unset, .unset, .unset] [])) _
      refine XS.aload X129_.here hx rfl (hb hby at_116) rfl rfl ?_
      show Steps p.tables e below (T129.setTop (mkF m 118 #[.val (.int p1), .val (.int p2), .val (.int p3), .val (.ref b1), .val (.ref b18), .val (.ref b38), .val (.ref b97), .val (.int (p3 &&& (3 : Int32))), .val (.int (1 : Int32)), .unset, .unset, .unset] [(.ref b38)])) _
      refine XS.aload X129_.here hx rfl (hb hby at_118) rfl rfl ?_
      show Steps p.tables e below (T129.setTop (mkF m 120 #[.val (.int p1), .val (.int p2), .val (.int p3), .val (.ref b1), .val (.ref b18), .val (.ref b38), .val (.ref b97), .val (.int (p3 &&& (3 : Int32))), .val (.int (1 : Int32)), .unset, .unset, .unset] [(.ref b97), (.ref b38)])) _
      refine st235.trans ?_
      show Steps p.tables e below (T235.setTop (mkF m 123 #[.val (.int p1), .val (.int p2), .val (.int p3), .val (.ref b1), .val (.ref b18), .val (.ref b38), .val (.ref b97), .val (.int (p3 &&& (3 : Int32))), .val (.int (1 : Int32)), .unset, .unset, .unset] [(.ref b243)])) _
      refine XS.goto X235_.here hx rfl (pc0 := 123) (pc' := 128) rfl (hb hby at_123) (by decide) (by decide) ?_
      show Steps p.tables e below (T235.setTop (mkF m 128 #[.val (.int p1), .val (.int p2), .val (.int p3), .val (.ref b1), .val (.ref b18), .val (.ref b38), .val (.ref b97), .val (.int (p3 &&& (3 : Int32))), .val (.int (1 : Int32)), .unset, .unset, .unset] [(.ref b243)])) _
      refine XS.astore X235_.here hx rfl (hb hby at_128) rfl rfl (l' := #[.val (.int p1), .val (.int p2), .val (.int p3), .val (.ref b1), .val (.ref b18), .val (.ref b38), .val (.ref b97), .val (.int (p3 &&& (3 : Int32))), .val (.int (1 : Int32)), .val (.ref b243), .unset, .unset]) rfl ?_
      show Steps p.tables e below (T235.setTop (mkF m 130 #[.val (.int p1), .val (.int p2), .val (.int p3), .val (.ref b1), .val (.ref b18), .val (.ref b38), .val (.ref b97), .val (.int (p3 &&& (3 : Int32))), .val (.int (1 : Int32)), .val (.ref b243), .unset, .unset] [])) _
      refine XS.iload X235_.here hx rfl (hb hby at_130) rfl ?_
      show Steps p.tables e below (T235.setTop (mkF m 132 #[.val (.int p1), .val (.int p2), .val (.int p3), .val (.ref b1), .val (.ref b18), .val (.ref b38), .val (.ref b97), .val (.int (p3 &&& (3 : Int32))), .val (.int (1 : Int32)), .val (.ref b243), .unset, .unset] [(.int (p3 &&& (3 : Int32)))])) _
      refine XS.iconst X235_.here hx rfl (hb hby at_132) ?_
      exact k)
    by_cases hc254 : (p3 &&& (3 : Int32)) = (2 : Int32)
    ·
      skip
      have O256 : Old Z n0 T235.heap := O237.keep K235q all0
      obtain ⟨cq255, kq255, q255a, q255b, q255c⟩ := isOf hZ235 rfl w245
      obtain ⟨_, _, ⟨T255, L255, k255, n255⟩, -, X255, hS255, hgr255, ⟨Lc255, hQ255, l255, y255, z255, CR255⟩, st255⟩ := X235_.virtualBackS hx (y := (⟨"com/example/ratatoskr/ratatoskr/criteria/Filter", "and", "(Lcom/example/ratatoskr/ratatoskr/criteria/Filter;)Lcom/example/ratatoskr/ratatoskr/criteria/Filter;"⟩ : MethodName)) (z := (⟨"com/example/ratatoskr/ratatoskr/criteria/Filter", "and", "(Lcom/example/ratatoskr/ratatoskr/criteria/Filter;)Lcom/example/ratatoskr/ratatoskr/criteria/Filter;"⟩ : MethodName)) ho235 (mvT hZ235 (hw _ (List.mem_of_getElem? (i := 84) rfl))) (mvT hZ235 (hw _ (List.mem_of_getElem? (i := 85) rfl))) (notFace_of_selects (args := #[]) (mvT hZ235 (hw _ (List.mem_of_getElem? (i := 87) rfl)))) (mvT hZ235 (hw _ (List.mem_of_getElem? (i := 87) rfl))) (mvT hZ235 (hw _ (List.mem_of_getElem? (i := 86) rfl))) (by decide) (backOfSH (W := 0) (EL := ([] : List (String × Nat))) (s := s) (rm9 l Z a0 hw [] g_IS_NULL g_AND g_OR b243 T235.heap n0 O256 hEN w245) hZ235 (hw _ (List.mem_of_getElem? (i := 88) rfl)) (hw _ (List.mem_of_getElem? (i := 3) rfl)) (by decide) (by decide) hEL CR235.1) q255a q255c (g := (mkF m 149 #[.val (.int p1), .val (.int p2), .val (.int p3), .val (.ref b1), .val (.ref b18), .val (.ref b38), .val (.ref b97), .val (.int (p3 &&& (3 : Int32))), .val (.int (1 : Int32)), .val (.ref b243), .val (.ref b243), .unset] [(.ref b243), (.ref b243)])) rfl (by rw [hml]; rfl) (Steps.refl _) (argsL := [(.ref b243)]) (rest := []) (lenOf pd8 rfl) rfl (by show 2 * 0 + _ ≤ _; exact Nat.le_of_eq rfl) (hb hby at_149) (fun _ _ => ⟨rfl, rfl, (by decide : 21 + 3 ≤ _), (by decide : 206 + 32 ≤ _)⟩)
      dsimp only [Pt.U, Pt.locs, Pt.cells, Pt.slots] at X255 l255 y255 z255 st255 hQ255 CR255 hS255 hgr255
      subst l255 y255 z255
      obtain ⟨b257, rfl, N255q, K255q, w258, w259, w260, w261, w262, w263⟩ := hQ255
      have N255 := Fr.app N235 N255q
      have hS255_ : s.Since T255.vm T255.heap.size := hS235_.trans hS255 (Nat.le_trans hk235 (show T235.heap.size ≤ T255.heap.size from hgr255))
      have hZ255 : Z.Warmed39 T255.vm := State.Warmed39.trans (t := s.setVm T235.vm) hZ235 hS255.1
      have ho255 : T255.vm.findClass "com/example/ratatoskr/ratatoskr/criteria/FilterAndPinLaw" = some m.cls := by rw [hS255.1.alike.findClass]; exact ho235
      have X255_ : Stand p l e room_1 (s.setVm T255.vm) m #[(.int p1), (.int p2), (.int p3)] below meth c T255 _ _ _ := X255
      have hk255 : T255.heap.size ≤ T255.heap.size := Nat.le_refl _
      have K264 : Keep h0 T255.heap [] := K250.trans K255q (fun x q => nomatch q)
      have R266 : CHr Z ([] : List (String × Nat)) s.vm h0 T255.vm T255.heap := R252.trans CR255
      have O268 : Old Z n0 T255.heap := O256.keep K255q all0
      obtain ⟨cq267, kq267, q267a, q267b, q267c⟩ := isOf hZ255 rfl w259
      obtain ⟨_, _, ⟨T267, L267, k267, n267⟩, -, X267, ⟨Lc267, hQ267, l267, y267, z267⟩, st267⟩ := X255_.virtualBack hx (y := (⟨"com/example/ratatoskr/ratatoskr/criteria/Filter", "comparison", "()Lcom/example/ratatoskr/ratatoskr/criteria/Filter$Comparison;"⟩ : MethodName)) (z := (⟨"com/example/ratatoskr/ratatoskr/criteria/Filter", "comparison", "()Lcom/example/ratatoskr/ratatoskr/criteria/Filter$Comparison;"⟩ : MethodName)) ho255 (mvT hZ255 (hw _ (List.mem_of_getElem? (i := 99) rfl))) (mvT hZ255 (hw _ (List.mem_of_getElem? (i := 100) rfl))) (notFace_of_selects (args := #[]) (mvT hZ255 (hw _ (List.mem_of_getElem? (i := 102) rfl)))) (mvT hZ255 (hw _ (List.mem_of_getElem? (i := 102) rfl))) (mvT hZ255 (hw _ (List.mem_of_getElem? (i := 101) rfl))) (by decide) (backOf (s := s.setVm T255.vm) (W := 0) (rm10 l Z a0 hw []  b257 T255.heap n0 O268 w260) hZ255 (hw _ (List.mem_of_getElem? (i := 103) rfl)) (hw _ (List.mem_of_getElem? (i := 3) rfl)) (by decide) (by decide)) q267a q267c (g := (mkF m 177 #[.val (.int p1), .val (.int p2), .val (.int p3), .val (.ref b1), .val (.ref b18), .val (.ref b38), .val (.ref b97), .val (.int (p3 &&& (3 : Int32))), .val (.int (1 : Int32)), .val (.ref b243), .val (.ref b243), .val (.ref b257)] [(.ref b257)])) rfl (by rw [hml]; rfl) (Steps.refl _) (argsL := []) (rest := []) (lenOf pd9 rfl) rfl (by show 2 * 0 + _ ≤ _; exact Nat.le_of_eq rfl) (hb hby at_177) (fun _ _ => ⟨rfl, rfl, (by decide : 24 + 0 ≤ _), (by decide : 238 + 0 ≤ _)⟩)
      dsimp only [Pt.U, Pt.locs, Pt.cells, Pt.slots] at X267 l267 y267 z267 st267 hQ267
      subst l267 y267 z267
      obtain ⟨rfl, N267q, e267q⟩ := hQ267
      have N267 := Fr.app N255 N267q
      obtain ⟨cq269, kq269, q269a, q269b, q269c⟩ := isOf hZ255 e267q w259
      obtain ⟨_, _, ⟨T269, L269, k269, n269⟩, -, X269, ⟨Lc269, hQ269, l269, y269, z269⟩, st269⟩ := X267.virtualBack hx (y := (⟨"com/example/ratatoskr/ratatoskr/criteria/Filter", "left", "()Lcom/example/ratatoskr/ratatoskr/criteria/Filter;"⟩ : MethodName)) (z := (⟨"com/example/ratatoskr/ratatoskr/criteria/Filter", "left", "()Lcom/example/ratatoskr/ratatoskr/criteria/Filter;"⟩ : MethodName)) ho255 (mvT hZ255 (hw _ (List.mem_of_getElem? (i := 104) rfl))) (mvT hZ255 (hw _ (List.mem_of_getElem? (i := 105) rfl))) (notFace_of_selects (args := #[]) (mvT hZ255 (hw _ (List.mem_of_getElem? (i := 107) rfl)))) (mvT hZ255 (hw _ (List.mem_of_getElem? (i := 107) rfl))) (mvT hZ255 (hw _ (List.mem_of_getElem? (i := 106) rfl))) (by decide) (backOf (s := s.setVm T255.vm) (W := 0) (rm11 l Z a0 hw []  b257 b243 T255.heap n0 O268 w261) hZ255 (hw _ (List.mem_of_getElem? (i := 108) rfl)) (hw _ (List.mem_of_getElem? (i := 3) rfl)) (by decide) (by decide)) q269a q269c (g := (mkF m 187 #[.val (.int p1), .val (.int p2), .val (.int p3), .val (.ref b1), .val (.ref b18), .val (.ref b38), .val (.ref b97), .val (.int (p3 &&& (3 : Int32))), .val (.int (1 : Int32)), .val (.ref b243), .val (.ref b243), .val (.ref b257)] [(.ref b257)])) rfl (by rw [hml]; rfl) (Steps.refl _) (argsL := []) (rest := []) (lenOf pd10 rfl) rfl (by show 2 * 0 + _ ≤ _; exact Nat.le_of_eq rfl) (hb hby at_187) (fun _ _ => ⟨rfl, e267q, (by decide : 24 + 0 ≤ _), (by decide : 238 + 0 ≤ _)⟩)
      dsimp only [Pt.U, Pt.locs, Pt.cells, Pt.slots] at X269 l269 y269 z269 st269 hQ269
      subst l269 y269 z269
      obtain ⟨rfl, N269q, e269q⟩ := hQ269
      have N269 := Fr.app N267 N269q
      obtain ⟨cq270, kq270, q270a, q270b, q270c⟩ := isOf hZ255 e269q w259
      obtain ⟨_, _, ⟨T270, L270, k270, n270⟩, -, X270, ⟨Lc270, hQ270, l270, y270, z270⟩, st270⟩ := X269.virtualBack hx (y := (⟨"com/example/ratatoskr/ratatoskr/criteria/Filter", "right", "()Lcom/example/ratatoskr/ratatoskr/criteria/Filter;"⟩ : MethodName)) (z := (⟨"com/example/ratatoskr/ratatoskr/criteria/Filter", "right", "()Lcom/example/ratatoskr/ratatoskr/criteria/Filter;"⟩ : MethodName)) ho255 (mvT hZ255 (hw _ (List.mem_of_getElem? (i := 109) rfl))) (mvT hZ255 (hw _ (List.mem_of_getElem? (i := 110) rfl))) (notFace_of_selects (args := #[]) (mvT hZ255 (hw _ (List.mem_of_getElem? (i := 112) rfl)))) (mvT hZ255 (hw _ (List.mem_of_getElem? (i := 112) rfl))) (mvT hZ255 (hw _ (List.mem_of_getElem? (i := 111) rfl))) (by decide) (backOf (s := s.setVm T255.vm) (W := 0) (rm12 l Z a0 hw []  b257 b243 T255.heap n0 O268 w263) hZ255 (hw _ (List.mem_of_getElem? (i := 113) rfl)) (hw _ (List.mem_of_getElem? (i := 3) rfl)) (by decide) (by decide)) q270a q270c (g := (mkF m 197 #[.val (.int p1), .val (.int p2), .val (.int p3), .val (.ref b1), .val (.ref b18), .val (.ref b38), .val (.ref b97), .val (.int (p3 &&& (3 : Int32))), .val (.int (1 : Int32)), .val (.ref b243), .val (.ref b243), .val (.ref b257)] [(.ref b257)])) rfl (by rw [hml]; rfl) (Steps.refl _) (argsL := []) (rest := []) (lenOf pd10 rfl) rfl (by show 2 * 0 + _ ≤ _; exact Nat.le_of_eq rfl) (hb hby at_197) (fun _ _ => ⟨rfl, e269q, (by decide : 24 + 0 ≤ _), (by decide : 238 + 0 ≤ _)⟩)
      dsimp only [Pt.U, Pt.locs, Pt.cells, Pt.slots] at X270 l270 y270 z270 st270 hQ270
      subst l270 y270 z270
      obtain ⟨rfl, N270q, e270q⟩ := hQ270
      have N270 := Fr.app N269 N270q
      obtain ⟨cq271, kq271, q271a, q271b, q271c⟩ := isOf hZ255 e270q w259
      obtain ⟨_, _, ⟨T271, L271, k271, n271⟩, -, X271, ⟨Lc271, hQ271, l271, y271, z271⟩, st271⟩ := X270.virtualBack hx (y := (⟨"com/example/ratatoskr/ratatoskr/criteria/Filter", "junction", "()Lcom/example/ratatoskr/ratatoskr/criteria/Filter$Junction;"⟩ : MethodName)) (z := (⟨"com/example/ratatoskr/ratatoskr/criteria/Filter", "junction", "()Lcom/example/ratatoskr/ratatoskr/criteria/Filter$Junction;"⟩ : MethodName)) ho255 (mvT hZ255 (hw _ (List.mem_of_getElem? (i := 114) rfl))) (mvT hZ255 (hw _ (List.mem_of_getElem? (i := 115) rfl))) (notFace_of_selects (args := #[]) (mvT hZ255 (hw _ (List.mem_of_getElem? (i := 117) rfl)))) (mvT hZ255 (hw _ (List.mem_of_getElem? (i := 117) rfl))) (mvT hZ255 (hw _ (List.mem_of_getElem? (i := 116) rfl))) (by decide) (backOf (s := s.setVm T255.vm) (W := 0) (rm13 l Z a0 hw [] g_IS_NULL g_AND g_OR b257 T255.heap n0 O268 hEN w262) hZ255 (hw _ (List.mem_of_getElem? (i := 118) rfl)) (hw _ (List.mem_of_getElem? (i := 3) rfl)) (by decide) (by decide)) q271a q271c (g := (mkF m 207 #[.val (.int p1), .val (.int p2), .val (.int p3), .val (.ref b1), .val (.ref b18), .val (.ref b38), .val (.ref b97), .val (.int (p3 &&& (3 : Int32))), .val (.int (1 : Int32)), .val (.ref b243), .val (.ref b243), .val (.ref b257)] [(.ref b257)])) rfl (by rw [hml]; rfl) (Steps.refl _) (argsL := []) (rest := []) (lenOf pd11 rfl) rfl (by show 2 * 0 + _ ≤ _; exact Nat.le_of_eq rfl) (hb hby at_207) (fun _ _ => ⟨rfl, e270q, (by decide : 24 + 0 ≤ _), (by decide : 238 + 0 ≤ _)⟩)
      dsimp only [Pt.U, Pt.locs, Pt.cells, Pt.slots] at X271 l271 y271 z271 st271 hQ271
      subst l271 y271 z271
      obtain ⟨rfl, N271q, e271q⟩ := hQ271
      have N271 := Fr.app N270 N271q
      obtain ⟨T272, X272, e272, st272⟩ := getS2 X271 hx hZ255 ho255 (host := "") (Or.inl (hw _ (List.mem_of_getElem? (i := 119) rfl))) Via.refl e271q (hEN.2.2.1.ext O268.2) (g := (mkF m 210 #[.val (.int p1), .val (.int p2), .val (.int p3), .val (.ref b1), .val (.ref b18), .val (.ref b38), .val (.ref b97), .val (.int (p3 &&& (3 : Int32))), .val (.int (1 : Int32)), .val (.ref b243), .val (.ref b243), .val (.ref b257)] [(.ref g_AND)])) rfl (hb hby at_210)
      have F274_ : Fld Z T255.heap b243 "com/example/ratatoskr/ratatoskr/criteria/Filter" "junction" "Lcom/example/ratatoskr/ratatoskr/criteria/Filter$Junction;" (.ref g_OR) := w248.keep K255q nin0
      have E275_ : Exa Z T255.heap b243 "com/example/ratatoskr/ratatoskr/criteria/Filter" := w245.keep K255q
      obtain ⟨cq273, kq273, q273a, q273b, q273c⟩ := isOf hZ255 e272 E275_
      obtain ⟨_, _, ⟨T273, L273, k273, n273⟩, -, X273, ⟨Lc273, hQ273, l273, y273, z273⟩, st273⟩ := X272.virtualBack hx (y := (⟨"com/example/ratatoskr/ratatoskr/criteria/Filter", "junction", "()Lcom/example/ratatoskr/ratatoskr/criteria/Filter$Junction;"⟩ : MethodName)) (z := (⟨"com/example/ratatoskr/ratatoskr/criteria/Filter", "junction", "()Lcom/example/ratatoskr/ratatoskr/criteria/Filter$Junction;"⟩ : MethodName)) ho255 (mvT hZ255 (hw _ (List.mem_of_getElem? (i := 114) rfl))) (mvT hZ255 (hw _ (List.mem_of_getElem? (i := 115) rfl))) (notFace_of_selects (args := #[]) (mvT hZ255 (hw _ (List.mem_of_getElem? (i := 117) rfl)))) (mvT hZ255 (hw _ (List.mem_of_getElem? (i := 117) rfl))) (mvT hZ255 (hw _ (List.mem_of_getElem? (i := 116) rfl))) (by decide) (backOf (s := s.setVm T255.vm) (W := 0) (rm20 l Z a0 hw [] g_IS_NULL g_AND g_OR b243 T255.heap n0 O268 hEN F274_) hZ255 (hw _ (List.mem_of_getElem? (i := 118) rfl)) (hw _ (List.mem_of_getElem? (i := 3) rfl)) (by decide) (by decide)) q273a q273c (g := (mkF m 225 #[.val (.int p1), .val (.int p2), .val (.int p3), .val (.ref b1), .val (.ref b18), .val (.ref b38), .val (.ref b97), .val (.int (p3 &&& (3 : Int32))), .val (.int (1 : Int32)), .val (.ref b243), .val (.ref b243), .val (.ref b257)] [(.ref b243)])) rfl (by rw [hml]; rfl) (Steps.refl _) (argsL := []) (rest := []) (lenOf pd11 rfl) rfl (by show 2 * 0 + _ ≤ _; exact Nat.le_of_eq rfl) (hb hby at_225) (fun _ _ => ⟨rfl, e272, (by decide : 24 + 0 ≤ _), (by decide : 238 + 0 ≤ _)⟩)
      dsimp only [Pt.U, Pt.locs, Pt.cells, Pt.slots] at X273 l273 y273 z273 st273 hQ273
      subst l273 y273 z273
      obtain ⟨rfl, N273q, e273q⟩ := hQ273
      have N273 := Fr.app N271 N273q
      obtain ⟨T276, X276, e276, st276⟩ := getS2 X273 hx hZ255 ho255 (host := "") (Or.inl (hw _ (List.mem_of_getElem? (i := 127) rfl))) Via.refl e273q (hEN.2.2.2.2.1.ext O268.2) (g := (mkF m 228 #[.val (.int p1), .val (.int p2), .val (.int p3), .val (.ref b1), .val (.ref b18), .val (.ref b38), .val (.ref b97), .val (.int (p3 &&& (3 : Int32))), .val (.int (1 : Int32)), .val (.ref b243), .val (.ref b243), .val (.ref b257)] [(.ref g_OR)])) rfl (hb hby at_228)
      have F278_ : Fld Z T255.heap b243 "com/example/ratatoskr/ratatoskr/criteria/Filter" "left" "Lcom/example/ratatoskr/ratatoskr/criteria/Filter;" (.ref b38) := w247.keep K255q nin0
      obtain ⟨cq277, kq277, q277a, q277b, q277c⟩ := isOf hZ255 e276 E275_
      obtain ⟨_, _, ⟨T277, L277, k277, n277⟩, -, X277, ⟨Lc277, hQ277, l277, y277, z277⟩, st277⟩ := X276.virtualBack hx (y := (⟨"com/example/ratatoskr/ratatoskr/criteria/Filter", "left", "()Lcom/example/ratatoskr/ratatoskr/criteria/Filter;"⟩ : MethodName)) (z := (⟨"com/example/ratatoskr/ratatoskr/criteria/Filter", "left", "()Lcom/example/ratatoskr/ratatoskr/criteria/Filter;"⟩ : MethodName)) ho255 (mvT hZ255 (hw _ (List.mem_of_getElem? (i := 104) rfl))) (mvT hZ255 (hw _ (List.mem_of_getElem? (i := 105) rfl))) (notFace_of_selects (args := #[]) (mvT hZ255 (hw _ (List.mem_of_getElem? (i := 107) rfl)))) (mvT hZ255 (hw _ (List.mem_of_getElem? (i := 107) rfl))) (mvT hZ255 (hw _ (List.mem_of_getElem? (i := 106) rfl))) (by decide) (backOf (s := s.setVm T255.vm) (W := 0) (rm11 l Z a0 hw []  b243 b38 T255.heap n0 O268 F278_) hZ255 (hw _ (List.mem_of_getElem? (i := 108) rfl)) (hw _ (List.mem_of_getElem? (i := 3) rfl)) (by decide) (by decide)) q277a q277c (g := (mkF m 236 #[.val (.int p1), .val (.int p2), .val (.int p3), .val (.ref b1), .val (.ref b18), .val (.ref b38), .val (.ref b97), .val (.int (p3 &&& (3 : Int32))), .val (.int (1 : Int32)), .val (.ref b243), .val (.ref b243), .val (.ref b257)] [(.ref b243)])) rfl (by rw [hml]; rfl) (Steps.refl _) (argsL := []) (rest := []) (lenOf pd10 rfl) rfl (by show 2 * 0 + _ ≤ _; exact Nat.le_of_eq rfl) (hb hby at_236) (fun _ _ => ⟨rfl, e276, (by decide : 24 + 0 ≤ _), (by decide : 238 + 0 ≤ _)⟩)
      dsimp only [Pt.U, Pt.locs, Pt.cells, Pt.slots] at X277 l277 y277 z277 st277 hQ277
      subst l277 y277 z277
      obtain ⟨rfl, N277q, e277q⟩ := hQ277
      have N277 := Fr.app N273 N277q
      obtain ⟨fs, hr, hrun, hended, hEnd⟩ := X277.leaveW (s := s) hS255_ (by rw [show T277.heap = T255.heap from e277q]; exact hk255) (v := (some (.int (1 : Int32)))) (fun h => by rw [Bd.returns] at h; cases h)
      have hCe : CHr Z ([] : List (String × Nat)) s.vm h0 T277.vm T255.heap := R266.trans (CHv.at X277 hZ255 hEL CR255.1)
      refine ⟨_, _, pr253 _ ?_, hrun, hended, _, _, rfl, ?_, ?_, hEnd.1, hEnd.2.1, hEnd.2.2.1, hEnd.2.2.2.mono (by decide) (by decide)⟩
      · show Steps p.tables e below (T235.setTop (mkF m 133 #[.val (.int p1), .val (.int p2), .val (.int p3), .val (.ref b1), .val (.ref b18), .val (.ref b38), .val (.ref b97), .val (.int (p3 &&& (3 : Int32))), .val (.int (1 : Int32)), .val (.ref b243), .unset, .unset] [(.int (2 : Int32)), (.int (p3 &&& (3 : Int32)))])) _
        refine XS.icmpNo X235_.here hx rfl (hb hby at_133) rfl (XT.ii_ne_f (hc254 : (p3 &&& (3 : Int32)) = (2 : Int32))) ?_
        show Steps p.tables e below (T235.setTop (mkF m 136 #[.val (.int p1), .val (.int p2), .val (.int p3), .val (.ref b1), .val (.ref b18), .val (.ref b38), .val (.ref b97), .val (.int (p3 &&& (3 : Int32))), .val (.int (1 : Int32)), .val (.ref b243), .unset, .unset] [])) _
        refine XS.aload X235_.here hx rfl (hb hby at_136) rfl rfl ?_
        show Steps p.tables e below (T235.setTop (mkF m 138 #[.val (.int p1), .val (.int p2), .val (.int p3), .val (.ref b1), .val (.ref b18), .val (.ref b38), .val (.ref b97), .val (.int (p3 &&& (3 : Int32))), .val (.int (1 : Int32)), .val (.ref b243), .unset, .unset] [(.ref b243)])) _
        refine XS.goto X235_.here hx rfl (pc0 := 138) (pc' := 143) rfl (hb hby at_138) (by decide) (by decide) ?_
        show Steps p.tables e below (T235.setTop (mkF m 143 #[.val (.int p1), .val (.int p2), .val (.int p3), .val (.ref b1), .val (.ref b18), .val (.ref b38), .val (.ref b97), .val (.int (p3 &&& (3 : Int32))), .val (.int (1 : Int32)), .val (.ref b243), .unset, .unset] [(.ref b243)])) _
        refine XS.astore X235_.here hx rfl (hb hby at_143) rfl rfl (l' := #[.val (.int p1), .val (.int p2), .val (.int p3), .val (.ref b1), .val (.ref b18), .val (.ref b38), .val (.ref b97), .val (.int (p3 &&& (3 : Int32))), .val (.int (1 : Int32)), .val (.ref b243), .val (.ref b243), .unset]) rfl ?_
        show Steps p.tables e below (T235.setTop (mkF m 145 #[.val (.int p1), .val (.int p2), .val (.int p3), .val (.ref b1), .val (.ref b18), .val (.ref b38), .val (.ref b97), .val (.int (p3 &&& (3 : Int32))), .val (.int (1 : Int32)), .val (.ref b243), .val (.ref b243), .unset] [])) _
        refine XS.aload X235_.here hx rfl (hb hby at_145) rfl rfl ?_
        show Steps p.tables e below (T235.setTop (mkF m 147 #[.val (.int p1), .val (.int p2), .val (.int p3), .val (.ref b1), .val (.ref b18), .val (.ref b38), .val (.ref b97), .val (.int (p3 &&& (3 : Int32))), .val (.int (1 : Int32)), .val (.ref b243), .val (.ref b243), .unset] [(.ref b243)])) _
        refine XS.aload X235_.here hx rfl (hb hby at_147) rfl rfl ?_
        show Steps p.tables e below (T235.setTop (mkF m 149 #[.val (.int p1), .val (.int p2), .val (.int p3), .val (.ref b1), .val (.ref b18), .val (.ref b38), .val (.ref b97), .val (.int (p3 &&& (3 : Int32))), .val (.int (1 : Int32)), .val (.ref b243), .val (.ref b243), .unset] [(.ref b243), (.ref b243)])) _
        refine st255.trans ?_
        show Steps p.tables e below (T255.setTop (mkF m 152 #[.val (.int p1), .val (.int p2), .val (.int p3), .val (.ref b1), .val (.ref b18), .val (.ref b38), .val (.ref b97), .val (.int (p3 &&& (3 : Int32))), .val (.int (1 : Int32)), .val (.ref b243), .val (.ref b243), .unset] [(.ref b257)])) _
        refine XS.astore X255_.here hx rfl (hb hby at_152) rfl rfl (l' := #[.val (.int p1), .val (.int p2), .val (.int p3), .val (.ref b1), .val (.ref b18), .val (.ref b38), .val (.ref b97), .val (.int (p3 &&& (3 : Int32))), .val (.int (1 : Int32)), .val (.ref b243), .val (.ref b243), .val (.ref b257)]) rfl ?_
        show Steps p.tables e below (T255.setTop (mkF m 154 #[.val (.int p1), .val (.int p2), .val (.int p3), .val (.ref b1), .val (.ref b18), .val (.ref b38), .val (.ref b97), .val (.int (p3 &&& (3 : Int32))), .val (.int (1 : Int32)), .val (.ref b243), .val (.ref b243), .val (.ref b257)] [])) _
        refine XS.aload X255_.here hx rfl (hb hby at_154) rfl rfl ?_
        show Steps p.tables e below (T255.setTop (mkF m 156 #[.val (.int p1), .val (.int p2), .val (.int p3), .val (.ref b1), .val (.ref b18), .val (.ref b38), .val (.ref b97), .val (.int (p3 &&& (3 : Int32))), .val (.int (1 : Int32)), .val (.ref b243), .val (.ref b243), .val (.ref b257)] [(.ref b257)])) _
        refine XS.ifnullNo X255_.here hx rfl (hb hby at_156) rfl ?_
        show Steps p.tables e below (T255.setTop (mkF m 159 #[.val (.int p1), .val (.int p2), .val (.int p3), .val (.ref b1), .val (.ref b18), .val (.ref b38), .val (.ref b97), .val (.int (p3 &&& (3 : Int32))), .val (.int (1 : Int32)), .val (.ref b243), .val (.ref b243), .val (.ref b257)] [])) _
        refine XS.aload X255_.here hx rfl (hb hby at_159) rfl rfl ?_
        show Steps p.tables e below (T255.setTop (mkF m 161 #[.val (.int p1), .val (.int p2), .val (.int p3), .val (.ref b1), .val (.ref b18), .val (.ref b38), .val (.ref b97), .val (.int (p3 &&& (3 : Int32))), .val (.int (1 : Int32)), .val (.ref b243), .val (.ref b243), .val (.ref b257)] [(.ref b257)])) _
        refine XS.aload X255_.here hx rfl (hb hby at_161) rfl rfl ?_
        show Steps p.tables e below (T255.setTop (mkF m 163 #[.val (.int p1), .val (.int p2), .val (.int p3), .val (.ref b1), .val (.ref b18), .val (.ref b38), .val (.ref b97), .val (.int (p3 &&& (3 : Int32))), .val (.int (1 : Int32)), .val (.ref b243), .val (.ref b243), .val (.ref b257)] [(.ref b243), (.ref b257)])) _
        refine Jvm.RoadKit.acmp (g := (mkF m 163 #[.val (.int p1), .val (.int p2), .val (.int p3), .val (.ref b1), .val (.ref b18), .val (.ref b38), .val (.ref b97), .val (.int (p3 &&& (3 : Int32))), .val (.int (1 : Int32)), .val (.ref b243), .val (.ref b243), .val (.ref b257)] [(.ref b243), (.ref b257)])) X255_ hx rfl rfl rfl (pc0 := 163) (pc' := 166) (same := false) rfl (hb hby at_163) rfl (decide_eq_false fun q => (Ne.symm (Nat.ne_of_lt (Nat.lt_of_lt_of_le w245.lt w258))) (Value.ref.inj q)) (by decide) (by decide) ?_
        show Steps p.tables e below (T255.setTop (mkF m 166 #[.val (.int p1), .val (.int p2), .val (.int p3), .val (.ref b1), .val (.ref b18), .val (.ref b38), .val (.ref b97), .val (.int (p3 &&& (3 : Int32))), .val (.int (1 : Int32)), .val (.ref b243), .val (.ref b243), .val (.ref b257)] [])) _
        refine XS.aload X255_.here hx rfl (hb hby at_166) rfl rfl ?_
        show Steps p.tables e below (T255.setTop (mkF m 168 #[.val (.int p1), .val (.int p2), .val (.int p3), .val (.ref b1), .val (.ref b18), .val (.ref b38), .val (.ref b97), .val (.int (p3 &&& (3 : Int32))), .val (.int (1 : Int32)), .val (.ref b243), .val (.ref b243), .val (.ref b257)] [(.ref b257)])) _
        refine XS.aload X255_.here hx rfl (hb hby at_168) rfl rfl ?_
        show Steps p.tables e below (T255.setTop (mkF m 170 #[.val (.int p1), .val (.int p2), .val (.int p3), .val (.ref b1), .val (.ref b18), .val (.ref b38), .val (.ref b97), .val (.int (p3 &&& (3 : Int32))), .val (.int (1 : Int32)), .val (.ref b243), .val (.ref b243), .val (.ref b257)] [(.ref b243), (.ref b257)])) _
        refine Jvm.RoadKit.acmp (g := (mkF m 170 #[.val (.int p1), .val (.int p2), .val (.int p3), .val (.ref b1), .val (.ref b18), .val (.ref b38), .val (.ref b97), .val (.int (p3 &&& (3 : Int32))), .val (.int (1 : Int32)), .val (.ref b243), .val (.ref b243), .val (.ref b257)] [(.ref b243), (.ref b257)])) X255_ hx rfl rfl rfl (pc0 := 170) (pc' := 175) (same := false) rfl (hb hby at_170) rfl (decide_eq_false fun q => (Ne.symm (Nat.ne_of_lt (Nat.lt_of_lt_of_le w245.lt w258))) (Value.ref.inj q)) (by decide) (by decide) ?_
        show Steps p.tables e below (T255.setTop (mkF m 175 #[.val (.int p1), .val (.int p2), .val (.int p3), .val (.ref b1), .val (.ref b18), .val (.ref b38), .val (.ref b97), .val (.int (p3 &&& (3 : Int32))), .val (.int (1 : Int32)), .val (.ref b243), .val (.ref b243), .val (.ref b257)] [])) _
        refine XS.aload X255_.here hx rfl (hb hby at_175) rfl rfl ?_
        show Steps p.tables e below (T255.setTop (mkF m 177 #[.val (.int p1), .val (.int p2), .val (.int p3), .val (.ref b1), .val (.ref b18), .val (.ref b38), .val (.ref b97), .val (.int (p3 &&& (3 : Int32))), .val (.int (1 : Int32)), .val (.ref b243), .val (.ref b243), .val (.ref b257)] [(.ref b257)])) _
        refine st267.trans ?_
        show Steps p.tables e below (T267.setTop (mkF m 180 #[.val (.int p1), .val (.int p2), .val (.int p3), .val (.ref b1), .val (.ref b18), .val (.ref b38), .val (.ref b97), .val (.int (p3 &&& (3 : Int32))), .val (.int (1 : Int32)), .val (.ref b243), .val (.ref b243), .val (.ref b257)] [.null])) _
        refine XS.ifnullYes X267.here hx rfl (pc0 := 180) (pc' := 185) rfl (hb hby at_180) rfl (by decide) (by decide) ?_
        show Steps p.tables e below (T267.setTop (mkF m 185 #[.val (.int p1), .val (.int p2), .val (.int p3), .val (.ref b1), .val (.ref b18), .val (.ref b38), .val (.ref b97), .val (.int (p3 &&& (3 : Int32))), .val (.int (1 : Int32)), .val (.ref b243), .val (.ref b243), .val (.ref b257)] [])) _
        refine XS.aload X267.here hx rfl (hb hby at_185) rfl rfl ?_
        show Steps p.tables e below (T267.setTop (mkF m 187 #[.val (.int p1), .val (.int p2), .val (.int p3), .val (.ref b1), .val (.ref b18), .val (.ref b38), .val (.ref b97), .val (.int (p3 &&& (3 : Int32))), .val (.int (1 : Int32)), .val (.ref b243), .val (.ref b243), .val (.ref b257)] [(.ref b257)])) _
        refine st269.trans ?_
        show Steps p.tables e below (T269.setTop (mkF m 190 #[.val (.int p1), .val (.int p2), .val (.int p3), .val (.ref b1), .val (.ref b18), .val (.ref b38), .val (.ref b97), .val (.int (p3 &&& (3 : Int32))), .val (.int (1 : Int32)), .val (.ref b243), .val (.ref b243), .val (.ref b257)] [(.ref b243)])) _
        refine XS.aload X269.here hx rfl (hb hby at_190) rfl rfl ?_
        show Steps p.tables e below (T269.setTop (mkF m 192 #[.val (.int p1), .val (.int p2), .val (.int p3), .val (.ref b1), .val (.ref b18), .val (.ref b38), .val (.ref b97), .val (.int (p3 &&& (3 : Int32))), .val (.int (1 : Int32)), .val (.ref b243), .val (.ref b243), .val (.ref b257)] [(.ref b243), (.ref b243)])) _
        refine Jvm.RoadKit.acmp (g := (mkF m 192 #[.val (.int p1), .val (.int p2), .val (.int p3), .val (.ref b1), .val (.ref b18), .val (.ref b38), .val (.ref b97), .val (.int (p3 &&& (3 : Int32))), .val (.int (1 : Int32)), .val (.ref b243), .val (.ref b243), .val (.ref b257)] [(.ref b243), (.ref b243)])) X269 hx rfl rfl rfl (pc0 := 192) (pc' := 195) (same := true) rfl (hb hby at_192) rfl (decide_eq_true rfl) (by decide) (by decide) ?_
        show Steps p.tables e below (T269.setTop (mkF m 195 #[.val (.int p1), .val (.int p2), .val (.int p3), .val (.ref b1), .val (.ref b18), .val (.ref b38), .val (.ref b97), .val (.int (p3 &&& (3 : Int32))), .val (.int (1 : Int32)), .val (.ref b243), .val (.ref b243), .val (.ref b257)] [])) _
        refine XS.aload X269.here hx rfl (hb hby at_195) rfl rfl ?_
        show Steps p.tables e below (T269.setTop (mkF m 197 #[.val (.int p1), .val (.int p2), .val (.int p3), .val (.ref b1), .val (.ref b18), .val (.ref b38), .val (.ref b97), .val (.int (p3 &&& (3 : Int32))), .val (.int (1 : Int32)), .val (.ref b243), .val (.ref b243), .val (.ref b257)] [(.ref b257)])) _
        refine st270.trans ?_
        show Steps p.tables e below (T270.setTop (mkF m 200 #[.val (.int p1), .val (.int p2), .val (.int p3), .val (.ref b1), .val (.ref b18), .val (.ref b38), .val (.ref b97), .val (.int (p3 &&& (3 : Int32))), .val (.int (1 : Int32)), .val (.ref b243), .val (.ref b243), .val (.ref b257)] [(.ref b243)])) _
        refine XS.aload X270.here hx rfl (hb hby at_200) rfl rfl ?_
        show Steps p.tables e below (T270.setTop (mkF m 202 #[.val (.int p1), .val (.int p2), .val (.int p3), .val (.ref b1), .val (.ref b18), .val (.ref b38), .val (.ref b97), .val (.int (p3 &&& (3 : Int32))), .val (.int (1 : Int32)), .val (.ref b243), .val (.ref b243), .val (.ref b257)] [(.ref b243), (.ref b243)])) _
        refine Jvm.RoadKit.acmp (g := (mkF m 202 #[.val (.int p1), .val (.int p2), .val (.int p3), .val (.ref b1), .val (.ref b18), .val (.ref b38), .val (.ref b97), .val (.int (p3 &&& (3 : Int32))), .val (.int (1 : Int32)), .val (.ref b243), .val (.ref b243), .val (.ref b257)] [(.ref b243), (.ref b243)])) X270 hx rfl rfl rfl (pc0 := 202) (pc' := 205) (same := true) rfl (hb hby at_202) rfl (decide_eq_true rfl) (by decide) (by decide) ?_
        show Steps p.tables e below (T270.setTop (mkF m 205 #[.val (.int p1), .val (.int p2), .val (.int p3), .val (.ref b1), .val (.ref b18), .val (.ref b38), .val (.ref b97), .val (.int (p3 &&& (3 : Int32))), .val (.int (1 : Int32)), .val (.ref b243), .val (.ref b243), .val (.ref b257)] [])) _
        refine XS.aload X270.here hx rfl (hb hby at_205) rfl rfl ?_
        show Steps p.tables e below (T270.setTop (mkF m 207 #[.val (.int p1), .val (.int p2), .val (.int p3), .val (.ref b1), .val (.ref b18), .val (.ref b38), .val (.ref b97), .val (.int (p3 &&& (3 : Int32))), .val (.int (1 : Int32)), .val (.ref b243), .val (.ref b243), .val (.ref b257)] [(.ref b257)])) _
        refine st271.trans ?_
        show Steps p.tables e below (T271.setTop (mkF m 210 #[.val (.int p1), .val (.int p2), .val (.int p3), .val (.ref b1), .val (.ref b18), .val (.ref b38), .val (.ref b97), .val (.int (p3 &&& (3 : Int32))), .val (.int (1 : Int32)), .val (.ref b243), .val (.ref b243), .val (.ref b257)] [(.ref g_AND)])) _
        refine st272 _ ?_
        show Steps p.tables e below (T272.setTop (mkF m 213 #[.val (.int p1), .val (.int p2), .val (.int p3), .val (.ref b1), .val (.ref b18), .val (.ref b38), .val (.ref b97), .val (.int (p3 &&& (3 : Int32))), .val (.int (1 : Int32)), .val (.ref b243), .val (.ref b243), .val (.ref b257)] [(.ref g_AND), (.ref g_AND)])) _
        refine Jvm.RoadKit.acmp (g := (mkF m 213 #[.val (.int p1), .val (.int p2), .val (.int p3), .val (.ref b1), .val (.ref b18), .val (.ref b38), .val (.ref b97), .val (.int (p3 &&& (3 : Int32))), .val (.int (1 : Int32)), .val (.ref b243), .val (.ref b243), .val (.ref b257)] [(.ref g_AND), (.ref g_AND)])) X272 hx rfl rfl rfl (pc0 := 213) (pc' := 218) (same := true) rfl (hb hby at_213) rfl (decide_eq_true rfl) (by decide) (by decide) ?_
        show Steps p.tables e below (T272.setTop (mkF m 218 #[.val (.int p1), .val (.int p2), .val (.int p3), .val (.ref b1), .val (.ref b18), .val (.ref b38), .val (.ref b97), .val (.int (p3 &&& (3 : Int32))), .val (.int (1 : Int32)), .val (.ref b243), .val (.ref b243), .val (.ref b257)] [])) _
        refine XS.iload X272.here hx rfl (hb hby at_218) rfl ?_
        show Steps p.tables e below (T272.setTop (mkF m 220 #[.val (.int p1), .val (.int p2), .val (.int p3), .val (.ref b1), .val (.ref b18), .val (.ref b38), .val (.ref b97), .val (.int (p3 &&& (3 : Int32))), .val (.int (1 : Int32)), .val (.ref b243), .val (.ref b243), .val (.ref b257)] [(.int (1 : Int32))])) _
        refine XS.ifNo X272.here hx rfl (hb hby at_220) rfl (XT.i0_eq_f ((by decide) : ¬ ((1 : Int32) = (0 : Int32)))) ?_
        show Steps p.tables e below (T272.setTop (mkF m 223 #[.val (.int p1), .val (.int p2), .val (.int p3), .val (.ref b1), .val (.ref b18), .val (.ref b38), .val (.ref b97), .val (.int (p3 &&& (3 : Int32))), .val (.int (1 : Int32)), .val (.ref b243), .val (.ref b243), .val (.ref b257)] [])) _
        refine XS.aload X272.here hx rfl (hb hby at_223) rfl rfl ?_
        show Steps p.tables e below (T272.setTop (mkF m 225 #[.val (.int p1), .val (.int p2), .val (.int p3), .val (.ref b1), .val (.ref b18), .val (.ref b38), .val (.ref b97), .val (.int (p3 &&& (3 : Int32))), .val (.int (1 : Int32)), .val (.ref b243), .val (.ref b243), .val (.ref b257)] [(.ref b243)])) _
        refine st273.trans ?_
        show Steps p.tables e below (T273.setTop (mkF m 228 #[.val (.int p1), .val (.int p2), .val (.int p3), .val (.ref b1), .val (.ref b18), .val (.ref b38), .val (.ref b97), .val (.int (p3 &&& (3 : Int32))), .val (.int (1 : Int32)), .val (.ref b243), .val (.ref b243), .val (.ref b257)] [(.ref g_OR)])) _
        refine st276 _ ?_
        show Steps p.tables e below (T276.setTop (mkF m 231 #[.val (.int p1), .val (.int p2), .val (.int p3), .val (.ref b1), .val (.ref b18), .val (.ref b38), .val (.ref b97), .val (.int (p3 &&& (3 : Int32))), .val (.int (1 : Int32)), .val (.ref b243), .val (.ref b243), .val (.ref b257)] [(.ref g_OR), (.ref g_OR)])) _
        refine Jvm.RoadKit.acmp (g := (mkF m 231 #[.val (.int p1), .val (.int p2), .val (.int p3), .val (.ref b1), .val (.ref b18), .val (.ref b38), .val (.ref b97), .val (.int (p3 &&& (3 : Int32))), .val (.int (1 : Int32)), .val (.ref b243), .val (.ref b243), .val (.ref b257)] [(.ref g_OR), (.ref g_OR)])) X276 hx rfl rfl rfl (pc0 := 231) (pc' := 234) (same := true) rfl (hb hby at_231) rfl (decide_eq_true rfl) (by decide) (by decide) ?_
        show Steps p.tables e below (T276.setTop (mkF m 234 #[.val (.int p1), .val (.int p2), .val (.int p3), .val (.ref b1), .val (.ref b18), .val (.ref b38), .val (.ref b97), .val (.int (p3 &&& (3 : Int32))), .val (.int (1 : Int32)), .val (.ref b243), .val (.ref b243), .val (.ref b257)] [])) _
        refine XS.aload X276.here hx rfl (hb hby at_234) rfl rfl ?_
        show Steps p.tables e below (T276.setTop (mkF m 236 #[.val (.int p1), .val (.int p2), .val (.int p3), .val (.ref b1), .val (.ref b18), .val (.ref b38), .val (.ref b97), .val (.int (p3 &&& (3 : Int32))), .val (.int (1 : Int32)), .val (.ref b243), .val (.ref b243), .val (.ref b257)] [(.ref b243)])) _
        refine st277.trans ?_
        show Steps p.tables e below (T277.setTop (mkF m 239 #[.val (.int p1), .val (.int p2), .val (.int p3), .val (.ref b1), .val (.ref b18), .val (.ref b38), .val (.ref b97), .val (.int (p3 &&& (3 : Int32))), .val (.int (1 : Int32)), .val (.ref b243), .val (.ref b243), .val (.ref b257)] [(.ref b38)])) _
        refine XS.aload X277.here hx rfl (hb hby at_239) rfl rfl ?_
        show Steps p.tables e below (T277.setTop (mkF m 241 #[.val (.int p1), .val (.int p2), .val (.int p3), .val (.ref b1), .val (.ref b18), .val (.ref b38), .val (.ref b97), .val (.int (p3 &&& (3 : Int32))), .val (.int (1 : Int32)), .val (.ref b243), .val (.ref b243), .val (.ref b257)] [(.ref b38), (.ref b38)])) _
        refine Jvm.RoadKit.acmp (g := (mkF m 241 #[.val (.int p1), .val (.int p2), .val (.int p3), .val (.ref b1), .val (.ref b18), .val (.ref b38), .val (.ref b97), .val (.int (p3 &&& (3 : Int32))), .val (.int (1 : Int32)), .val (.ref b243), .val (.ref b243), .val (.ref b257)] [(.ref b38), (.ref b38)])) X277 hx rfl rfl rfl (pc0 := 241) (pc' := 264) (same := true) rfl (hb hby at_241) rfl (decide_eq_true rfl) (by decide) (by decide) ?_
        show Steps p.tables e below (T277.setTop (mkF m 264 #[.val (.int p1), .val (.int p2), .val (.int p3), .val (.ref b1), .val (.ref b18), .val (.ref b38), .val (.ref b97), .val (.int (p3 &&& (3 : Int32))), .val (.int (1 : Int32)), .val (.ref b243), .val (.ref b243), .val (.ref b257)] [])) _
        refine XS.aload X277.here hx rfl (hb hby at_264) rfl rfl ?_
        show Steps p.tables e below (T277.setTop (mkF m 266 #[.val (.int p1), .val (.int p2), .val (.int p3), .val (.ref b1), .val (.ref b18), .val (.ref b38), .val (.ref b97), .val (.int (p3 &&& (3 : Int32))), .val (.int (1 : Int32)), .val (.ref b243), .val (.ref b243), .val (.ref b257)] [(.ref b243)])) _
        refine XS.aload X277.here hx rfl (hb hby at_266) rfl rfl ?_
        show Steps p.tables e below (T277.setTop (mkF m 268 #[.val (.int p1), .val (.int p2), .val (.int p3), .val (.ref b1), .val (.ref b18), .val (.ref b38), .val (.ref b97), .val (.int (p3 &&& (3 : Int32))), .val (.int (1 : Int32)), .val (.ref b243), .val (.ref b243), .val (.ref b257)] [(.ref b97), (.ref b243)])) _
        refine Jvm.RoadKit.acmp (g := (mkF m 268 #[.val (.int p1), .val (.int p2), .val (.int p3), .val (.ref b1), .val (.ref b18), .val (.ref b38), .val (.ref b97), .val (.int (p3 &&& (3 : Int32))), .val (.int (1 : Int32)), .val (.ref b243), .val (.ref b243), .val (.ref b257)] [(.ref b97), (.ref b243)])) X277 hx rfl rfl rfl (pc0 := 268) (pc' := 281) (same := false) rfl (hb hby at_268) rfl (decide_eq_false fun q => (Ne.symm (Nat.ne_of_lt (Nat.lt_of_lt_of_le (Nat.lt_of_lt_of_le A97.lt (Nat.le_trans (Nat.le_trans E105.1 K111q.1) K129q.1)) w244))) (Value.ref.inj q)) (by decide) (by decide) ?_
        show Steps p.tables e below (T277.setTop (mkF m 281 #[.val (.int p1), .val (.int p2), .val (.int p3), .val (.ref b1), .val (.ref b18), .val (.ref b38), .val (.ref b97), .val (.int (p3 &&& (3 : Int32))), .val (.int (1 : Int32)), .val (.ref b243), .val (.ref b243), .val (.ref b257)] [])) _
        refine XS.iconst X277.here hx rfl (hb hby at_281) ?_
        show Steps p.tables e below (T277.setTop (mkF m 282 #[.val (.int p1), .val (.int p2), .val (.int p3), .val (.ref b1), .val (.ref b18), .val (.ref b38), .val (.ref b97), .val (.int (p3 &&& (3 : Int32))), .val (.int (1 : Int32)), .val (.ref b243), .val (.ref b243), .val (.ref b257)] [(.int (1 : Int32))])) _
        exact retN X277 hx (t := .boolean) Bd.returns (by simp) (hb hby at_282) hr
      · show Q0 n0 _ T277.heap _
        rw [show T277.heap = T255.heap from e277q]
        exact ⟨rfl, N277⟩
      · show CHr Z ([] : List (String × Nat)) s.vm s.heap T277.vm T277.heap
        rw [hh]
        rw [show T277.heap = T255.heap from e277q]
        exact hCe
    ·
      skip
      have E280_ : Exa Z T235.heap b97 "com/example/ratatoskr/ratatoskr/criteria/Filter" := E236_.keep K235q
      have O281 : Old Z n0 T235.heap := O237.keep K235q all0
      obtain ⟨cq279, kq279, q279a, q279b, q279c⟩ := isOf hZ235 rfl w245
      obtain ⟨_, _, ⟨T279, L279, k279, n279⟩, -, X279, hS279, hgr279, ⟨Lc279, hQ279, l279, y279, z279, CR279⟩, st279⟩ := X235_.virtualBackS hx (y := (⟨"com/example/ratatoskr/ratatoskr/criteria/Filter", "and", "(Lcom/example/ratatoskr/ratatoskr/criteria/Filter;)Lcom/example/ratatoskr/ratatoskr/criteria/Filter;"⟩ : MethodName)) (z := (⟨"com/example/ratatoskr/ratatoskr/criteria/Filter", "and", "(Lcom/example/ratatoskr/ratatoskr/criteria/Filter;)Lcom/example/ratatoskr/ratatoskr/criteria/Filter;"⟩ : MethodName)) ho235 (mvT hZ235 (hw _ (List.mem_of_getElem? (i := 84) rfl))) (mvT hZ235 (hw _ (List.mem_of_getElem? (i := 85) rfl))) (notFace_of_selects (args := #[]) (mvT hZ235 (hw _ (List.mem_of_getElem? (i := 87) rfl)))) (mvT hZ235 (hw _ (List.mem_of_getElem? (i := 87) rfl))) (mvT hZ235 (hw _ (List.mem_of_getElem? (i := 86) rfl))) (by decide) (backOfSH (W := 0) (EL := ([] : List (String × Nat))) (s := s) (rm17 l Z a0 hw [] g_IS_NULL g_AND g_OR b243 b97 T235.heap n0 O281 hEN E280_) hZ235 (hw _ (List.mem_of_getElem? (i := 88) rfl)) (hw _ (List.mem_of_getElem? (i := 3) rfl)) (by decide) (by decide) hEL CR235.1) q279a q279c (g := (mkF m 149 #[.val (.int p1), .val (.int p2), .val (.int p3), .val (.ref b1), .val (.ref b18), .val (.ref b38), .val (.ref b97), .val (.int (p3 &&& (3 : Int32))), .val (.int (1 : Int32)), .val (.ref b243), .val (.ref b97), .unset] [(.ref b97), (.ref b243)])) rfl (by rw [hml]; rfl) (Steps.refl _) (argsL := [(.ref b97)]) (rest := []) (lenOf pd8 rfl) rfl (by show 2 * 0 + _ ≤ _; exact Nat.le_of_eq rfl) (hb hby at_149) (fun _ _ => ⟨rfl, rfl, (by decide : 21 + 3 ≤ _), (by decide : 206 + 32 ≤ _)⟩)
      dsimp only [Pt.U, Pt.locs, Pt.cells, Pt.slots] at X279 l279 y279 z279 st279 hQ279 CR279 hS279 hgr279
      subst l279 y279 z279
      obtain ⟨b282, rfl, N279q, K279q, w283, w284, w285, w286, w287, w288⟩ := hQ279
      have N279 := Fr.app N235 N279q
      have hS279_ : s.Since T279.vm T279.heap.size := hS235_.trans hS279 (Nat.le_trans hk235 (show T235.heap.size ≤ T279.heap.size from hgr279))
      have hZ279 : Z.Warmed39 T279.vm := State.Warmed39.trans (t := s.setVm T235.vm) hZ235 hS279.1
      have ho279 : T279.vm.findClass "com/example/ratatoskr/ratatoskr/criteria/FilterAndPinLaw" = some m.cls := by rw [hS279.1.alike.findClass]; exact ho235
      have X279_ : Stand p l e room_1 (s.setVm T279.vm) m #[(.int p1), (.int p2), (.int p3)] below meth c T279 _ _ _ := X279
      have hk279 : T279.heap.size ≤ T279.heap.size := Nat.le_refl _
      have K289 : Keep h0 T279.heap [] := K250.trans K279q (fun x q => nomatch q)
      have R291 : CHr Z ([] : List (String × Nat)) s.vm h0 T279.vm T279.heap := R252.trans CR279
      have O293 : Old Z n0 T279.heap := O281.keep K279q all0
      obtain ⟨cq292, kq292, q292a, q292b, q292c⟩ := isOf hZ279 rfl w284
      obtain ⟨_, _, ⟨T292, L292, k292, n292⟩, -, X292, ⟨Lc292, hQ292, l292, y292, z292⟩, st292⟩ := X279_.virtualBack hx (y := (⟨"com/example/ratatoskr/ratatoskr/criteria/Filter", "comparison", "()Lcom/example/ratatoskr/ratatoskr/criteria/Filter$Comparison;"⟩ : MethodName)) (z := (⟨"com/example/ratatoskr/ratatoskr/criteria/Filter", "comparison", "()Lcom/example/ratatoskr/ratatoskr/criteria/Filter$Comparison;"⟩ : MethodName)) ho279 (mvT hZ279 (hw _ (List.mem_of_getElem? (i := 99) rfl))) (mvT hZ279 (hw _ (List.mem_of_getElem? (i := 100) rfl))) (notFace_of_selects (args := #[]) (mvT hZ279 (hw _ (List.mem_of_getElem? (i := 102) rfl)))) (mvT hZ279 (hw _ (List.mem_of_getElem? (i := 102) rfl))) (mvT hZ279 (hw _ (List.mem_of_getElem? (i := 101) rfl))) (by decide) (backOf (s := s.setVm T279.vm) (W := 0) (rm10 l Z a0 hw []  b282 T279.heap n0 O293 w285) hZ279 (hw _ (List.mem_of_getElem? (i := 103) rfl)) (hw _ (List.mem_of_getElem? (i := 3) rfl)) (by decide) (by decide)) q292a q292c (g := (mkF m 177 #[.val (.int p1), .val (.int p2), .val (.int p3), .val (.ref b1), .val (.ref b18), .val (.ref b38), .val (.ref b97), .val (.int (p3 &&& (3 : Int32))), .val (.int (1 : Int32)), .val (.ref b243), .val (.ref b97), .val (.ref b282)] [(.ref b282)])) rfl (by rw [hml]; rfl) (Steps.refl _) (argsL := []) (rest := []) (lenOf pd9 rfl) rfl (by show 2 * 0 + _ ≤ _; exact Nat.le_of_eq rfl) (hb hby at_177) (fun _ _ => ⟨rfl, rfl, (by decide : 24 + 0 ≤ _), (by decide : 238 + 0 ≤ _)⟩)
      dsimp only [Pt.U, Pt.locs, Pt.cells, Pt.slots] at X292 l292 y292 z292 st292 hQ292
      subst l292 y292 z292
      obtain ⟨rfl, N292q, e292q⟩ := hQ292
      have N292 := Fr.app N279 N292q
      obtain ⟨cq294, kq294, q294a, q294b, q294c⟩ := isOf hZ279 e292q w284
      obtain ⟨_, _, ⟨T294, L294, k294, n294⟩, -, X294, ⟨Lc294, hQ294, l294, y294, z294⟩, st294⟩ := X292.virtualBack hx (y := (⟨"com/example/ratatoskr/ratatoskr/criteria/Filter", "left", "()Lcom/example/ratatoskr/ratatoskr/criteria/Filter;"⟩ : MethodName)) (z := (⟨"com/example/ratatoskr/ratatoskr/criteria/Filter", "left", "()Lcom/example/ratatoskr/ratatoskr/criteria/Filter;"⟩ : MethodName)) ho279 (mvT hZ279 (hw _ (List.mem_of_getElem? (i := 104) rfl))) (mvT hZ279 (hw _ (List.mem_of_getElem? (i := 105) rfl))) (notFace_of_selects (args := #[]) (mvT hZ279 (hw _ (List.mem_of_getElem? (i := 107) rfl)))) (mvT hZ279 (hw _ (List.mem_of_getElem? (i := 107) rfl))) (mvT hZ279 (hw _ (List.mem_of_getElem? (i := 106) rfl))) (by decide) (backOf (s := s.setVm T279.vm) (W := 0) (rm11 l Z a0 hw []  b282 b243 T279.heap n0 O293 w286) hZ279 (hw _ (List.mem_of_getElem? (i := 108) rfl)) (hw _ (List.mem_of_getElem? (i := 3) rfl)) (by decide) (by decide)) q294a q294c (g := (mkF m 187 #[.val (.int p1), .val (.int p2), .val (.int p3), .val (.ref b1), .val (.ref b18), .val (.ref b38), .val (.ref b97), .val (.int (p3 &&& (3 : Int32))), .val (.int (1 : Int32)), .val (.ref b243), .val (.ref b97), .val (.ref b282)] [(.ref b282)])) rfl (by rw [hml]; rfl) (Steps.refl _) (argsL := []) (rest := []) (lenOf pd10 rfl) rfl (by show 2 * 0 + _ ≤ _; exact Nat.le_of_eq rfl) (hb hby at_187) (fun _ _ => ⟨rfl, e292q, (by decide : 24 + 0 ≤ _), (by decide : 238 + 0 ≤ _)⟩)
      dsimp only [Pt.U, Pt.locs, Pt.cells, Pt.slots] at X294 l294 y294 z294 st294 hQ294
      subst l294 y294 z294
      obtain ⟨rfl, N294q, e294q⟩ := hQ294
      have N294 := Fr.app N292 N294q
      obtain ⟨cq295, kq295, q295a, q295b, q295c⟩ := isOf hZ279 e294q w284
      obtain ⟨_, _, ⟨T295, L295, k295, n295⟩, -, X295, ⟨Lc295, hQ295, l295, y295, z295⟩, st295⟩ := X294.virtualBack hx (y := (⟨"com/example/ratatoskr/ratatoskr/criteria/Filter", "right", "()Lcom/example/ratatoskr/ratatoskr/criteria/Filter;"⟩ : MethodName)) (z := (⟨"com/example/ratatoskr/ratatoskr/criteria/Filter", "right", "()Lcom/example/ratatoskr/ratatoskr/criteria/Filter;"⟩ : MethodName)) ho279 (mvT hZ279 (hw _ (List.mem_of_getElem? (i := 109) rfl))) (mvT hZ279 (hw _ (List.mem_of_getElem? (i := 110) rfl))) (notFace_of_selects (args := #[]) (mvT hZ279 (hw _ (List.mem_of_getElem? (i := 112) rfl)))) (mvT hZ279 (hw _ (List.mem_of_getElem? (i := 112) rfl))) (mvT hZ279 (hw _ (List.mem_of_getElem? (i := 111) rfl))) (by decide) (backOf (s := s.setVm T279.vm) (W := 0) (rm12 l Z a0 hw []  b282 b97 T279.heap n0 O293 w288) hZ279 (hw _ (List.mem_of_getElem? (i := 113) rfl)) (hw _ (List.mem_of_getElem? (i := 3) rfl)) (by decide) (by decide)) q295a q295c (g := (mkF m 197 #[.val (.int p1), .val (.int p2), .val (.int p3), .val (.ref b1), .val (.ref b18), .val (.ref b38), .val (.ref b97), .val (.int (p3 &&& (3 : Int32))), .val (.int (1 : Int32)), .val (.ref b243), .val (.ref b97), .val (.ref b282)] [(.ref b282)])) rfl (by rw [hml]; rfl) (Steps.refl _) (argsL := []) (rest := []) (lenOf pd10 rfl) rfl (by show 2 * 0 + _ ≤ _; exact Nat.le_of_eq rfl) (hb hby at_197) (fun _ _ => ⟨rfl, e294q, (by decide : 24 + 0 ≤ _), (by decide : 238 + 0 ≤ _)⟩)
      dsimp only [Pt.U, Pt.locs, Pt.cells, Pt.slots] at X295 l295 y295 z295 st295 hQ295
      subst l295 y295 z295
      obtain ⟨rfl, N295q, e295q⟩ := hQ295
      have N295 := Fr.app N294 N295q
      obtain ⟨cq296, kq296, q296a, q296b, q296c⟩ := isOf hZ279 e295q w284
      obtain ⟨_, _, ⟨T296, L296, k296, n296⟩, -, X296, ⟨Lc296, hQ296, l296, y296, z296⟩, st296⟩ := X295.virtualBack hx (y := (⟨"com/example/ratatoskr/ratatoskr/criteria/Filter", "junction", "()Lcom/example/ratatoskr/ratatoskr/criteria/Filter$Junction;"⟩ : MethodName)) (z := (⟨"com/example/ratatoskr/ratatoskr/criteria/Filter", "junction", "()Lcom/example/ratatoskr/ratatoskr/criteria/Filter$Junction;"⟩ : MethodName)) ho279 (mvT hZ279 (hw _ (List.mem_of_getElem? (i := 114) rfl))) (mvT hZ279 (hw _ (List.mem_of_getElem? (i := 115) rfl))) (notFace_of_selects (args := #[]) (mvT hZ279 (hw _ (List.mem_of_getElem? (i := 117) rfl)))) (mvT hZ279 (hw _ (List.mem_of_getElem? (i := 117) rfl))) (mvT hZ279 (hw _ (List.mem_of_getElem? (i := 116) rfl))) (by decide) (backOf (s := s.setVm T279.vm) (W := 0) (rm13 l Z a0 hw [] g_IS_NULL g_AND g_OR b282 T279.heap n0 O293 hEN w287) hZ279 (hw _ (List.mem_of_getElem? (i := 118) rfl)) (hw _ (List.mem_of_getElem? (i := 3) rfl)) (by decide) (by decide)) q296a q296c (g := (mkF m 207 #[.val (.int p1), .val (.int p2), .val (.int p3), .val (.ref b1), .val (.ref b18), .val (.ref b38), .val (.ref b97), .val (.int (p3 &&& (3 : Int32))), .val (.int (1 : Int32)), .val (.ref b243), .val (.ref b97), .val (.ref b282)] [(.ref b282)])) rfl (by rw [hml]; rfl) (Steps.refl _) (argsL := []) (rest := []) (lenOf pd11 rfl) rfl (by show 2 * 0 + _ ≤ _; exact Nat.le_of_eq rfl) (hb hby at_207) (fun _ _ => ⟨rfl, e295q, (by decide : 24 + 0 ≤ _), (by decide : 238 + 0 ≤ _)⟩)
      dsimp only [Pt.U, Pt.locs, Pt.cells, Pt.slots] at X296 l296 y296 z296 st296 hQ296
      subst l296 y296 z296
      obtain ⟨rfl, N296q, e296q⟩ := hQ296
      have N296 := Fr.app N295 N296q
      obtain ⟨T297, X297, e297, st297⟩ := getS2 X296 hx hZ279 ho279 (host := "") (Or.inl (hw _ (List.mem_of_getElem? (i := 119) rfl))) Via.refl e296q (hEN.2.2.1.ext O293.2) (g := (mkF m 210 #[.val (.int p1), .val (.int p2), .val (.int p3), .val (.ref b1), .val (.ref b18), .val (.ref b38), .val (.ref b97), .val (.int (p3 &&& (3 : Int32))), .val (.int (1 : Int32)), .val (.ref b243), .val (.ref b97), .val (.ref b282)] [(.ref g_AND)])) rfl (hb hby at_210)
      have F299_ : Fld Z T279.heap b243 "com/example/ratatoskr/ratatoskr/criteria/Filter" "junction" "Lcom/example/ratatoskr/ratatoskr/criteria/Filter$Junction;" (.ref g_OR) := w248.keep K279q nin0
      have E300_ : Exa Z T279.heap b243 "com/example/ratatoskr/ratatoskr/criteria/Filter" := w245.keep K279q
      obtain ⟨cq298, kq298, q298a, q298b, q298c⟩ := isOf hZ279 e297 E300_
      obtain ⟨_, _, ⟨T298, L298, k298, n298⟩, -, X298, ⟨Lc298, hQ298, l298, y298, z298⟩, st298⟩ := X297.virtualBack hx (y := (⟨"com/example/ratatoskr/ratatoskr/criteria/Filter", "junction", "()Lcom/example/ratatoskr/ratatoskr/criteria/Filter$Junction;"⟩ : MethodName)) (z := (⟨"com/example/ratatoskr/ratatoskr/criteria/Filter", "junction", "()Lcom/example/ratatoskr/ratatoskr/criteria/Filter$Junction;"⟩ : MethodName)) ho279 (mvT hZ279 (hw _ (List.mem_of_getElem? (i := 114) rfl))) (mvT hZ279 (hw _ (List.mem_of_getElem? (i := 115) rfl))) (notFace_of_selects (args := #[]) (mvT hZ279 (hw _ (List.mem_of_getElem? (i := 117) rfl)))) (mvT hZ279 (hw _ (List.mem_of_getElem? (i := 117) rfl))) (mvT hZ279 (hw _ (List.mem_of_getElem? (i := 116) rfl))) (by decide) (backOf (s := s.setVm T279.vm) (W := 0) (rm20 l Z a0 hw [] g_IS_NULL g_AND g_OR b243 T279.heap n0 O293 hEN F299_) hZ279 (hw _ (List.mem_of_getElem? (i := 118) rfl)) (hw _ (List.mem_of_getElem? (i := 3) rfl)) (by decide) (by decide)) q298a q298c (g := (mkF m 225 #[.val (.int p1), .val (.int p2), .val (.int p3), .val (.ref b1), .val (.ref b18), .val (.ref b38), .val (.ref b97), .val (.int (p3 &&& (3 : Int32))), .val (.int (1 : Int32)), .val (.ref b243), .val (.ref b97), .val (.ref b282)] [(.ref b243)])) rfl (by rw [hml]; rfl) (Steps.refl _) (argsL := []) (rest := []) (lenOf pd11 rfl) rfl (by show 2 * 0 + _ ≤ _; exact Nat.le_of_eq rfl) (hb hby at_225) (fun _ _ => ⟨rfl, e297, (by decide : 24 + 0 ≤ _), (by decide : 238 + 0 ≤ _)⟩)
      dsimp only [Pt.U, Pt.locs, Pt.cells, Pt.slots] at X298 l298 y298 z298 st298 hQ298
      subst l298 y298 z298
      obtain ⟨rfl, N298q, e298q⟩ := hQ298
      have N298 := Fr.app N296 N298q
      obtain ⟨T301, X301, e301, st301⟩ := getS2 X298 hx hZ279 ho279 (host := "") (Or.inl (hw _ (List.mem_of_getElem? (i := 127) rfl))) Via.refl e298q (hEN.2.2.2.2.1.ext O293.2) (g := (mkF m 228 #[.val (.int p1), .val (.int p2), .val (.int p3), .val (.ref b1), .val (.ref b18), .val (.ref b38), .val (.ref b97), .val (.int (p3 &&& (3 : Int32))), .val (.int (1 : Int32)), .val (.ref b243), .val (.ref b97), .val (.ref b282)] [(.ref g_OR)])) rfl (hb hby at_228)
      have F303_ : Fld Z T279.heap b243 "com/example/ratatoskr/ratatoskr/criteria/Filter" "left" "Lcom/example/ratatoskr/ratatoskr/criteria/Filter;" (.ref b38) := w247.keep K279q nin0
      obtain ⟨cq302, kq302, q302a, q302b, q302c⟩ := isOf hZ279 e301 E300_
      obtain ⟨_, _, ⟨T302, L302, k302, n302⟩, -, X302, ⟨Lc302, hQ302, l302, y302, z302⟩, st302⟩ := X301.virtualBack hx (y := (⟨"com/example/ratatoskr/ratatoskr/criteria/Filter", "left", "()Lcom/example/ratatoskr/ratatoskr/criteria/Filter;"⟩ : MethodName)) (z := (⟨"com/example/ratatoskr/ratatoskr/criteria/Filter", "left", "()Lcom/example/ratatoskr/ratatoskr/criteria/Filter;"⟩ : MethodName)) ho279 (mvT hZ279 (hw _ (List.mem_of_getElem? (i := 104) rfl))) (mvT hZ279 (hw _ (List.mem_of_getElem? (i := 105) rfl))) (notFace_of_selects (args := #[]) (mvT hZ279 (hw _ (List.mem_of_getElem? (i := 107) rfl)))) (mvT hZ279 (hw _ (List.mem_of_getElem? (i := 107) rfl))) (mvT hZ279 (hw _ (List.mem_of_getElem? (i := 106) rfl))) (by decide) (backOf (s := s.setVm T279.vm) (W := 0) (rm11 l Z a0 hw []  b243 b38 T279.heap n0 O293 F303_) hZ279 (hw _ (List.mem_of_getElem? (i := 108) rfl)) (hw _ (List.mem_of_getElem? (i := 3) rfl)) (by decide) (by decide)) q302a q302c (g := (mkF m 236 #[.val (.int p1), .val (.int p2), .val (.int p3), .val (.ref b1), .val (.ref b18), .val (.ref b38), .val (.ref b97), .val (.int (p3 &&& (3 : Int32))), .val (.int (1 : Int32)), .val (.ref b243), .val (.ref b97), .val (.ref b282)] [(.ref b243)])) rfl (by rw [hml]; rfl) (Steps.refl _) (argsL := []) (rest := []) (lenOf pd10 rfl) rfl (by show 2 * 0 + _ ≤ _; exact Nat.le_of_eq rfl) (hb hby at_236) (fun _ _ => ⟨rfl, e301, (by decide : 24 + 0 ≤ _), (by decide : 238 + 0 ≤ _)⟩)
      dsimp only [Pt.U, Pt.locs, Pt.cells, Pt.slots] at X302 l302 y302 z302 st302 hQ302
      subst l302 y302 z302
      obtain ⟨rfl, N302q, e302q⟩ := hQ302
      have N302 := Fr.app N298 N302q
      have F305_ : Fld Z T235.heap b97 "com/example/ratatoskr/ratatoskr/criteria/Filter" "junction" "Lcom/example/ratatoskr/ratatoskr/criteria/Filter$Junction;" .null := w145.keep K235q nin0
      have F306_ : Fld Z T279.heap b97 "com/example/ratatoskr/ratatoskr/criteria/Filter" "junction" "Lcom/example/ratatoskr/ratatoskr/criteria/Filter$Junction;" .null := F305_.keep K279q nin0
      have E307_ : Exa Z T279.heap b97 "com/example/ratatoskr/ratatoskr/criteria/Filter" := E280_.keep K279q
      obtain ⟨cq304, kq304, q304a, q304b, q304c⟩ := isOf hZ279 e302q E307_
      obtain ⟨_, _, ⟨T304, L304, k304, n304⟩, -, X304, ⟨Lc304, hQ304, l304, y304, z304⟩, st304⟩ := X302.virtualBack hx (y := (⟨"com/example/ratatoskr/ratatoskr/criteria/Filter", "junction", "()Lcom/example/ratatoskr/ratatoskr/criteria/Filter$Junction;"⟩ : MethodName)) (z := (⟨"com/example/ratatoskr/ratatoskr/criteria/Filter", "junction", "()Lcom/example/ratatoskr/ratatoskr/criteria/Filter$Junction;"⟩ : MethodName)) ho279 (mvT hZ279 (hw _ (List.mem_of_getElem? (i := 114) rfl))) (mvT hZ279 (hw _ (List.mem_of_getElem? (i := 115) rfl))) (notFace_of_selects (args := #[]) (mvT hZ279 (hw _ (List.mem_of_getElem? (i := 117) rfl)))) (mvT hZ279 (hw _ (List.mem_of_getElem? (i := 117) rfl))) (mvT hZ279 (hw _ (List.mem_of_getElem? (i := 116) rfl))) (by decide) (backOf (s := s.setVm T279.vm) (W := 0) (rm14 l Z a0 hw []  b97 T279.heap n0 O293 F306_) hZ279 (hw _ (List.mem_of_getElem? (i := 118) rfl)) (hw _ (List.mem_of_getElem? (i := 3) rfl)) (by decide) (by decide)) q304a q304c (g := (mkF m 273 #[.val (.int p1), .val (.int p2), .val (.int p3), .val (.ref b1), .val (.ref b18), .val (.ref b38), .val (.ref b97), .val (.int (p3 &&& (3 : Int32))), .val (.int (1 : Int32)), .val (.ref b243), .val (.ref b97), .val (.ref b282)] [(.ref b97)])) rfl (by rw [hml]; rfl) (Steps.refl _) (argsL := []) (rest := []) (lenOf pd11 rfl) rfl (by show 2 * 0 + _ ≤ _; exact Nat.le_of_eq rfl) (hb hby at_273) (fun _ _ => ⟨rfl, e302q, (by decide : 24 + 0 ≤ _), (by decide : 238 + 0 ≤ _)⟩)
      dsimp only [Pt.U, Pt.locs, Pt.cells, Pt.slots] at X304 l304 y304 z304 st304 hQ304
      subst l304 y304 z304
      obtain ⟨rfl, N304q, e304q⟩ := hQ304
      have N304 := Fr.app N302 N304q
      obtain ⟨fs, hr, hrun, hended, hEnd⟩ := X304.leaveW (s := s) hS279_ (by rw [show T304.heap = T279.heap from e304q]; exact hk279) (v := (some (.int (1 : Int32)))) (fun h => by rw [Bd.returns] at h; cases h)
      have hCe : CHr Z ([] : List (String × Nat)) s.vm h0 T304.vm T279.heap := R291.trans (CHv.at X304 hZ279 hEL CR279.1)
      refine ⟨_, _, pr253 _ ?_, hrun, hended, _, _, rfl, ?_, ?_, hEnd.1, hEnd.2.1, hEnd.2.2.1, hEnd.2.2.2.mono (by decide) (by decide)⟩
      · show Steps p.tables e below (T235.setTop (mkF m 133 #[.val (.int p1), .val (.int p2), .val (.int p3), .val (.ref b1), .val (.ref b18), .val (.ref b38), .val (.ref b97), .val (.int (p3 &&& (3 : Int32))), .val (.int (1 : Int32)), .val (.ref b243), .unset, .unset] [(.int (2 : Int32)), (.int (p3 &&& (3 : Int32)))])) _
        refine XS.icmpYes X235_.here hx rfl (pc0 := 133) (pc' := 141) rfl (hb hby at_133) rfl (XT.ii_ne_t (hc254 : ¬ ((p3 &&& (3 : Int32)) = (2 : Int32)))) (by decide) (by decide) ?_
        show Steps p.tables e below (T235.setTop (mkF m 141 #[.val (.int p1), .val (.int p2), .val (.int p3), .val (.ref b1), .val (.ref b18), .val (.ref b38), .val (.ref b97), .val (.int (p3 &&& (3 : Int32))), .val (.int (1 : Int32)), .val (.ref b243), .unset, .unset] [])) _
        refine XS.aload X235_.here hx rfl (hb hby at_141) rfl rfl ?_
        show Steps p.tables e below (T235.setTop (mkF m 143 #[.val (.int p1), .val (.int p2), .val (.int p3), .val (.ref b1), .val (.ref b18), .val (.ref b38), .val (.ref b97), .val (.int (p3 &&& (3 : Int32))), .val (.int (1 : Int32)), .val (.ref b243), .unset, .unset] [(.ref b97)])) _
        refine XS.astore X235_.here hx rfl (hb hby at_143) rfl rfl (l' := #[.val (.int p1), .val (.int p2), .val (.int p3), .val (.ref b1), .val (.ref b18), .val (.ref b38), .val (.ref b97), .val (.int (p3 &&& (3 : Int32))), .val (.int (1 : Int32)), .val (.ref b243), .val (.ref b97), .unset]) rfl ?_
        show Steps p.tables e below (T235.setTop (mkF m 145 #[.val (.int p1), .val (.int p2), .val (.int p3), .val (.ref b1), .val (.ref b18), .val (.ref b38), .val (.ref b97), .val (.int (p3 &&& (3 : Int32))), .val (.int (1 : Int32)), .val (.ref b243), .val (.ref b97), .unset] [])) _
        refine XS.aload X235_.here hx rfl (hb hby at_145) rfl rfl ?_
        show Steps p.tables e below (T235.setTop (mkF m 147 #[.val (.int p1), .val (.int p2), .val (.int p3), .val (.ref b1), .val (.ref b18), .val (.ref b38), .val (.ref b97), .val (.int (p3 &&& (3 : Int32))), .val (.int (1 : Int32)), .val (.ref b243), .val (.ref b97), .unset] [(.ref b243)])) _
        refine XS.aload X235_.here hx rfl (hb hby at_147) rfl rfl ?_
        show Steps p.tables e below (T235.setTop (mkF m 149 #[.val (.int p1), .val (.int p2), .val (.int p3), .val (.ref b1), .val (.ref b18), .val (.ref b38), .val (.ref b97), .val (.int (p3 &&& (3 : Int32))), .val (.int (1 : Int32)), .val (.ref b243), .val (.ref b97), .unset] [(.ref b97), (.ref b243)])) _
        refine st279.trans ?_
        show Steps p.tables e below (T279.setTop (mkF m 152 #[.val (.int p1), .val (.int p2), .val (.int p3), .val (.ref b1), .val (.ref b18), .val (.ref b38), .val (.ref b97), .val (.int (p3 &&& (3 : Int32))), .val (.int (1 : Int32)), .val (.ref b243), .val (.ref b97), .unset] [(.ref b282)])) _
        refine XS.astore X279_.here hx rfl (hb hby at_152) rfl rfl (l' := #[.val (.int p1), .val (.int p2), .val (.int p3), .val (.ref b1), .val (.ref b18), .val (.ref b38), .val (.ref b97), .val (.int (p3 &&& (3 : Int32))), .val (.int (1 : Int32)), .val (.ref b243), .val (.ref b97), .val (.ref b282)]) rfl ?_
        show Steps p.tables e below (T279.setTop (mkF m 154 #[.val (.int p1), .val (.int p2), .val (.int p3), .val (.ref b1), .val (.ref b18), .val (.ref b38), .val (.ref b97), .val (.int (p3 &&& (3 : Int32))), .val (.int (1 : Int32)), .val (.ref b243), .val (.ref b97), .val (.ref b282)] [])) _
        refine XS.aload X279_.here hx rfl (hb hby at_154) rfl rfl ?_
        show Steps p.tables e below (T279.setTop (mkF m 156 #[.val (.int p1), .val (.int p2), .val (.int p3), .val (.ref b1), .val (.ref b18), .val (.ref b38), .val (.ref b97), .val (.int (p3 &&& (3 : Int32))), .val (.int (1 : Int32)), .val (.ref b243), .val (.ref b97), .val (.ref b282)] [(.ref b282)])) _
        refine XS.ifnullNo X279_.here hx rfl (hb hby at_156) rfl ?_
        show Steps p.tables e below (T279.setTop (mkF m 159 #[.val (.int p1), .val (.int p2), .val (.int p3), .val (.ref b1), .val (.ref b18), .val (.ref b38), .val (.ref b97), .val (.int (p3 &&& (3 : Int32))), .val (.int (1 : Int32)), .val (.ref b243), .val (.ref b97), .val (.ref b282)] [])) _
        refine XS.aload X279_.here hx rfl (hb hby at_159) rfl rfl ?_
        show Steps p.tables e below (T279.setTop (mkF m 161 #[.val (.int p1), .val (.int p2), .val (.int p3), .val (.ref b1), .val (.ref b18), .val (.ref b38), .val (.ref b97), .val (.int (p3 &&& (3 : Int32))), .val (.int (1 : Int32)), .val (.ref b243), .val (.ref b97), .val (.ref b282)] [(.ref b282)])) _
        refine XS.aload X279_.here hx rfl (hb hby at_161) rfl rfl ?_
        show Steps p.tables e below (T279.setTop (mkF m 163 #[.val (.int p1), .val (.int p2), .val (.int p3), .val (.ref b1), .val (.ref b18), .val (.ref b38), .val (.ref b97), .val (.int (p3 &&& (3 : Int32))), .val (.int (1 : Int32)), .val (.ref b243), .val (.ref b97), .val (.ref b282)] [(.ref b243), (.ref b282)])) _
        refine Jvm.RoadKit.acmp (g := (mkF m 163 #[.val (.int p1), .val (.int p2), .val (.int p3), .val (.ref b1), .val (.ref b18), .val (.ref b38), .val (.ref b97), .val (.int (p3 &&& (3 : Int32))), .val (.int (1 : Int32)), .val (.ref b243), .val (.ref b97), .val (.ref b282)] [(.ref b243), (.ref b282)])) X279_ hx rfl rfl rfl (pc0 := 163) (pc' := 166) (same := false) rfl (hb hby at_163) rfl (decide_eq_false fun q => (Ne.symm (Nat.ne_of_lt (Nat.lt_of_lt_of_le w245.lt w283))) (Value.ref.inj q)) (by decide) (by decide) ?_
        show Steps p.tables e below (T279.setTop (mkF m 166 #[.val (.int p1), .val (.int p2), .val (.int p3), .val (.ref b1), .val (.ref b18), .val (.ref b38), .val (.ref b97), .val (.int (p3 &&& (3 : Int32))), .val (.int (1 : Int32)), .val (.ref b243), .val (.ref b97), .val (.ref b282)] [])) _
        refine XS.aload X279_.here hx rfl (hb hby at_166) rfl rfl ?_
        show Steps p.tables e below (T279.setTop (mkF m 168 #[.val (.int p1), .val (.int p2), .val (.int p3), .val (.ref b1), .val (.ref b18), .val (.ref b38), .val (.ref b97), .val (.int (p3 &&& (3 : Int32))), .val (.int (1 : Int32)), .val (.ref b243), .val (.ref b97), .val (.ref b282)] [(.ref b282)])) _
        refine XS.aload X279_.here hx rfl (hb hby at_168) rfl rfl ?_
        show Steps p.tables e below (T279.setTop (mkF m 170 #[.val (.int p1), .val (.int p2), .val (.int p3), .val (.ref b1), .val (.ref b18), .val (.ref b38), .val (.ref b97), .val (.int (p3 &&& (3 : Int32))), .val (.int (1 : Int32)), .val (.ref b243), .val (.ref b97), .val (.ref b282)] [(.ref b97), (.ref b282)])) _
        refine Jvm.RoadKit.acmp (g := (mkF m 170 #[.val (.int p1), .val (.int p2), .val (.int p3), .val (.ref b1), .val (.ref b18), .val (.ref b38), .val (.ref b97), .val (.int (p3 &&& (3 : Int32))), .val (.int (1 : Int32)), .val (.ref b243), .val (.ref b97), .val (.ref b282)] [(.ref b97), (.ref b282)])) X279_ hx rfl rfl rfl (pc0 := 170) (pc' := 175) (same := false) rfl (hb hby at_170) rfl (decide_eq_false fun q => (Ne.symm (Nat.ne_of_lt (Nat.lt_of_lt_of_le (Nat.lt_of_lt_of_le A97.lt (Nat.le_trans (Nat.le_trans (Nat.le_trans E105.1 K111q.1) K129q.1) K235q.1)) w283))) (Value.ref.inj q)) (by decide) (by decide) ?_
        show Steps p.tables e below (T279.setTop (mkF m 175 #[.val (.int p1), .val (.int p2), .val (.int p3), .val (.ref b1), .val (.ref b18), .val (.ref b38), .val (.ref b97), .val (.int (p3 &&& (3 : Int32))), .val (.int (1 : Int32)), .val (.ref b243), .val (.ref b97), .val (.ref b282)] [])) _
        refine XS.aload X279_.here hx rfl (hb hby at_175) rfl rfl ?_
        show Steps p.tables e below (T279.setTop (mkF m 177 #[.val (.int p1), .val (.int p2), .val (.int p3), .val (.ref b1), .val (.ref b18), .val (.ref b38), .val (.ref b97), .val (.int (p3 &&& (3 : Int32))), .val (.int (1 : Int32)), .val (.ref b243), .val (.ref b97), .val (.ref b282)] [(.ref b282)])) _
        refine st292.trans ?_
        show Steps p.tables e below (T292.setTop (mkF m 180 #[.val (.int p1), .val (.int p2), .val (.int p3), .val (.ref b1), .val (.ref b18), .val (.ref b38), .val (.ref b97), .val (.int (p3 &&& (3 : Int32))), .val (.int (1 : Int32)), .val (.ref b243), .val (.ref b97), .val (.ref b282)] [.null])) _
        refine XS.ifnullYes X292.here hx rfl (pc0 := 180) (pc' := 185) rfl (hb hby at_180) rfl (by decide) (by decide) ?_
        show Steps p.tables e below (T292.setTop (mkF m 185 #[.val (.int p1), .val (.int p2), .val (.int p3), .val (.ref b1), .val (.ref b18), .val (.ref b38), .val (.ref b97), .val (.int (p3 &&& (3 : Int32))), .val (.int (1 : Int32)), .val (.ref b243), .val (.ref b97), .val (.ref b282)] [])) _
        refine XS.aload X292.here hx rfl (hb hby at_185) rfl rfl ?_
        show Steps p.tables e below (T292.setTop (mkF m 187 #[.val (.int p1), .val (.int p2), .val (.int p3), .val (.ref b1), .val (.ref b18), .val (.ref b38), .val (.ref b97), .val (.int (p3 &&& (3 : Int32))), .val (.int (1 : Int32)), .val (.ref b243), .val (.ref b97), .val (.ref b282)] [(.ref b282)])) _
        refine st294.trans ?_
        show Steps p.tables e below (T294.setTop (mkF m 190 #[.val (.int p1), .val (.int p2), .val (.int p3), .val (.ref b1), .val (.ref b18), .val (.ref b38), .val (.ref b97), .val (.int (p3 &&& (3 : Int32))), .val (.int (1 : Int32)), .val (.ref b243), .val (.ref b97), .val (.ref b282)] [(.ref b243)])) _
        refine XS.aload X294.here hx rfl (hb hby at_190) rfl rfl ?_
        show Steps p.tables e below (T294.setTop (mkF m 192 #[.val (.int p1), .val (.int p2), .val (.int p3), .val (.ref b1), .val (.ref b18), .val (.ref b38), .val (.ref b97), .val (.int (p3 &&& (3 : Int32))), .val (.int (1 : Int32)), .val (.ref b243), .val (.ref b97), .val (.ref b282)] [(.ref b243), (.ref b243)])) _
        refine Jvm.RoadKit.acmp (g := (mkF m 192 #[.val (.int p1), .val (.int p2), .val (.int p3), .val (.ref b1), .val (.ref b18), .val (.ref b38), .val (.ref b97), .val (.int (p3 &&& (3 : Int32))), .val (.int (1 : Int32)), .val (.ref b243), .val (.ref b97), .val (.ref b282)] [(.ref b243), (.ref b243)])) X294 hx rfl rfl rfl (pc0 := 192) (pc' := 195) (same := true) rfl (hb hby at_192) rfl (decide_eq_true rfl) (by decide) (by decide) ?_
        show Steps p.tables e below (T294.setTop (mkF m 195 #[.val (.int p1), .val (.int p2), .val (.int p3), .val (.ref b1), .val (.ref b18), .val (.ref b38), .val (.ref b97), .val (.int (p3 &&& (3 : Int32))), .val (.int (1 : Int32)), .val (.ref b243), .val (.ref b97), .val (.ref b282)] [])) _
        refine XS.aload X294.here hx rfl (hb hby at_195) rfl rfl ?_
        show Steps p.tables e below (T294.setTop (mkF m 197 #[.val (.int p1), .val (.int p2), .val (.int p3), .val (.ref b1), .val (.ref b18), .val (.ref b38), .val (.ref b97), .val (.int (p3 &&& (3 : Int32))), .val (.int (1 : Int32)), .val (.ref b243), .val (.ref b97), .val (.ref b282)] [(.ref b282)])) _
        refine st295.trans ?_
        show Steps p.tables e below (T295.setTop (mkF m 200 #[.val (.int p1), .val (.int p2), .val (.int p3), .val (.ref b1), .val (.ref b18), .val (.ref b38), .val (.ref b97), .val (.int (p3 &&& (3 : Int32))), .val (.int (1 : Int32)), .val (.ref b243), .val (.ref b97), .val (.ref b282)] [(.ref b97)])) _
        refine XS.aload X295.here hx rfl (hb hby at_200) rfl rfl ?_
        show Steps p.tables e below (T295.setTop (mkF m 202 #[.val (.int p1), .val (.int p2), .val (.int p3), .val (.ref b1), .val (.ref b18), .val (.ref b38), .val (.ref b97), .val (.int (p3 &&& (3 : Int32))), .val (.int (1 : Int32)), .val (.ref b243), .val (.ref b97), .val (.ref b282)] [(.ref b97), (.ref b97)])) _
        refine Jvm.RoadKit.acmp (g := (mkF m 202 #[.val (.int p1), .val (.int p2), .val (.int p3), .val (.ref b1), .val (.ref b18), .val (.ref b38), .val (.ref b97), .val (.int (p3 &&& (3 : Int32))), .val (.int (1 : Int32)), .val (.ref b243), .val (.ref b97), .val (.ref b282)] [(.ref b97), (.ref b97)])) X295 hx rfl rfl rfl (pc0 := 202) (pc' := 205) (same := true) rfl (hb hby at_202) rfl (decide_eq_true rfl) (by decide) (by decide) ?_
        show Steps p.tables e below (T295.setTop (mkF m 205 #[.val (.int p1), .val (.int p2), .val (.int p3), .val (.ref b1), .val (.ref b18), .val (.ref b38), .val (.ref b97), .val (.int (p3 &&& (3 : Int32))), .val (.int (1 : Int32)), .val (.ref b243), .val (.ref b97), .val (.ref b282)] [])) _
        refine XS.aload X295.here hx rfl (hb hby at_205) rfl rfl ?_
        show Steps p.tables e below (T295.setTop (mkF m 207 #[.val (.int p1), .val (.int p2), .val (.int p3), .val (.ref b1), .val (.ref b18), .val (.ref b38), .val (.ref b97), .val (.int (p3 &&& (3 : Int32))), .val (.int (1 : Int32)), .val (.ref b243), .val (.ref b97), .val (.ref b282)] [(.ref b282)])) _
        refine st296.trans ?_
        show Steps p.tables e below (T296.setTop (mkF m 210 #[.val (.int p1), .val (.int p2), .val (.int p3), .val (.ref b1), .val (.ref b18), .val (.ref b38), .val (.ref b97), .val (.int (p3 &&& (3 : Int32))), .val (.int (1 : Int32)), .val (.ref b243), .val (.ref b97), .val (.ref b282)] [(.ref g_AND)])) _
        refine st297 _ ?_
        show Steps p.tables e below (T297.setTop (mkF m 213 #[.val (.int p1), .val (.int p2), .val (.int p3), .val (.ref b1), .val (.ref b18), .val (.ref b38), .val (.ref b97), .val (.int (p3 &&& (3 : Int32))), .val (.int (1 : Int32)), .val (.ref b243), .val (.ref b97), .val (.ref b282)] [(.ref g_AND), (.ref g_AND)])) _
        refine Jvm.RoadKit.acmp (g := (mkF m 213 #[.val (.int p1), .val (.int p2), .val (.int p3), .val (.ref b1), .val (.ref b18), .val (.ref b38), .val (.ref b97), .val (.int (p3 &&& (3 : Int32))), .val (.int (1 : Int32)), .val (.ref b243), .val (.ref b97), .val (.ref b282)] [(.ref g_AND), (.ref g_AND)])) X297 hx rfl rfl rfl (pc0 := 213) (pc' := 218) (same := true) rfl (hb hby at_213) rfl (decide_eq_true rfl) (by decide) (by decide) ?_
        show Steps p.tables e below (T297.setTop (mkF m 218 #[.val (.int p1), .val (.int p2), .val (.int p3), .val (.ref b1), .val (.ref b18), .val (.ref b38), .val (.ref b97), .val (.int (p3 &&& (3 : Int32))), .val (.int (1 : Int32)), .val (.ref b243), .val (.ref b97), .val (.ref b282)] [])) _
        refine XS.iload X297.here hx rfl (hb hby at_218) rfl ?_
        show Steps p.tables e below (T297.setTop (mkF m 220 #[.val (.int p1), .val (.int p2), .val (.int p3), .val (.ref b1), .val (.ref b18), .val (.ref b38), .val (.ref b97), .val (.int (p3 &&& (3 : Int32))), .val (.int (1 : Int32)), .val (.ref b243), .val (.ref b97), .val (.ref b282)] [(.int (1 : Int32))])) _
        refine XS.ifNo X297.here hx rfl (hb hby at_220) rfl (XT.i0_eq_f ((by decide) : ¬ ((1 : Int32) = (0 : Int32)))) ?_
        show Steps p.tables e below (T297.setTop (mkF m 223 #[.val (.int p1), .val (.int p2), .val (.int p3), .val (.ref b1), .val (.ref b18), .val (.ref b38), .val (.ref b97), .val (.int (p3 &&& (3 : Int32))), .val (.int (1 : Int32)), .val (.ref b243), .val (.ref b97), .val (.ref b282)] [])) _
        refine XS.aload X297.here hx rfl (hb hby at_223) rfl rfl ?_
        show Steps p.tables e below (T297.setTop (mkF m 225 #[.val (.int p1), .val (.int p2), .val (.int p3), .val (.ref b1), .val (.ref b18), .val (.ref b38), .val (.ref b97), .val (.int (p3 &&& (3 : Int32))), .val (.int (1 : Int32)), .val (.ref b243), .val (.ref b97), .val (.ref b282)] [(.ref b243)])) _
        refine st298.trans ?_
        show Steps p.tables e below (T298.setTop (mkF m 228 #[.val (.int p1), .val (.int p2), .val (.int p3), .val (.ref b1), .val (.ref b18), .val (.ref b38), .val (.ref b97), .val (.int (p3 &&& (3 : Int32))), .val (.int (1 : Int32)), .val (.ref b243), .val (.ref b97), .val (.ref b282)] [(.ref g_OR)])) _
        refine st301 _ ?_
        show Steps p.tables e below (T301.setTop (mkF m 231 #[.val (.int p1), .val (.int p2), .val (.int p3), .val (.ref b1), .val (.ref b18), .val (.ref b38), .val (.ref b97), .val (.int (p3 &&& (3 : Int32))), .val (.int (1 : Int32)), .val (.ref b243), .val (.ref b97), .val (.ref b282)] [(.ref g_OR), (.ref g_OR)])) _
        refine Jvm.RoadKit.acmp (g := (mkF m 231 #[.val (.int p1), .val (.int p2), .val (.int p3), .val (.ref b1), .val (.ref b18), .val (.ref b38), .val (.ref b97), .val (.int (p3 &&& (3 : Int32))), .val (.int (1 : Int32)), .val (.ref b243), .val (.ref b97), .val (.ref b282)] [(.ref g_OR), (.ref g_OR)])) X301 hx rfl rfl rfl (pc0 := 231) (pc' := 234) (same := true) rfl (hb hby at_231) rfl (decide_eq_true rfl) (by decide) (by decide) ?_
        show Steps p.tables e below (T301.setTop (mkF m 234 #[.val (.int p1), .val (.int p2), .val (.int p3), .val (.ref b1), .val (.ref b18), .val (.ref b38), .val (.ref b97), .val (.int (p3 &&& (3 : Int32))), .val (.int (1 : Int32)), .val (.ref b243), .val (.ref b97), .val (.ref b282)] [])) _
        refine XS.aload X301.here hx rfl (hb hby at_234) rfl rfl ?_
        show Steps p.tables e below (T301.setTop (mkF m 236 #[.val (.int p1), .val (.int p2), .val (.int p3), .val (.ref b1), .val (.ref b18), .val (.ref b38), .val (.ref b97), .val (.int (p3 &&& (3 : Int32))), .val (.int (1 : Int32)), .val (.ref b243), .val (.ref b97), .val (.ref b282)] [(.ref b243)])) _
        refine st302.trans ?_
        show Steps p.tables e below (T302.setTop (mkF m 239 #[.val (.int p1), .val (.int p2), .val (.int p3), .val (.ref b1), .val (.ref b18), .val (.ref b38), .val (.ref b97), .val (.int (p3 &&& (3 : Int32))), .val (.int (1 : Int32)), .val (.ref b243), .val (.ref b97), .val (.ref b282)] [(.ref b38)])) _
        refine XS.aload X302.here hx rfl (hb hby at_239) rfl rfl ?_
        show Steps p.tables e below (T302.setTop (mkF m 241 #[.val (.int p1), .val (.int p2), .val (.int p3), .val (.ref b1), .val (.ref b18), .val (.ref b38), .val (.ref b97), .val (.int (p3 &&& (3 : Int32))), .val (.int (1 : Int32)), .val (.ref b243), .val (.ref b97), .val (.ref b282)] [(.ref b38), (.ref b38)])) _
        refine Jvm.RoadKit.acmp (g := (mkF m 241 #[.val (.int p1), .val (.int p2), .val (.int p3), .val (.ref b1), .val (.ref b18), .val (.ref b38), .val (.ref b97), .val (.int (p3 &&& (3 : Int32))), .val (.int (1 : Int32)), .val (.ref b243), .val (.ref b97), .val (.ref b282)] [(.ref b38), (.ref b38)])) X302 hx rfl rfl rfl (pc0 := 241) (pc' := 264) (same := true) rfl (hb hby at_241) rfl (decide_eq_true rfl) (by decide) (by decide) ?_
        show Steps p.tables e below (T302.setTop (mkF m 264 #[.val (.int p1), .val (.int p2), .val (.int p3), .val (.ref b1), .val (.ref b18), .val (.ref b38), .val (.ref b97), .val (.int (p3 &&& (3 : Int32))), .val (.int (1 : Int32)), .val (.ref b243), .val (.ref b97), .val (.ref b282)] [])) _
        refine XS.aload X302.here hx rfl (hb hby at_264) rfl rfl ?_
        show Steps p.tables e below (T302.setTop (mkF m 266 #[.val (.int p1), .val (.int p2), .val (.int p3), .val (.ref b1), .val (.ref b18), .val (.ref b38), .val (.ref b97), .val (.int (p3 &&& (3 : Int32))), .val (.int (1 : Int32)), .val (.ref b243), .val (.ref b97), .val (.ref b282)] [(.ref b97)])) _
        refine XS.aload X302.here hx rfl (hb hby at_266) rfl rfl ?_
        show Steps p.tables e below (T302.setTop (mkF m 268 #[.val (.int p1), .val (.int p2), .val (.int p3), .val (.ref b1), .val (.ref b18), .val (.ref b38), .val (.ref b97), .val (.int (p3 &&& (3 : Int32))), .val (.int (1 : Int32)), .val (.ref b243), .val (.ref b97), .val (.ref b282)] [(.ref b97), (.ref b97)])) _
        refine Jvm.RoadKit.acmp (g := (mkF m 268 #[.val (.int p1), .val (.int p2), .val (.int p3), .val (.ref b1), .val (.ref b18), .val (.ref b38), .val (.ref b97), .val (.int (p3 &&& (3 : Int32))), .val (.int (1 : Int32)), .val (.ref b243), .val (.ref b97), .val (.ref b282)] [(.ref b97), (.ref b97)])) X302 hx rfl rfl rfl (pc0 := 268) (pc' := 271) (same := true) rfl (hb hby at_268) rfl (decide_eq_true rfl) (by decide) (by decide) ?_
        show Steps p.tables e below (T302.setTop (mkF m 271 #[.val (.int p1), .val (.int p2), .val (.int p3), .val (.ref b1), .val (.ref b18), .val (.ref b38), .val (.ref b97), .val (.int (p3 &&& (3 : Int32))), .val (.int (1 : Int32)), .val (.ref b243), .val (.ref b97), .val (.ref b282)] [])) _
        refine XS.aload X302.here hx rfl (hb hby at_271) rfl rfl ?_
        show Steps p.tables e below (T302.setTop (mkF m 273 #[.val (.int p1), .val (.int p2), .val (.int p3), .val (.ref b1), .val (.ref b18), .val (.ref b38), .val (.ref b97), .val (.int (p3 &&& (3 : Int32))), .val (.int (1 : Int32)), .val (.ref b243), .val (.ref b97), .val (.ref b282)] [(.ref b97)])) _
        refine st304.trans ?_
        show Steps p.tables e below (T304.setTop (mkF m 276 #[.val (.int p1), .val (.int p2), .val (.int p3), .val (.ref b1), .val (.ref b18), .val (.ref b38), .val (.ref b97), .val (.int (p3 &&& (3 : Int32))), .val (.int (1 : Int32)), .val (.ref b243), .val (.ref b97), .val (.ref b282)] [.null])) _
        refine XS.ifnullYes X304.here hx rfl (pc0 := 276) (pc' := 281) rfl (hb hby at_276) rfl (by decide) (by decide) ?_
        show Steps p.tables e below (T304.setTop (mkF m 281 #[.val (.int p1), .val (.int p2), .val (.int p3), .val (.ref b1), .val (.ref b18), .val (.ref b38), .val (.ref b97), .val (.int (p3 &&& (3 : Int32))), .val (.int (1 : Int32)), .val (.ref b243), .val (.ref b97), .val (.ref b282)] [])) _
        refine XS.iconst X304.here hx rfl (hb hby at_281) ?_
        show Steps p.tables e below (T304.setTop (mkF m 282 #[.val (.int p1), .val (.int p2), .val (.int p3), .val (.ref b1), .val (.ref b18), .val (.ref b38), .val (.ref b97), .val (.int (p3 &&& (3 : Int32))), .val (.int (1 : Int32)), .val (.ref b243), .val (.ref b97), .val (.ref b282)] [(.int (1 : Int32))])) _
        exact retN X304 hx (t := .boolean) Bd.returns (by simp) (hb hby at_282) hr
      · show Q0 n0 _ T304.heap _
        rw [show T304.heap = T279.heap from e304q]
        exact ⟨rfl, N304⟩
      · show CHr Z ([] : List (String × Nat)) s.vm s.heap T304.vm T304.heap
        rw [hh]
        rw [show T304.heap = T279.heap from e304q]
        exact hCe
set_option maxRecDepth 65536 in
set_option maxHeartbeats 40000000 in
theorem comes_1 {Post : Tables → Env → Array Value → State → Outcome → State → Prop} (hpost : ∀ tb e args s v u, (limb_1_1.after args s (.returned v) u = true ∧ limb_1_2.after args s (.returned v) u = true ∧ True) → ReturnedEndW s (.returned v) u (Jvm.fieldLocs frame_1_writes args s ++ Jvm.arrayLocs frame_1_arrays args s ++ Jvm.staticLocs frame_1_statics s) 40 3264 → Post tb e args s (.returned v) u) :
    ArmFor flags0 classFile x code maxLocals ret World_1 tables_1 room_1 Calls_1 rest_1 Pre_1 Post := by
  intro l hfl _ _ p e ha hc hk s m args below hf hA hF happ hP
  obtain ⟨hcalls, hrest, hpre⟩ := hP
  obtain ⟨-, -, -, hnamed, -, -, -, hat⟩ := (Spec.applies_iff hf).mp happ
  obtain ⟨hg, hn⟩ := and_e (Cond.before_iff.mp (show (Jvm.Cond.and given_1 narrow_1).before args s = true from hpre))
  obtain ⟨hg0, hg1⟩ := and_e hg
  obtain ⟨ha1, hg2⟩ := and_e hg1
  obtain ⟨ha2, hg3⟩ := and_e hg2
  obtain ⟨w1, w2, w3, rfl⟩ : ∃ w1 w2 w3 : Value, args = #[w1, w2, w3] := by
    have hs : args.size = 3 := by simpa [Cond.value, given_1] using hg0
    obtain ⟨L⟩ := args
    match L, hs with
    | [w1, w2, w3], _ => exact ⟨w1, w2, w3, rfl⟩
  have hw := fun d (hd : d ∈ tables_1) => atoms_spec (ws := Jvm.Cond.code x code maxLocals ret :: tables_1) hat d (List.mem_cons_of_mem _ hd)
  obtain ⟨hsets, hown0⟩ := atoms_of _ (rest_1_c_eq ▸ (show rest_1_c.before _ s = true from hrest))
  have hfit : Fit s := fun {y c} hc i hi => by
    obtain ⟨ha, rfl⟩ := Array.getElem?_eq_some_iff.mp hc
    have q := List.all_eq_true.mp ((Array.all_eq_true_iff_forall_mem.mp hF) _ (Array.getElem_mem ha)) i (List.mem_range.mpr hi)
    simpa [Array.getElem?_eq_getElem hi] using q
  obtain ⟨i1, ei1⟩ := is_v ha1
  obtain rfl : w1 = (.int i1) := Option.some.inj ei1
  obtain ⟨i2, ei2⟩ := is_v ha2
  obtain rfl : w2 = (.int i2) := Option.some.inj ei2
  obtain ⟨i3, ei3⟩ := is_v hg3
  obtain rfl : w3 = (.int i3) := Option.some.inj ei3
  have nCS := not_v (Cond.before_iff.mp (hsets _ (List.mem_of_getElem? (i := 2) rfl)))
  obtain ⟨G1, eCS⟩ := is_v (Cond.before_iff.mp (hsets _ (List.mem_of_getElem? (i := 1) rfl)))
  have O2 : Sta s s.heap "java/lang/String" "COMPACT_STRINGS" "Z" (.int G1) := Sta.start eCS (Or.inl (hsets _ (List.mem_of_getElem? (i := 0) rfl)))
  have P5 : ¬ (G1 = (0 : Int32)) := gotF (Cond.eq_ints eCS (Term.int_eval (0))) nCS
  obtain ⟨hna, hnb⟩ := and_e hn
  obtain ⟨hnba, hnbb⟩ := and_e hnb
  obtain ⟨hnbba, hnbbb⟩ := and_e hnbb
  obtain ⟨g_IS_NULL, ev_g_IS_NULL⟩ := exa_v hna
  obtain ⟨g_AND, ev_g_AND⟩ := exa_v hnbba
  obtain ⟨g_OR, ev_g_OR⟩ := exa_v hnbbb
  have hEN : OwnEN s g_IS_NULL g_AND g_OR := ⟨Sta.start ev_g_IS_NULL (Or.inr ⟨(hw _ (List.mem_of_getElem? (i := 34) rfl)), (hw _ (List.mem_of_getElem? (i := 35) rfl))⟩), Exa.start ev_g_IS_NULL hna, Sta.start ev_g_AND (Or.inr ⟨(hw _ (List.mem_of_getElem? (i := 91) rfl)), (hw _ (List.mem_of_getElem? (i := 92) rfl))⟩), Exa.start ev_g_AND hnbba, Sta.start ev_g_OR (Or.inr ⟨(hw _ (List.mem_of_getElem? (i := 91) rfl)), (hw _ (List.mem_of_getElem? (i := 126) rfl))⟩), Exa.start ev_g_OR hnbbb, Fld.start ((fld_at ev_g_IS_NULL).symm.trans (null_v hnba))⟩
  have hCH : CHv s ([] : List (String × Nat)) s.vm s.heap := CHv.start (own_EW hw) (fun p hp => by cases hp) (hsets _ (List.mem_of_getElem? (i := 2) rfl)) (hw _ (List.mem_of_getElem? (i := 22) rfl)) (hw _ (List.mem_of_getElem? (i := 5) rfl))
  obtain ⟨n, o, h1, h2, h3, _, L, rfl, ⟨rfl, N⟩, -, hq⟩ := rm0 l s _ hw tables_1 G1 g_IS_NULL g_AND g_OR i1 i2 i3 s.heap s.heap.size (Old.start s) O2 P5 hEN p e ha hc hk s m _ below hf ((Spec.applies_iff_loose hf).mp happ).1 ⟨rfl, State.Warmed39.refl s, rfl, hCH⟩ trivial
  refine ⟨n, _, h1, h2, h3, hpost _ _ _ _ _ _ ⟨Cond.after_iff.mpr rfl, Cond.after_iff.mpr (eq_i res_at (Term.int_eval (1)) rfl), trivial⟩ ⟨hq.1, hq.2.1, hq.2.2.1, (hq.2.2.2.sift fun y hy => Or.inr (N y hy)).mono (by decide) (by decide)⟩⟩
theorem main_1_1 : Claimed_1_1 := comes_1 fun _ _ _ _ _ _ h hF => ⟨h.1, hF⟩
theorem main_1_2 : Claimed_1_2 := comes_1 fun _ _ _ _ _ _ h hF => ⟨h.2.1, hF⟩
end Jvm.Pilot.@@N@@
namespace Jvm.Pilot.@@N@@
open Jvm Jvm.ClassFile Sem Op Lib Jvm.Free Jvm.Stand Jvm.Pilot.@@N@@.Jvm.D
/-! MADE BY PROGRAM (witnessworld.py) out of the Statement's table words and the real class files: 26 classes; the members and pool entries that the words name. The judged class is class 1, her method 1. -/
namespace start1
open Jvm.ClassFile
def u (s : String) : CpInfo := .utf8 (stringToUtf16 s)
/-- a pool by its gaps: so many unusable entries, then the entry; so many at the end -/
def gap : Nat → List CpInfo → List CpInfo
  | 0, r => r
  | n + 1, r => .unusable :: gap n r
def poolList (es : List (Nat × CpInfo)) (last : Nat) : List CpInfo := es.foldr (fun e r => gap e.1 (e.2 :: r)) (gap last [])
def pool (es : List (Nat × CpInfo)) (last : Nat) : Array CpInfo := ⟨poolList es last⟩
def fileOf (pool : Array CpInfo) (this : Nat) (attrs : Array Attribute := #[]) (ms : Array MethodInfo := #[]) (fl : Nat := 33) (sup : Nat := 0) (ifs : Array Nat := #[]) (fds : Array FieldInfo := #[]) : ClassFile where
  minorVersion := 0
  majorVersion := 65
  constantPool := pool
  accessFlags := fl
  thisClass := this
  superClass := sup
  interfaces := ifs
  fields := fds
  methods := ms
  attributes := attrs
def plain (name : String) (sup : Option ClassId) : Class where
  name := name
  kind := .ordinary
  loader := none
  accessFlags := 33
  super := sup
  interfaces := #[]
  cf := none
  fields := #[]
  methods := #[]
  instanceTypes := #[]
  staticTypes := #[]
  resolved := #[]
  callSites := []
  init := .initialized
  statics := none
  mirror := none

def pool0 : Array CpInfo := pool [(5, u "<init>"), (0, u "()V"), (1, .class_ 10), (1, u "java/lang/Object")] 113

def k0c0 : Code := { maxStack := 0, maxLocals := 1, code := object_method_1_code, exceptionTable := #[], attributes := #[] }
def k0m0 : Method := { name := "<init>", desc := "()V", sig := { parameters := [], returnType := none }, accessFlags := 1, code := some k0c0 }
/-- java/lang/Object -/
def k0 : Class := { plain "java/lang/Object" none with
  accessFlags := 33
  interfaces := #[]
  cf := some (fileOf pool0 8 #[] #[{ accessFlags := 1, nameIndex := 5, descriptorIndex := 6, attributes := #[] }] 33 0 #[] #[])
  fields := #[]
  methods := #[k0m0]
  instanceTypes := #[]
  staticTypes := #[]
  resolved := Array.replicate 124 none
  statics := none }

def pool1 : Array CpInfo := pool [(2, .class_ 4), (1, u "java/lang/Object"), (0, u "<init>"), (0, u "()V"), (0, .class_ 8), (0, u "com/example/ratatoskr/ratatoskr/criteria/Filter"), (0, .class_ 10), (0, u "java/lang/String"), (0, .methodref 9 12), (0, .nameAndType 5 13), (0, u "([C)V"), (0, .fieldref 15 16), (0, .class_ 17), (0, .nameAndType 18 19), (0, u "com/example/ratatoskr/ratatoskr/criteria/ComparisonOperator"), (0, u "IS_NULL"), (0, u "Lcom/example/ratatoskr/ratatoskr/criteria/ComparisonOperator;"), (0, .methodref 7 21), (0, .nameAndType 5 22), (0, u "(Ljava/lang/String;Lcom/example/ratatoskr/ratatoskr/criteria/ComparisonOperator;)V"), (0, .methodref 7 24), (0, .nameAndType 25 26), (0, u "or"), (0, u "(Lcom/example/ratatoskr/ratatoskr/criteria/Filter;)Lcom/example/ratatoskr/ratatoskr/criteria/Filter;"), (0, .methodref 7 28), (0, .nameAndType 29 26), (0, u "and"), (0, .methodref 7 31), (0, .nameAndType 32 33), (0, u "comparison"), (0, u "()Lcom/example/ratatoskr/ratatoskr/criteria/Filter$Comparison;"), (0, .methodref 7 35), (0, .nameAndType 36 37), (0, u "left"), (0, u "()Lcom/example/ratatoskr/ratatoskr/criteria/Filter;"), (0, .methodref 7 39), (0, .nameAndType 40 37), (0, u "right"), (0, .methodref 7 42), (0, .nameAndType 43 44), (0, u "junction"), (0, u "()Lcom/example/ratatoskr/ratatoskr/criteria/Filter$Junction;"), (0, .fieldref 46 47), (0, .class_ 48), (0, .nameAndType 49 50), (0, u "com/example/ratatoskr/ratatoskr/criteria/Filter$Junction"), (0, u "AND"), (0, u "Lcom/example/ratatoskr/ratatoskr/criteria/Filter$Junction;"), (0, .fieldref 46 52), (0, .nameAndType 53 50), (0, u "OR"), (0, .class_ 55), (0, u "com/example/ratatoskr/ratatoskr/criteria/FilterAndPinLaw"), (2, u "law"), (0, u "(III)Z")] 10

def k1m0 : Method := { name := "<init>", desc := "()V", sig := { parameters := [], returnType := none }, accessFlags := 1, code := none }
def k1c1 : Code := { maxStack := 5, maxLocals := 12, code := code, exceptionTable := #[], attributes := #[] }
def k1m1 : Method := { name := "law", desc := "(III)Z", sig := { parameters := [.int, .int, .int], returnType := some .boolean }, accessFlags := 9, code := some k1c1 }
/-- com/example/ratatoskr/ratatoskr/criteria/FilterAndPinLaw -/
def k1 : Class := { plain "com/example/ratatoskr/ratatoskr/criteria/FilterAndPinLaw" (some 0) with
  accessFlags := 49
  interfaces := #[]
  cf := some (fileOf pool1 54 #[] #[{ accessFlags := 1, nameIndex := 5, descriptorIndex := 6, attributes := #[] }, { accessFlags := 9, nameIndex := 58, descriptorIndex := 59, attributes := #[] }] 49 2 #[] #[])
  fields := #[]
  methods := #[k1m0, k1m1]
  instanceTypes := #[]
  staticTypes := #[]
  resolved := Array.replicate 70 none
  statics := none }

def pool2 : Array CpInfo := pool [(1, .class_ 2), (0, u "com/example/ratatoskr/ratatoskr/criteria/Filter$Comparison"), (0, .methodref 1 4), (0, .nameAndType 5 6), (0, u "<init>"), (0, u "(Ljava/lang/String;Lcom/example/ratatoskr/ratatoskr/criteria/ComparisonOperator;Ljava/lang/Object;)V"), (0, .methodref 8 9), (0, .class_ 10), (0, .nameAndType 5 11), (0, u "com/example/ratatoskr/ratatoskr/criteria/Filter"), (0, u "(Lcom/example/ratatoskr/ratatoskr/criteria/Filter$Comparison;)V"), (0, .methodref 13 14), (0, .class_ 15), (0, .nameAndType 5 16), (0, u "java/lang/Object"), (0, u "()V"), (0, .fieldref 8 18), (0, .nameAndType 19 20), (0, u "comparison"), (0, u "Lcom/example/ratatoskr/ratatoskr/criteria/Filter$Comparison;"), (0, .fieldref 8 22), (0, .nameAndType 23 24), (0, u "left"), (0, u "Lcom/example/ratatoskr/ratatoskr/criteria/Filter;"), (0, .fieldref 8 26), (0, .nameAndType 27 28), (0, u "junction"), (0, u "Lcom/example/ratatoskr/ratatoskr/criteria/Filter$Junction;"), (0, .fieldref 8 30), (0, .nameAndType 31 24), (0, u "right"), (0, .string 33), (0, u "filter"), (0, .methodref 35 36), (0, .class_ 37), (0, .nameAndType 38 39), (0, u "java/util/Objects"), (0, u "requireNonNull"), (0, u "(Ljava/lang/Object;Ljava/lang/String;)Ljava/lang/Object;"), (0, .fieldref 41 42), (0, .class_ 43), (0, .nameAndType 44 28), (0, u "com/example/ratatoskr/ratatoskr/criteria/Filter$Junction"), (0, u "AND"), (0, .methodref 8 46), (0, .nameAndType 5 47), (0, u "(Lcom/example/ratatoskr/ratatoskr/criteria/Filter;Lcom/example/ratatoskr/ratatoskr/criteria/Filter$Junction;Lcom/example/ratatoskr/ratatoskr/criteria/Filter;)V"), (0, .fieldref 41 49), (0, .nameAndType 50 28), (0, u "OR"), (2, u "(Ljava/lang/String;Lcom/example/ratatoskr/ratatoskr/criteria/ComparisonOperator;)V"), (0, u "and"), (0, u "(Lcom/example/ratatoskr/ratatoskr/criteria/Filter;)Lcom/example/ratatoskr/ratatoskr/criteria/Filter;"), (0, u "or"), (0, u "()Lcom/example/ratatoskr/ratatoskr/criteria/Filter$Comparison;"), (0, u "()Lcom/example/ratatoskr/ratatoskr/criteria/Filter;"), (0, u "()Lcom/example/ratatoskr/ratatoskr/criteria/Filter$Junction;")] 6

def k2c0 : Code := { maxStack := 6, maxLocals := 3, code := prog_13_method_2_code, exceptionTable := #[], attributes := #[] }
def k2m0 : Method := { name := "<init>", desc := "(Ljava/lang/String;Lcom/example/ratatoskr/ratatoskr/criteria/ComparisonOperator;)V", sig := { parameters := [(.object "java/lang/String"), (.object "com/example/ratatoskr/ratatoskr/criteria/ComparisonOperator")], returnType := none }, accessFlags := 1, code := some k2c0 }
def k2c1 : Code := { maxStack := 2, maxLocals := 2, code := prog_13_method_3_code, exceptionTable := #[], attributes := #[] }
def k2m1 : Method := { name := "<init>", desc := "(Lcom/example/ratatoskr/ratatoskr/criteria/Filter$Comparison;)V", sig := { parameters := [(.object "com/example/ratatoskr/ratatoskr/criteria/Filter$Comparison")], returnType := none }, accessFlags := 2, code := some k2c1 }
def k2c2 : Code := { maxStack := 3, maxLocals := 4, code := prog_13_method_4_code, exceptionTable := #[], attributes := #[] }
def k2m2 : Method := { name := "<init>", desc := "(Lcom/example/ratatoskr/ratatoskr/criteria/Filter;Lcom/example/ratatoskr/ratatoskr/criteria/Filter$Junction;Lcom/example/ratatoskr/ratatoskr/criteria/Filter;)V", sig := { parameters := [(.object "com/example/ratatoskr/ratatoskr/criteria/Filter"), (.object "com/example/ratatoskr/ratatoskr/criteria/Filter$Junction"), (.object "com/example/ratatoskr/ratatoskr/criteria/Filter")], returnType := none }, accessFlags := 2, code := some k2c2 }
def k2c3 : Code := { maxStack := 5, maxLocals := 2, code := prog_13_method_5_code, exceptionTable := #[], attributes := #[] }
def k2m3 : Method := { name := "and", desc := "(Lcom/example/ratatoskr/ratatoskr/criteria/Filter;)Lcom/example/ratatoskr/ratatoskr/criteria/Filter;", sig := { parameters := [(.object "com/example/ratatoskr/ratatoskr/criteria/Filter")], returnType := some (.object "com/example/ratatoskr/ratatoskr/criteria/Filter") }, accessFlags := 1, code := some k2c3 }
def k2c4 : Code := { maxStack := 5, maxLocals := 2, code := prog_13_method_6_code, exceptionTable := #[], attributes := #[] }
def k2m4 : Method := { name := "or", desc := "(Lcom/example/ratatoskr/ratatoskr/criteria/Filter;)Lcom/example/ratatoskr/ratatoskr/criteria/Filter;", sig := { parameters := [(.object "com/example/ratatoskr/ratatoskr/criteria/Filter")], returnType := some (.object "com/example/ratatoskr/ratatoskr/criteria/Filter") }, accessFlags := 1, code := some k2c4 }
def k2c5 : Code := { maxStack := 1, maxLocals := 1, code := prog_13_method_7_code, exceptionTable := #[], attributes := #[] }
def k2m5 : Method := { name := "comparison", desc := "()Lcom/example/ratatoskr/ratatoskr/criteria/Filter$Comparison;", sig := { parameters := [], returnType := some (.object "com/example/ratatoskr/ratatoskr/criteria/Filter$Comparison") }, accessFlags := 1, code := some k2c5 }
def k2c6 : Code := { maxStack := 1, maxLocals := 1, code := prog_13_method_8_code, exceptionTable := #[], attributes := #[] }
def k2m6 : Method := { name := "left", desc := "()Lcom/example/ratatoskr/ratatoskr/criteria/Filter;", sig := { parameters := [], returnType := some (.object "com/example/ratatoskr/ratatoskr/criteria/Filter") }, accessFlags := 1, code := some k2c6 }
def k2c7 : Code := { maxStack := 1, maxLocals := 1, code := prog_13_method_9_code, exceptionTable := #[], attributes := #[] }
def k2m7 : Method := { name := "junction", desc := "()Lcom/example/ratatoskr/ratatoskr/criteria/Filter$Junction;", sig := { parameters := [], returnType := some (.object "com/example/ratatoskr/ratatoskr/criteria/Filter$Junction") }, accessFlags := 1, code := some k2c7 }
def k2c8 : Code := { maxStack := 1, maxLocals := 1, code := prog_13_method_10_code, exceptionTable := #[], attributes := #[] }
def k2m8 : Method := { name := "right", desc := "()Lcom/example/ratatoskr/ratatoskr/criteria/Filter;", sig := { parameters := [], returnType := some (.object "com/example/ratatoskr/ratatoskr/criteria/Filter") }, accessFlags := 1, code := some k2c8 }
/-- com/example/ratatoskr/ratatoskr/criteria/Filter -/
def k2 : Class := { plain "com/example/ratatoskr/ratatoskr/criteria/Filter" (some 0) with
  accessFlags := 49
  interfaces := #[]
  cf := some (fileOf pool2 8 #[.nestMembers #[1, 41]] #[{ accessFlags := 1, nameIndex := 5, descriptorIndex := 53, attributes := #[] }, { accessFlags := 2, nameIndex := 5, descriptorIndex := 11, attributes := #[] }, { accessFlags := 2, nameIndex := 5, descriptorIndex := 47, attributes := #[] }, { accessFlags := 1, nameIndex := 54, descriptorIndex := 55, attributes := #[] }, { accessFlags := 1, nameIndex := 56, descriptorIndex := 55, attributes := #[] }, { accessFlags := 1, nameIndex := 19, descriptorIndex := 57, attributes := #[] }, { accessFlags := 1, nameIndex := 23, descriptorIndex := 58, attributes := #[] }, { accessFlags := 1, nameIndex := 27, descriptorIndex := 59, attributes := #[] }, { accessFlags := 1, nameIndex := 31, descriptorIndex := 58, attributes := #[] }] 49 13 #[] #[{ accessFlags := 18, nameIndex := 19, descriptorIndex := 20, attributes := #[] }, { accessFlags := 18, nameIndex := 23, descriptorIndex := 24, attributes := #[] }, { accessFlags := 18, nameIndex := 27, descriptorIndex := 28, attributes := #[] }, { accessFlags := 18, nameIndex := 31, descriptorIndex := 24, attributes := #[] }])
  fields := #[{ name := "comparison", type := (.object "com/example/ratatoskr/ratatoskr/criteria/Filter$Comparison"), accessFlags := 18, slot := 0, constantValue := 0 }, { name := "left", type := (.object "com/example/ratatoskr/ratatoskr/criteria/Filter"), accessFlags := 18, slot := 1, constantValue := 0 }, { name := "junction", type := (.object "com/example/ratatoskr/ratatoskr/criteria/Filter$Junction"), accessFlags := 18, slot := 2, constantValue := 0 }, { name := "right", type := (.object "com/example/ratatoskr/ratatoskr/criteria/Filter"), accessFlags := 18, slot := 3, constantValue := 0 }]
  methods := #[k2m0, k2m1, k2m2, k2m3, k2m4, k2m5, k2m6, k2m7, k2m8]
  instanceTypes := #[(.object "com/example/ratatoskr/ratatoskr/criteria/Filter$Comparison"), (.object "com/example/ratatoskr/ratatoskr/criteria/Filter"), (.object "com/example/ratatoskr/ratatoskr/criteria/Filter$Junction"), (.object "com/example/ratatoskr/ratatoskr/criteria/Filter")]
  staticTypes := #[]
  resolved := Array.replicate 66 none
  statics := none }

def pool3 : Array CpInfo := pool [(1, .class_ 2), (0, u "java/io/Serializable"), (0, .class_ 4), (0, u "java/lang/Object")] 2

/-- java/io/Serializable -/
def k3 : Class := { plain "java/io/Serializable" (some 0) with
  accessFlags := 1537
  interfaces := #[]
  cf := some (fileOf pool3 1 #[] #[] 1537 3 #[] #[])
  fields := #[]
  methods := #[]
  instanceTypes := #[]
  staticTypes := #[]
  resolved := Array.replicate 7 none
  statics := none }

def pool4 : Array CpInfo := pool [(1, .class_ 2), (0, u "java/lang/Comparable"), (0, .class_ 4), (0, u "java/lang/Object")] 7

/-- java/lang/Comparable -/
def k4 : Class := { plain "java/lang/Comparable" (some 0) with
  accessFlags := 1537
  interfaces := #[]
  cf := some (fileOf pool4 1 #[] #[] 1537 3 #[] #[])
  fields := #[]
  methods := #[]
  instanceTypes := #[]
  staticTypes := #[]
  resolved := Array.replicate 12 none
  statics := none }

def pool5 : Array CpInfo := pool [(2, .class_ 4), (1, u "java/lang/CharSequence"), (42, .class_ 48), (0, u "java/lang/CharSequence$1CodePointIterator"), (10, .class_ 60), (0, u "java/lang/CharSequence$1CharIterator"), (5, .class_ 67), (0, u "java/lang/Object")] 63

/-- java/lang/CharSequence -/
def k5 : Class := { plain "java/lang/CharSequence" (some 0) with
  accessFlags := 1537
  interfaces := #[]
  cf := some (fileOf pool5 2 #[.nestMembers #[47, 59]] #[] 1537 66 #[] #[])
  fields := #[]
  methods := #[]
  instanceTypes := #[]
  staticTypes := #[]
  resolved := Array.replicate 131 none
  statics := none }

def pool6 : Array CpInfo := pool [(1, .class_ 2), (0, u "java/lang/constant/Constable"), (0, .class_ 4), (0, u "java/lang/Object")] 6

/-- java/lang/constant/Constable -/
def k6 : Class := { plain "java/lang/constant/Constable" (some 0) with
  accessFlags := 1537
  interfaces := #[]
  cf := some (fileOf pool6 1 #[] #[] 1537 3 #[] #[])
  fields := #[]
  methods := #[]
  instanceTypes := #[]
  staticTypes := #[]
  resolved := Array.replicate 11 none
  statics := none }

def pool7 : Array CpInfo := pool [(1, .class_ 2), (0, u "java/lang/constant/ConstantDesc"), (0, .class_ 4), (0, u "java/lang/Object")] 32

/-- java/lang/constant/ConstantDesc -/
def k7 : Class := { plain "java/lang/constant/ConstantDesc" (some 0) with
  accessFlags := 1537
  interfaces := #[]
  cf := some (fileOf pool7 1 #[] #[] 1537 3 #[] #[])
  fields := #[]
  methods := #[]
  instanceTypes := #[]
  staticTypes := #[]
  resolved := Array.replicate 37 none
  statics := none }

def pool8 : Array CpInfo := pool [(1, .methodref 2 3), (0, .class_ 4), (0, .nameAndType 5 6), (0, u "java/lang/Object"), (0, u "<init>"), (0, u "()V"), (2, .fieldref 10 11), (0, .class_ 12), (0, .nameAndType 13 14), (0, u "java/lang/String"), (0, u "value"), (0, u "[B"), (0, .fieldref 10 16), (0, .nameAndType 17 18), (0, u "coder"), (0, u "B"), (2, u "hash"), (0, u "I"), (2, u "hashIsZero"), (0, u "Z"), (0, .methodref 10 28), (0, .nameAndType 5 29), (0, u "([CIILjava/lang/Void;)V"), (8, .fieldref 10 39), (0, .nameAndType 40 26), (0, u "COMPACT_STRINGS"), (1, .class_ 44), (1, u "java/lang/StringUTF16"), (0, u "compress"), (1, .methodref 42 48), (0, .nameAndType 49 50), (0, u "coderFromArrayLen"), (0, u "([BI)B"), (126, .methodref 42 178), (0, .nameAndType 45 179), (0, u "([CII)[B"), (395, .class_ 576), (0, u "java/lang/CharSequence"), (22, u "CASE_INSENSITIVE_ORDER"), (0, u "Ljava/util/Comparator;"), (409, u "([C)V"), (90, u "serialPersistentFields"), (0, u "[Ljava/io/ObjectStreamField;"), (0, .class_ 1104), (0, u "java/lang/String$CaseInsensitiveComparator"), (1, .class_ 1107), (0, u "java/io/Serializable"), (0, .class_ 1109), (0, u "java/lang/Comparable"), (0, .class_ 1111), (0, u "java/lang/constant/Constable"), (0, .class_ 1113), (0, u "java/lang/constant/ConstantDesc"), (2, u "serialVersionUID"), (0, u "J"), (3, u "REPL"), (0, u "C"), (2, u "LATIN1"), (1, u "UTF16")] 323

def k8m0 : Method := { name := "<init>", desc := "()V", sig := { parameters := [], returnType := none }, accessFlags := 1, code := none }
def k8c1 : Code := { maxStack := 5, maxLocals := 2, code := jdk_42_method_3_code, exceptionTable := #[], attributes := #[] }
def k8m1 : Method := { name := "<init>", desc := "([C)V", sig := { parameters := [(.array .char)], returnType := none }, accessFlags := 1, code := some k8c1 }
def k8c2 : Code := { maxStack := 4, maxLocals := 6, code := jdk_42_method_149_code, exceptionTable := #[], attributes := #[] }
def k8m2 : Method := { name := "<init>", desc := "([CIILjava/lang/Void;)V", sig := { parameters := [(.array .char), .int, .int, (.object "java/lang/Void")], returnType := none }, accessFlags := 2, code := some k8c2 }
/-- java/lang/String -/
def k8 : Class := { plain "java/lang/String" (some 0) with
  accessFlags := 49
  interfaces := #[3, 4, 5, 6, 7]
  cf := some (fileOf pool8 10 #[.nestMembers #[1103]] #[{ accessFlags := 1, nameIndex := 5, descriptorIndex := 6, attributes := #[] }, { accessFlags := 1, nameIndex := 5, descriptorIndex := 1010, attributes := #[] }, { accessFlags := 2, nameIndex := 5, descriptorIndex := 29, attributes := #[] }] 49 2 #[1106, 1108, 575, 1110, 1112] #[{ accessFlags := 18, nameIndex := 13, descriptorIndex := 14, attributes := #[] }, { accessFlags := 18, nameIndex := 17, descriptorIndex := 18, attributes := #[] }, { accessFlags := 2, nameIndex := 21, descriptorIndex := 22, attributes := #[] }, { accessFlags := 2, nameIndex := 25, descriptorIndex := 26, attributes := #[] }, { accessFlags := 26, nameIndex := 1116, descriptorIndex := 1117, attributes := #[] }, { accessFlags := 24, nameIndex := 40, descriptorIndex := 26, attributes := #[] }, { accessFlags := 26, nameIndex := 1101, descriptorIndex := 1102, attributes := #[] }, { accessFlags := 26, nameIndex := 1121, descriptorIndex := 1122, attributes := #[] }, { accessFlags := 25, nameIndex := 599, descriptorIndex := 600, attributes := #[] }, { accessFlags := 24, nameIndex := 1125, descriptorIndex := 18, attributes := #[] }, { accessFlags := 24, nameIndex := 1127, descriptorIndex := 18, attributes := #[] }])
  fields := #[{ name := "value", type := (.array .byte), accessFlags := 18, slot := 0, constantValue := 0 }, { name := "coder", type := .byte, accessFlags := 18, slot := 1, constantValue := 0 }, { name := "hash", type := .int, accessFlags := 2, slot := 2, constantValue := 0 }, { name := "hashIsZero", type := .boolean, accessFlags := 2, slot := 3, constantValue := 0 }, { name := "serialVersionUID", type := .long, accessFlags := 26, slot := 0, constantValue := 0 }, { name := "COMPACT_STRINGS", type := .boolean, accessFlags := 24, slot := 1, constantValue := 0 }, { name := "serialPersistentFields", type := (.array (.object "java/io/ObjectStreamField")), accessFlags := 26, slot := 2, constantValue := 0 }, { name := "REPL", type := .char, accessFlags := 26, slot := 3, constantValue := 0 }, { name := "CASE_INSENSITIVE_ORDER", type := (.object "java/util/Comparator"), accessFlags := 25, slot := 4, constantValue := 0 }, { name := "LATIN1", type := .byte, accessFlags := 24, slot := 5, constantValue := 0 }, { name := "UTF16", type := .byte, accessFlags := 24, slot := 6, constantValue := 0 }]
  methods := #[k8m0, k8m1, k8m2]
  instanceTypes := #[(.array .byte), .byte, .int, .boolean]
  staticTypes := #[.long, .boolean, (.array (.object "java/io/ObjectStreamField")), .char, (.object "java/util/Comparator"), .byte, .byte]
  resolved := Array.replicate 1451 none
  statics := some 0 }

def pool9 : Array CpInfo := pool [(6, .class_ 8), (1, u "java/lang/Object"), (0, u "<init>"), (0, u "()V"), (1, .class_ 14), (1, u "java/lang/StringUTF16"), (31, u "$assertionsDisabled"), (0, u "Z"), (13, u "HI_BYTE_SHIFT"), (0, u "I"), (2, u "LO_BYTE_SHIFT"), (49, .methodref 12 116), (0, .nameAndType 117 118), (0, u "compress"), (0, u "([CI[BII)I"), (3, u "([CII)[B"), (138, u "coderFromArrayLen"), (0, u "([BI)B"), (106, .class_ 371), (1, u "java/lang/StringUTF16$LinesSpliterator"), (58, u "MAX_LENGTH"), (196, .class_ 628), (0, u "java/lang/StringUTF16$CodePointsSpliterator"), (0, .class_ 630), (0, u "java/lang/StringUTF16$CharsSpliterator")] 4

def k9m0 : Method := { name := "<init>", desc := "()V", sig := { parameters := [], returnType := none }, accessFlags := 0, code := none }
def k9c1 : Code := { maxStack := 2, maxLocals := 2, code := jdk_52_method_15_code, exceptionTable := #[], attributes := #[] }
def k9m1 : Method := { name := "coderFromArrayLen", desc := "([BI)B", sig := { parameters := [(.array .byte), .int], returnType := some .byte }, accessFlags := 8, code := some k9c1 }
def k9c2 : Code := { maxStack := 5, maxLocals := 6, code := jdk_52_method_16_code, exceptionTable := #[], attributes := #[] }
def k9m2 : Method := { name := "compress", desc := "([CII)[B", sig := { parameters := [(.array .char), .int, .int], returnType := some (.array .byte) }, accessFlags := 9, code := some k9c2 }
def k9c3 : Code := { maxStack := 3, maxLocals := 7, code := jdk_52_method_21_code, exceptionTable := #[], attributes := #[] }
def k9m3 : Method := { name := "compress", desc := "([CI[BII)I", sig := { parameters := [(.array .char), .int, (.array .byte), .int, .int], returnType := some .int }, accessFlags := 9, code := some k9c3 }
/-- java/lang/StringUTF16 -/
def k9 : Class := { plain "java/lang/StringUTF16" (some 0) with
  accessFlags := 48
  interfaces := #[]
  cf := some (fileOf pool9 12 #[.nestMembers #[627, 629, 369]] #[{ accessFlags := 0, nameIndex := 9, descriptorIndex := 10, attributes := #[] }, { accessFlags := 8, nameIndex := 261, descriptorIndex := 262, attributes := #[] }, { accessFlags := 9, nameIndex := 117, descriptorIndex := 122, attributes := #[] }, { accessFlags := 9, nameIndex := 117, descriptorIndex := 118, attributes := #[] }] 48 6 #[] #[{ accessFlags := 26, nameIndex := 61, descriptorIndex := 62, attributes := #[] }, { accessFlags := 26, nameIndex := 65, descriptorIndex := 62, attributes := #[] }, { accessFlags := 24, nameIndex := 430, descriptorIndex := 62, attributes := #[] }, { accessFlags := 4120, nameIndex := 46, descriptorIndex := 47, attributes := #[] }])
  fields := #[{ name := "HI_BYTE_SHIFT", type := .int, accessFlags := 26, slot := 0, constantValue := 0 }, { name := "LO_BYTE_SHIFT", type := .int, accessFlags := 26, slot := 1, constantValue := 0 }, { name := "MAX_LENGTH", type := .int, accessFlags := 24, slot := 2, constantValue := 0 }, { name := "$assertionsDisabled", type := .boolean, accessFlags := 4120, slot := 3, constantValue := 0 }]
  methods := #[k9m0, k9m1, k9m2, k9m3]
  instanceTypes := #[]
  staticTypes := #[.int, .int, .int, .boolean]
  resolved := Array.replicate 635 none
  statics := none }

def pool10 : Array CpInfo := pool [(2, .class_ 4), (1, u "java/lang/Enum"), (0, u "name"), (0, u "Ljava/lang/String;"), (2, u "ordinal"), (0, u "I"), (1, .class_ 14), (1, u "java/lang/Object"), (4, u "hash"), (86, .class_ 108), (1, u "java/lang/Enum$EnumDesc"), (2, .class_ 112), (0, u "java/lang/constant/Constable"), (0, .class_ 114), (0, u "java/lang/Comparable"), (0, .class_ 116), (0, u "java/io/Serializable")] 87

/-- java/lang/Enum -/
def k10 : Class := { plain "java/lang/Enum" (some 0) with
  accessFlags := 1057
  interfaces := #[6, 4, 3]
  cf := some (fileOf pool10 2 #[.nestMembers #[106]] #[] 1057 12 #[111, 113, 115] #[{ accessFlags := 18, nameIndex := 5, descriptorIndex := 6, attributes := #[] }, { accessFlags := 18, nameIndex := 9, descriptorIndex := 10, attributes := #[] }, { accessFlags := 2, nameIndex := 19, descriptorIndex := 10, attributes := #[] }])
  fields := #[{ name := "name", type := (.object "java/lang/String"), accessFlags := 18, slot := 0, constantValue := 0 }, { name := "ordinal", type := .int, accessFlags := 18, slot := 1, constantValue := 0 }, { name := "hash", type := .int, accessFlags := 2, slot := 2, constantValue := 0 }]
  methods := #[]
  instanceTypes := #[(.object "java/lang/String"), .int, .int]
  staticTypes := #[]
  resolved := Array.replicate 204 none
  statics := none }

def pool11 : Array CpInfo := pool [(1, .class_ 2), (0, u "com/example/ratatoskr/ratatoskr/criteria/ComparisonOperator"), (2, u "EQUALS"), (0, u "Lcom/example/ratatoskr/ratatoskr/criteria/ComparisonOperator;"), (2, u "GREATER_THAN"), (2, u "GREATER_THAN_EQUAL"), (2, u "LESS_THAN"), (2, u "LESS_THAN_EQUAL"), (2, u "IN"), (2, u "STARTING_WITH"), (2, u "CONTAINING"), (2, u "IS_NULL"), (2, u "$VALUES"), (0, u "[Lcom/example/ratatoskr/ratatoskr/criteria/ComparisonOperator;"), (6, .class_ 43), (1, u "java/lang/Enum"), (6, .fieldref 1 51), (0, .nameAndType 52 53), (0, u "operand"), (0, u "Ljava/lang/Class;"), (2, u "orders"), (0, u "Z"), (30, u "()Ljava/lang/Class;")] 7

def k11c0 : Code := { maxStack := 1, maxLocals := 1, code := prog_12_method_4_code, exceptionTable := #[], attributes := #[] }
def k11m0 : Method := { name := "operand", desc := "()Ljava/lang/Class;", sig := { parameters := [], returnType := some (.object "java/lang/Class") }, accessFlags := 0, code := some k11c0 }
/-- com/example/ratatoskr/ratatoskr/criteria/ComparisonOperator -/
def k11 : Class := { plain "com/example/ratatoskr/ratatoskr/criteria/ComparisonOperator" (some 10) with
  accessFlags := 16433
  interfaces := #[]
  cf := some (fileOf pool11 1 #[] #[{ accessFlags := 0, nameIndex := 52, descriptorIndex := 88, attributes := #[] }] 16433 41 #[] #[{ accessFlags := 16409, nameIndex := 5, descriptorIndex := 6, attributes := #[] }, { accessFlags := 16409, nameIndex := 9, descriptorIndex := 6, attributes := #[] }, { accessFlags := 16409, nameIndex := 12, descriptorIndex := 6, attributes := #[] }, { accessFlags := 16409, nameIndex := 15, descriptorIndex := 6, attributes := #[] }, { accessFlags := 16409, nameIndex := 18, descriptorIndex := 6, attributes := #[] }, { accessFlags := 16409, nameIndex := 21, descriptorIndex := 6, attributes := #[] }, { accessFlags := 16409, nameIndex := 24, descriptorIndex := 6, attributes := #[] }, { accessFlags := 16409, nameIndex := 27, descriptorIndex := 6, attributes := #[] }, { accessFlags := 16409, nameIndex := 30, descriptorIndex := 6, attributes := #[] }, { accessFlags := 18, nameIndex := 52, descriptorIndex := 53, attributes := #[] }, { accessFlags := 18, nameIndex := 56, descriptorIndex := 57, attributes := #[] }, { accessFlags := 4122, nameIndex := 33, descriptorIndex := 34, attributes := #[] }])
  fields := #[{ name := "EQUALS", type := (.object "com/example/ratatoskr/ratatoskr/criteria/ComparisonOperator"), accessFlags := 16409, slot := 0, constantValue := 0 }, { name := "GREATER_THAN", type := (.object "com/example/ratatoskr/ratatoskr/criteria/ComparisonOperator"), accessFlags := 16409, slot := 1, constantValue := 0 }, { name := "GREATER_THAN_EQUAL", type := (.object "com/example/ratatoskr/ratatoskr/criteria/ComparisonOperator"), accessFlags := 16409, slot := 2, constantValue := 0 }, { name := "LESS_THAN", type := (.object "com/example/ratatoskr/ratatoskr/criteria/ComparisonOperator"), accessFlags := 16409, slot := 3, constantValue := 0 }, { name := "LESS_THAN_EQUAL", type := (.object "com/example/ratatoskr/ratatoskr/criteria/ComparisonOperator"), accessFlags := 16409, slot := 4, constantValue := 0 }, { name := "IN", type := (.object "com/example/ratatoskr/ratatoskr/criteria/ComparisonOperator"), accessFlags := 16409, slot := 5, constantValue := 0 }, { name := "STARTING_WITH", type := (.object "com/example/ratatoskr/ratatoskr/criteria/ComparisonOperator"), accessFlags := 16409, slot := 6, constantValue := 0 }, { name := "CONTAINING", type := (.object "com/example/ratatoskr/ratatoskr/criteria/ComparisonOperator"), accessFlags := 16409, slot := 7, constantValue := 0 }, { name := "IS_NULL", type := (.object "com/example/ratatoskr/ratatoskr/criteria/ComparisonOperator"), accessFlags := 16409, slot := 8, constantValue := 0 }, { name := "operand", type := (.object "java/lang/Class"), accessFlags := 18, slot := 3, constantValue := 0 }, { name := "orders", type := .boolean, accessFlags := 18, slot := 4, constantValue := 0 }, { name := "$VALUES", type := (.array (.object "com/example/ratatoskr/ratatoskr/criteria/ComparisonOperator")), accessFlags := 4122, slot := 9, constantValue := 0 }]
  methods := #[k11m0]
  instanceTypes := #[(.object "java/lang/String"), .int, .int, (.object "java/lang/Class"), .boolean]
  staticTypes := #[(.object "com/example/ratatoskr/ratatoskr/criteria/ComparisonOperator"), (.object "com/example/ratatoskr/ratatoskr/criteria/ComparisonOperator"), (.object "com/example/ratatoskr/ratatoskr/criteria/ComparisonOperator"), (.object "com/example/ratatoskr/ratatoskr/criteria/ComparisonOperator"), (.object "com/example/ratatoskr/ratatoskr/criteria/ComparisonOperator"), (.object "com/example/ratatoskr/ratatoskr/criteria/ComparisonOperator"), (.object "com/example/ratatoskr/ratatoskr/criteria/ComparisonOperator"), (.object "com/example/ratatoskr/ratatoskr/criteria/ComparisonOperator"), (.object "com/example/ratatoskr/ratatoskr/criteria/ComparisonOperator"), (.array (.object "com/example/ratatoskr/ratatoskr/criteria/ComparisonOperator"))]
  resolved := Array.replicate 96 none
  statics := some 1 }

def pool12 : Array CpInfo := pool [(1, .methodref 2 3), (0, .class_ 4), (0, .nameAndType 5 6), (0, u "java/lang/Object"), (0, u "<init>"), (0, u "()V"), (0, .class_ 8), (0, u "java/lang/Record")] 13

def k12c0 : Code := { maxStack := 1, maxLocals := 1, code := jdk_30_method_1_code, exceptionTable := #[], attributes := #[] }
def k12m0 : Method := { name := "<init>", desc := "()V", sig := { parameters := [], returnType := none }, accessFlags := 4, code := some k12c0 }
/-- java/lang/Record -/
def k12 : Class := { plain "java/lang/Record" (some 0) with
  accessFlags := 1057
  interfaces := #[]
  cf := some (fileOf pool12 7 #[] #[{ accessFlags := 4, nameIndex := 5, descriptorIndex := 6, attributes := #[] }] 1057 2 #[] #[])
  fields := #[]
  methods := #[k12m0]
  instanceTypes := #[]
  staticTypes := #[]
  resolved := Array.replicate 22 none
  statics := none }

def pool13 : Array CpInfo := pool [(1, .methodref 2 3), (0, .class_ 4), (0, .nameAndType 5 6), (0, u "java/lang/Record"), (0, u "<init>"), (0, u "()V"), (0, .string 8), (0, u "property"), (0, .methodref 10 11), (0, .class_ 12), (0, .nameAndType 13 14), (0, u "java/util/Objects"), (0, u "requireNonNull"), (0, u "(Ljava/lang/Object;Ljava/lang/String;)Ljava/lang/Object;"), (0, .string 16), (0, u "operator"), (0, .methodref 18 19), (0, .class_ 20), (0, .nameAndType 21 22), (0, u "com/example/ratatoskr/ratatoskr/criteria/ComparisonOperator"), (0, u "operand"), (0, u "()Ljava/lang/Class;"), (24, u "value"), (12, .class_ 62), (1, u "com/example/ratatoskr/ratatoskr/criteria/Filter$Comparison"), (2, .fieldref 60 66), (0, .nameAndType 8 67), (0, u "Ljava/lang/String;"), (0, .fieldref 60 69), (0, .nameAndType 16 70), (0, u "Lcom/example/ratatoskr/ratatoskr/criteria/ComparisonOperator;"), (0, .fieldref 60 72), (0, .nameAndType 47 73), (0, u "Ljava/lang/Object;"), (43, u "(Ljava/lang/String;Lcom/example/ratatoskr/ratatoskr/criteria/ComparisonOperator;Ljava/lang/Object;)V"), (13, .class_ 132), (0, u "com/example/ratatoskr/ratatoskr/criteria/Filter")] 31

def k13c0 : Code := { maxStack := 5, maxLocals := 6, code := prog_14_method_1_code, exceptionTable := #[], attributes := #[] }
def k13m0 : Method := { name := "<init>", desc := "(Ljava/lang/String;Lcom/example/ratatoskr/ratatoskr/criteria/ComparisonOperator;Ljava/lang/Object;)V", sig := { parameters := [(.object "java/lang/String"), (.object "com/example/ratatoskr/ratatoskr/criteria/ComparisonOperator"), (.object "java/lang/Object")], returnType := none }, accessFlags := 1, code := some k13c0 }
/-- com/example/ratatoskr/ratatoskr/criteria/Filter$Comparison -/
def k13 : Class := { plain "com/example/ratatoskr/ratatoskr/criteria/Filter$Comparison" (some 12) with
  accessFlags := 49
  interfaces := #[]
  cf := some (fileOf pool13 60 #[.nestHost 131] #[{ accessFlags := 1, nameIndex := 5, descriptorIndex := 117, attributes := #[] }] 49 2 #[] #[{ accessFlags := 18, nameIndex := 8, descriptorIndex := 67, attributes := #[] }, { accessFlags := 18, nameIndex := 16, descriptorIndex := 70, attributes := #[] }, { accessFlags := 18, nameIndex := 47, descriptorIndex := 73, attributes := #[] }])
  fields := #[{ name := "property", type := (.object "java/lang/String"), accessFlags := 18, slot := 0, constantValue := 0 }, { name := "operator", type := (.object "com/example/ratatoskr/ratatoskr/criteria/ComparisonOperator"), accessFlags := 18, slot := 1, constantValue := 0 }, { name := "value", type := (.object "java/lang/Object"), accessFlags := 18, slot := 2, constantValue := 0 }]
  methods := #[k13m0]
  instanceTypes := #[(.object "java/lang/String"), (.object "com/example/ratatoskr/ratatoskr/criteria/ComparisonOperator"), (.object "java/lang/Object")]
  staticTypes := #[]
  resolved := Array.replicate 164 none
  statics := none }

def pool14 : Array CpInfo := pool [(2, .class_ 4), (1, u "java/lang/Object"), (0, u "<init>"), (0, u "()V"), (35, .class_ 44), (1, u "java/util/Objects"), (0, u "requireNonNull"), (48, u "(Ljava/lang/Object;Ljava/lang/String;)Ljava/lang/Object;")] 89

def k14m0 : Method := { name := "<init>", desc := "()V", sig := { parameters := [], returnType := none }, accessFlags := 2, code := none }
def k14c1 : Code := { maxStack := 3, maxLocals := 2, code := jdk_31_method_11_code, exceptionTable := #[], attributes := #[] }
def k14m1 : Method := { name := "requireNonNull", desc := "(Ljava/lang/Object;Ljava/lang/String;)Ljava/lang/Object;", sig := { parameters := [(.object "java/lang/Object"), (.object "java/lang/String")], returnType := some (.object "java/lang/Object") }, accessFlags := 9, code := some k14c1 }
/-- java/util/Objects -/
def k14 : Class := { plain "java/util/Objects" (some 0) with
  accessFlags := 49
  interfaces := #[]
  cf := some (fileOf pool14 42 #[] #[{ accessFlags := 2, nameIndex := 5, descriptorIndex := 6, attributes := #[] }, { accessFlags := 9, nameIndex := 45, descriptorIndex := 94, attributes := #[] }] 49 2 #[] #[])
  fields := #[]
  methods := #[k14m0, k14m1]
  instanceTypes := #[]
  staticTypes := #[]
  resolved := Array.replicate 184 none
  statics := none }

def pool15 : Array CpInfo := pool [(1, .class_ 2), (0, u "com/example/ratatoskr/ratatoskr/criteria/Filter$Junction"), (2, u "AND"), (0, u "Lcom/example/ratatoskr/ratatoskr/criteria/Filter$Junction;"), (2, u "OR"), (2, u "$VALUES"), (0, u "[Lcom/example/ratatoskr/ratatoskr/criteria/Filter$Junction;"), (6, .class_ 22), (1, u "java/lang/Enum"), (25, .class_ 49), (0, u "com/example/ratatoskr/ratatoskr/criteria/Filter")] 2

/-- com/example/ratatoskr/ratatoskr/criteria/Filter$Junction -/
def k15 : Class := { plain "com/example/ratatoskr/ratatoskr/criteria/Filter$Junction" (some 10) with
  accessFlags := 16433
  interfaces := #[]
  cf := some (fileOf pool15 1 #[.nestHost 48] #[] 16433 20 #[] #[{ accessFlags := 16409, nameIndex := 5, descriptorIndex := 6, attributes := #[] }, { accessFlags := 16409, nameIndex := 9, descriptorIndex := 6, attributes := #[] }, { accessFlags := 4122, nameIndex := 12, descriptorIndex := 13, attributes := #[] }])
  fields := #[{ name := "AND", type := (.object "com/example/ratatoskr/ratatoskr/criteria/Filter$Junction"), accessFlags := 16409, slot := 0, constantValue := 0 }, { name := "OR", type := (.object "com/example/ratatoskr/ratatoskr/criteria/Filter$Junction"), accessFlags := 16409, slot := 1, constantValue := 0 }, { name := "$VALUES", type := (.array (.object "com/example/ratatoskr/ratatoskr/criteria/Filter$Junction")), accessFlags := 4122, slot := 2, constantValue := 0 }]
  methods := #[]
  instanceTypes := #[(.object "java/lang/String"), .int, .int]
  staticTypes := #[(.object "com/example/ratatoskr/ratatoskr/criteria/Filter$Junction"), (.object "com/example/ratatoskr/ratatoskr/criteria/Filter$Junction"), (.array (.object "com/example/ratatoskr/ratatoskr/criteria/Filter$Junction"))]
  resolved := Array.replicate 52 none
  statics := some 2 }

def pool16 : Array CpInfo := pool [(4, .class_ 6), (1, u "java/lang/Object"), (0, u "<init>"), (0, u "()V"), (5, .class_ 16), (1, u "java/lang/StringLatin1"), (104, u "$assertionsDisabled"), (0, u "Z"), (98, .class_ 223), (1, u "java/lang/StringLatin1$LinesSpliterator"), (166, .class_ 391), (0, u "java/lang/StringLatin1$CharsSpliterator")] 3

def k16m0 : Method := { name := "<init>", desc := "()V", sig := { parameters := [], returnType := none }, accessFlags := 0, code := none }
/-- java/lang/StringLatin1 -/
def k16 : Class := { plain "java/lang/StringLatin1" (some 0) with
  accessFlags := 48
  interfaces := #[]
  cf := some (fileOf pool16 14 #[.nestMembers #[390, 221]] #[{ accessFlags := 0, nameIndex := 7, descriptorIndex := 8, attributes := #[] }] 48 4 #[] #[{ accessFlags := 4120, nameIndex := 121, descriptorIndex := 122, attributes := #[] }])
  fields := #[{ name := "$assertionsDisabled", type := .boolean, accessFlags := 4120, slot := 0, constantValue := 0 }]
  methods := #[k16m0]
  instanceTypes := #[]
  staticTypes := #[.boolean]
  resolved := Array.replicate 395 none
  statics := none }

def pool17 : Array CpInfo := pool [(2, .class_ 4), (1, u "java/lang/Object"), (0, u "<init>"), (0, u "()V"), (17, .class_ 26), (1, u "jdk/internal/util/Preconditions"), (28, .class_ 56), (0, u "jdk/internal/util/Preconditions$4"), (57, .class_ 115), (0, u "jdk/internal/util/Preconditions$1"), (7, u "SIOOBE_FORMATTER"), (0, u "Ljava/util/function/BiFunction;"), (0, .class_ 126), (0, u "jdk/internal/util/Preconditions$2"), (3, u "AIOOBE_FORMATTER"), (0, .class_ 132), (0, u "jdk/internal/util/Preconditions$3"), (3, u "IOOBE_FORMATTER")] 57

def k17m0 : Method := { name := "<init>", desc := "()V", sig := { parameters := [], returnType := none }, accessFlags := 1, code := none }
/-- jdk/internal/util/Preconditions -/
def k17 : Class := { plain "jdk/internal/util/Preconditions" (some 0) with
  accessFlags := 33
  interfaces := #[]
  cf := some (fileOf pool17 24 #[.nestMembers #[55, 131, 125, 114]] #[{ accessFlags := 1, nameIndex := 5, descriptorIndex := 6, attributes := #[] }] 33 2 #[] #[{ accessFlags := 25, nameIndex := 123, descriptorIndex := 124, attributes := #[] }, { accessFlags := 25, nameIndex := 130, descriptorIndex := 124, attributes := #[] }, { accessFlags := 25, nameIndex := 136, descriptorIndex := 124, attributes := #[] }])
  fields := #[{ name := "SIOOBE_FORMATTER", type := (.object "java/util/function/BiFunction"), accessFlags := 25, slot := 0, constantValue := 0 }, { name := "AIOOBE_FORMATTER", type := (.object "java/util/function/BiFunction"), accessFlags := 25, slot := 1, constantValue := 0 }, { name := "IOOBE_FORMATTER", type := (.object "java/util/function/BiFunction"), accessFlags := 25, slot := 2, constantValue := 0 }]
  methods := #[k17m0]
  instanceTypes := #[]
  staticTypes := #[(.object "java/util/function/BiFunction"), (.object "java/util/function/BiFunction"), (.object "java/util/function/BiFunction")]
  resolved := Array.replicate 194 none
  statics := some 3 }

def pool18 : Array CpInfo := pool [(9, u "<init>"), (6, .class_ 18), (1, u "java/lang/Object"), (0, u "()V"), (1, .class_ 23), (1, u "jdk/internal/util/ArraysSupport"), (0, u "LOG2_ARRAY_LONG_INDEX_SCALE"), (0, u "I"), (2, u "U"), (0, u "Ljdk/internal/misc/Unsafe;"), (8, u "BIG_ENDIAN"), (0, u "Z"), (8, u "LOG2_BYTE_BIT_SIZE"), (4, u "LOG2_ARRAY_INT_INDEX_SCALE"), (54, u "JLA"), (0, u "Ljdk/internal/access/JavaLangAccess;"), (11, u "LOG2_ARRAY_BOOLEAN_INDEX_SCALE"), (9, u "LOG2_ARRAY_BYTE_INDEX_SCALE"), (5, u "LOG2_ARRAY_CHAR_INDEX_SCALE"), (5, u "LOG2_ARRAY_SHORT_INDEX_SCALE"), (18, u "LOG2_ARRAY_FLOAT_INDEX_SCALE"), (24, u "LOG2_ARRAY_DOUBLE_INDEX_SCALE"), (89, u "T_BOOLEAN"), (2, u "T_CHAR"), (1, u "T_FLOAT"), (1, u "T_DOUBLE"), (1, u "T_BYTE"), (1, u "T_SHORT"), (1, u "T_INT"), (1, u "T_LONG"), (1, u "SOFT_MAX_ARRAY_LENGTH")] 83

def k18m0 : Method := { name := "<init>", desc := "()V", sig := { parameters := [], returnType := none }, accessFlags := 2, code := none }
/-- jdk/internal/util/ArraysSupport -/
def k18 : Class := { plain "jdk/internal/util/ArraysSupport" (some 0) with
  accessFlags := 33
  interfaces := #[]
  cf := some (fileOf pool18 21 #[] #[{ accessFlags := 2, nameIndex := 9, descriptorIndex := 19, attributes := #[] }] 33 16 #[] #[{ accessFlags := 24, nameIndex := 28, descriptorIndex := 29, attributes := #[] }, { accessFlags := 26, nameIndex := 38, descriptorIndex := 39, attributes := #[] }, { accessFlags := 25, nameIndex := 121, descriptorIndex := 25, attributes := #[] }, { accessFlags := 25, nameIndex := 131, descriptorIndex := 25, attributes := #[] }, { accessFlags := 25, nameIndex := 137, descriptorIndex := 25, attributes := #[] }, { accessFlags := 25, nameIndex := 143, descriptorIndex := 25, attributes := #[] }, { accessFlags := 25, nameIndex := 53, descriptorIndex := 25, attributes := #[] }, { accessFlags := 25, nameIndex := 24, descriptorIndex := 25, attributes := #[] }, { accessFlags := 25, nameIndex := 162, descriptorIndex := 25, attributes := #[] }, { accessFlags := 25, nameIndex := 187, descriptorIndex := 25, attributes := #[] }, { accessFlags := 26, nameIndex := 48, descriptorIndex := 25, attributes := #[] }, { accessFlags := 25, nameIndex := 277, descriptorIndex := 25, attributes := #[] }, { accessFlags := 25, nameIndex := 280, descriptorIndex := 25, attributes := #[] }, { accessFlags := 25, nameIndex := 282, descriptorIndex := 25, attributes := #[] }, { accessFlags := 25, nameIndex := 284, descriptorIndex := 25, attributes := #[] }, { accessFlags := 25, nameIndex := 286, descriptorIndex := 25, attributes := #[] }, { accessFlags := 25, nameIndex := 288, descriptorIndex := 25, attributes := #[] }, { accessFlags := 25, nameIndex := 290, descriptorIndex := 25, attributes := #[] }, { accessFlags := 25, nameIndex := 292, descriptorIndex := 25, attributes := #[] }, { accessFlags := 26, nameIndex := 108, descriptorIndex := 109, attributes := #[] }, { accessFlags := 25, nameIndex := 294, descriptorIndex := 25, attributes := #[] }])
  fields := #[{ name := "U", type := (.object "jdk/internal/misc/Unsafe"), accessFlags := 24, slot := 0, constantValue := 0 }, { name := "BIG_ENDIAN", type := .boolean, accessFlags := 26, slot := 1, constantValue := 0 }, { name := "LOG2_ARRAY_BOOLEAN_INDEX_SCALE", type := .int, accessFlags := 25, slot := 2, constantValue := 0 }, { name := "LOG2_ARRAY_BYTE_INDEX_SCALE", type := .int, accessFlags := 25, slot := 3, constantValue := 0 }, { name := "LOG2_ARRAY_CHAR_INDEX_SCALE", type := .int, accessFlags := 25, slot := 4, constantValue := 0 }, { name := "LOG2_ARRAY_SHORT_INDEX_SCALE", type := .int, accessFlags := 25, slot := 5, constantValue := 0 }, { name := "LOG2_ARRAY_INT_INDEX_SCALE", type := .int, accessFlags := 25, slot := 6, constantValue := 0 }, { name := "LOG2_ARRAY_LONG_INDEX_SCALE", type := .int, accessFlags := 25, slot := 7, constantValue := 0 }, { name := "LOG2_ARRAY_FLOAT_INDEX_SCALE", type := .int, accessFlags := 25, slot := 8, constantValue := 0 }, { name := "LOG2_ARRAY_DOUBLE_INDEX_SCALE", type := .int, accessFlags := 25, slot := 9, constantValue := 0 }, { name := "LOG2_BYTE_BIT_SIZE", type := .int, accessFlags := 26, slot := 10, constantValue := 0 }, { name := "T_BOOLEAN", type := .int, accessFlags := 25, slot := 11, constantValue := 0 }, { name := "T_CHAR", type := .int, accessFlags := 25, slot := 12, constantValue := 0 }, { name := "T_FLOAT", type := .int, accessFlags := 25, slot := 13, constantValue := 0 }, { name := "T_DOUBLE", type := .int, accessFlags := 25, slot := 14, constantValue := 0 }, { name := "T_BYTE", type := .int, accessFlags := 25, slot := 15, constantValue := 0 }, { name := "T_SHORT", type := .int, accessFlags := 25, slot := 16, constantValue := 0 }, { name := "T_INT", type := .int, accessFlags := 25, slot := 17, constantValue := 0 }, { name := "T_LONG", type := .int, accessFlags := 25, slot := 18, constantValue := 0 }, { name := "JLA", type := (.object "jdk/internal/access/JavaLangAccess"), accessFlags := 26, slot := 19, constantValue := 0 }, { name := "SOFT_MAX_ARRAY_LENGTH", type := .int, accessFlags := 25, slot := 20, constantValue := 0 }]
  methods := #[k18m0]
  instanceTypes := #[]
  staticTypes := #[(.object "jdk/internal/misc/Unsafe"), .boolean, .int, .int, .int, .int, .int, .int, .int, .int, .int, .int, .int, .int, .int, .int, .int, .int, .int, (.object "jdk/internal/access/JavaLangAccess"), .int]
  resolved := Array.replicate 378 none
  statics := none }

def pool19 : Array CpInfo := pool [(1, u "java/lang/Cloneable"), (0, .class_ 1), (0, u "java/lang/Object"), (0, .class_ 3)] 3

/-- java/lang/Cloneable -/
def k19 : Class := { plain "java/lang/Cloneable" (some 0) with
  accessFlags := 1537
  interfaces := #[]
  cf := some (fileOf pool19 2 #[] #[] 1537 4 #[] #[])
  fields := #[]
  methods := #[]
  instanceTypes := #[]
  staticTypes := #[]
  resolved := Array.replicate 8 none
  statics := none }

/-- the primitive byte -/
def k20 : Class := { plain "byte" none with kind := .primitive 'B', accessFlags := 0x411 }
/-- [B -/
def k21 : Class := { plain "[B" (some 0) with kind := .array 20 .byte, interfaces := #[19, 3], accessFlags := 1041 }

/-- the primitive char -/
def k22 : Class := { plain "char" none with kind := .primitive 'C', accessFlags := 0x411 }
/-- [C -/
def k23 : Class := { plain "[C" (some 0) with kind := .array 22 .char, interfaces := #[19, 3], accessFlags := 1041 }

/-- the primitive int -/
def k24 : Class := { plain "int" none with kind := .primitive 'I', accessFlags := 0x411 }
/-- [I -/
def k25 : Class := { plain "[I" (some 0) with kind := .array 24 .int, interfaces := #[19, 3], accessFlags := 1041 }

def heap : Heap := #[{ cls := 8, slots := #[.long 0, .int 1, .null, .int 0, .null, .int 0, .int 0], vm := .statics 8 },
  { cls := 11, slots := #[.null, .null, .null, .null, .null, .null, .null, .null, .ref 4, .null], vm := .statics 11 },
  { cls := 15, slots := #[.ref 5, .ref 6, .null], vm := .statics 15 },
  { cls := 17, slots := #[.null, .null, .null], vm := .statics 17 },
  { cls := 11, slots := #[.null, .int 0, .int 0, .null, .int 0], vm := .none },
  { cls := 15, slots := #[.null, .int 0, .int 0], vm := .none },
  { cls := 15, slots := #[.null, .int 0, .int 0], vm := .none }]
def classes : Array Class := #[k0, k1, k2, k3, k4, k5, k6, k7, k8, k9, k10, k11, k12, k13, k14, k15, k16, k17, k18, k19, k20, k21, k22, k23, k24, k25]
def interned : List (Array UInt16 × Addr) := []
def slotsUsed : Nat := 34
def theMethod : MethodId := ⟨1, 1⟩
def args0 : Array Value := #[.int 5, .int 6, .int 7]
def aboutOver (below : List Frame) : State where
  vm := { classes := classes, interned := interned.toArray }
  heap := heap
  slotsUsed := slotsUsed
  threads := #[{ frames := .invoking theMethod args0 :: below }]
def below0 : List Frame := [.native { method := ⟨0, 0⟩, args := #[] }]
def about1 : State := aboutOver below0
def p0 : Program := .bare "" "" ""
def e0 : Env := launch0.env 0 0 0
theorem w_frames : about1.frames = Frame.invoking theMethod args0 :: below0 := rfl
set_option maxRecDepth 65536 in
theorem w_args : argsFit about1.vm theMethod args0 = true := by decide +kernel
set_option maxRecDepth 65536 in
theorem w_heap : heapFits about1 = true := by decide +kernel
set_option maxRecDepth 65536 in
theorem w_runnable : about1.curStatus? = some .runnable := by decide +kernel
set_option maxRecDepth 65536 in
theorem w_alone : about1.alone = true := by decide +kernel
set_option maxRecDepth 65536 in
theorem w_named : about1.methodNamed? x = some theMethod := by decide +kernel
set_option maxRecDepth 65536 in
theorem w_hears : about1.hears theMethod below0 = true := by decide +kernel
set_option maxRecDepth 65536 in
theorem w_ripe : about1.ripe theMethod args0 below0 = true := by decide +kernel
theorem w_running : about1.status = .running := rfl
set_option maxRecDepth 65536 in
theorem w_room : about1.hasRoom e0.platform room_1 = true :=
  launch0.hasRoom_least _ room_1 (by decide +kernel) (by decide +kernel) (by decide +kernel) (by decide +kernel) (by decide +kernel) (by decide +kernel)
theorem allAtoms_all (ts : List Jvm.Cond) (a : Array Jvm.Value) (st : Jvm.State) : (allAtoms ts).before a st = ts.all (fun c => c.before a st) := by
  induction ts with
  | nil => rfl
  | cons c t ih =>
    show (Jvm.Cond.and c (allAtoms t)).before a st = _
    rw [Jvm.Cond.before_and, ih, List.all_cons]
def words1 : List Jvm.Cond := Jvm.Cond.code x code maxLocals ret :: tables_1
/-- a 'code' word, met by the world's own term for the bytes: nothing is compared byte by byte -/
theorem code_word {y : MethodName} {bytes : ByteArray} {mx : Nat} {rt : Option FieldType} {a : Array Value} {s : State} {m : MethodId} {meth : Method} {c : Code} (h1 : s.methodNamed? y = some m) (h2 : s.vm.method? m = some meth) (h3 : meth.code = some c) (h4 : c.code = bytes)
    (h5 : (c.maxLocals == mx && c.exceptionTable.isEmpty && decide (c.maxStack ≤ mostOperands) && decide (meth.sig.returnType = rt) && !meth.locks && decide (parseMethodDescriptor y.desc = some meth.sig)) = true) : (Jvm.Cond.code y bytes mx rt).before a s = true := by
  simp only [Bool.and_eq_true, beq_iff_eq, Bool.not_eq_true', decide_eq_true_eq] at h5
  obtain ⟨⟨⟨⟨⟨g1, g2⟩, g3⟩, g4⟩, g5⟩, g6⟩ := h5
  simp [Cond.before, Cond.holds, Cond.value, h1, h2, h3, h4, g1, g2, g3, g4, g5, g6]
def isCode : Jvm.Cond → Bool
  | .code _ _ _ _ => true
  | _ => false
theorem all_split {L : List Jvm.Cond} {P : Jvm.Cond → Bool} (h1 : L.all (fun c => isCode c || P c) = true) (h2 : ∀ c ∈ L.filter isCode, P c = true) : L.all P = true := by
  refine List.all_eq_true.mpr fun c hc => ?_
  have h := List.all_eq_true.mp h1 c hc
  rcases Bool.eq_false_or_eq_true (isCode c) with hi | hi
  · exact h2 c (List.mem_filter.mpr ⟨hc, hi⟩)
  · simpa [hi] using h
set_option maxRecDepth 65536 in
theorem w_c0 : (Jvm.Cond.code x code maxLocals ret).before args0 about1 = true := code_word (m := ⟨1, 1⟩) (meth := k1m1) (c := k1c1) (by decide +kernel) rfl rfl rfl (by decide +kernel)
set_option maxRecDepth 65536 in
theorem w_c1 : (Jvm.Cond.code ({ cls := "java/lang/String", name := "<init>", desc := "([C)V" } : Jvm.MethodName) jdk_42_method_3_code (2 : Nat) (Option.none : Option Jvm.ClassFile.FieldType)).before args0 about1 = true := code_word (m := ⟨8, 1⟩) (meth := k8m1) (c := k8c1) (by decide +kernel) rfl rfl rfl (by decide +kernel)
set_option maxRecDepth 65536 in
theorem w_c2 : (Jvm.Cond.code ({ cls := "java/lang/String", name := "<init>", desc := "([CIILjava/lang/Void;)V" } : Jvm.MethodName) jdk_42_method_149_code (6 : Nat) (Option.none : Option Jvm.ClassFile.FieldType)).before args0 about1 = true := code_word (m := ⟨8, 2⟩) (meth := k8m2) (c := k8c2) (by decide +kernel) rfl rfl rfl (by decide +kernel)
set_option maxRecDepth 65536 in
theorem w_c3 : (Jvm.Cond.code ({ cls := "java/lang/Object", name := "<init>", desc := "()V" } : Jvm.MethodName) object_method_1_code (1 : Nat) (Option.none : Option Jvm.ClassFile.FieldType)).before args0 about1 = true := code_word (m := ⟨0, 0⟩) (meth := k0m0) (c := k0c0) (by decide +kernel) rfl rfl rfl (by decide +kernel)
set_option maxRecDepth 65536 in
theorem w_c4 : (Jvm.Cond.code ({ cls := "java/lang/StringUTF16", name := "compress", desc := "([CII)[B" } : Jvm.MethodName) jdk_52_method_16_code (6 : Nat) (Option.some (Jvm.ClassFile.FieldType.array Jvm.ClassFile.FieldType.byte))).before args0 about1 = true := code_word (m := ⟨9, 2⟩) (meth := k9m2) (c := k9c2) (by decide +kernel) rfl rfl rfl (by decide +kernel)
set_option maxRecDepth 65536 in
theorem w_c5 : (Jvm.Cond.code ({ cls := "java/lang/StringUTF16", name := "compress", desc := "([CI[BII)I" } : Jvm.MethodName) jdk_52_method_21_code (7 : Nat) (Option.some Jvm.ClassFile.FieldType.int)).before args0 about1 = true := code_word (m := ⟨9, 3⟩) (meth := k9m3) (c := k9c3) (by decide +kernel) rfl rfl rfl (by decide +kernel)
set_option maxRecDepth 65536 in
theorem w_c6 : (Jvm.Cond.code ({ cls := "java/lang/StringUTF16", name := "coderFromArrayLen", desc := "([BI)B" } : Jvm.MethodName) jdk_52_method_15_code (2 : Nat) (Option.some Jvm.ClassFile.FieldType.byte)).before args0 about1 = true := code_word (m := ⟨9, 1⟩) (meth := k9m1) (c := k9c1) (by decide +kernel) rfl rfl rfl (by decide +kernel)
set_option maxRecDepth 65536 in
theorem w_c7 : (Jvm.Cond.code ({ cls := "com/example/ratatoskr/ratatoskr/criteria/Filter", name := "<init>", desc := "(Ljava/lang/String;Lcom/example/ratatoskr/ratatoskr/criteria/ComparisonOperator;)V" } : Jvm.MethodName) prog_13_method_2_code (3 : Nat) (Option.none : Option Jvm.ClassFile.FieldType)).before args0 about1 = true := code_word (m := ⟨2, 0⟩) (meth := k2m0) (c := k2c0) (by decide +kernel) rfl rfl rfl (by decide +kernel)
set_option maxRecDepth 65536 in
theorem w_c8 : (Jvm.Cond.code ({ cls := "com/example/ratatoskr/ratatoskr/criteria/Filter$Comparison", name := "<init>", desc := "(Ljava/lang/String;Lcom/example/ratatoskr/ratatoskr/criteria/ComparisonOperator;Ljava/lang/Object;)V" } : Jvm.MethodName) prog_14_method_1_code (6 : Nat) (Option.none : Option Jvm.ClassFile.FieldType)).before args0 about1 = true := code_word (m := ⟨13, 0⟩) (meth := k13m0) (c := k13c0) (by decide +kernel) rfl rfl rfl (by decide +kernel)
set_option maxRecDepth 65536 in
theorem w_c9 : (Jvm.Cond.code ({ cls := "java/lang/Record", name := "<init>", desc := "()V" } : Jvm.MethodName) jdk_30_method_1_code (1 : Nat) (Option.none : Option Jvm.ClassFile.FieldType)).before args0 about1 = true := code_word (m := ⟨12, 0⟩) (meth := k12m0) (c := k12c0) (by decide +kernel) rfl rfl rfl (by decide +kernel)
set_option maxRecDepth 65536 in
theorem w_c10 : (Jvm.Cond.code ({ cls := "java/util/Objects", name := "requireNonNull", desc := "(Ljava/lang/Object;Ljava/lang/String;)Ljava/lang/Object;" } : Jvm.MethodName) jdk_31_method_11_code (2 : Nat) (Option.some (Jvm.ClassFile.FieldType.object "java/lang/Object"))).before args0 about1 = true := code_word (m := ⟨14, 1⟩) (meth := k14m1) (c := k14c1) (by decide +kernel) rfl rfl rfl (by decide +kernel)
set_option maxRecDepth 65536 in
theorem w_c11 : (Jvm.Cond.code ({ cls := "com/example/ratatoskr/ratatoskr/criteria/ComparisonOperator", name := "operand", desc := "()Ljava/lang/Class;" } : Jvm.MethodName) prog_12_method_4_code (1 : Nat) (Option.some (Jvm.ClassFile.FieldType.object "java/lang/Class"))).before args0 about1 = true := code_word (m := ⟨11, 0⟩) (meth := k11m0) (c := k11c0) (by decide +kernel) rfl rfl rfl (by decide +kernel)
set_option maxRecDepth 65536 in
theorem w_c12 : (Jvm.Cond.code ({ cls := "com/example/ratatoskr/ratatoskr/criteria/Filter", name := "<init>", desc := "(Lcom/example/ratatoskr/ratatoskr/criteria/Filter$Comparison;)V" } : Jvm.MethodName) prog_13_method_3_code (2 : Nat) (Option.none : Option Jvm.ClassFile.FieldType)).before args0 about1 = true := code_word (m := ⟨2, 1⟩) (meth := k2m1) (c := k2c1) (by decide +kernel) rfl rfl rfl (by decide +kernel)
set_option maxRecDepth 65536 in
theorem w_c13 : (Jvm.Cond.code ({ cls := "com/example/ratatoskr/ratatoskr/criteria/Filter", name := "and", desc := "(Lcom/example/ratatoskr/ratatoskr/criteria/Filter;)Lcom/example/ratatoskr/ratatoskr/criteria/Filter;" } : Jvm.MethodName) prog_13_method_5_code (2 : Nat) (Option.some (Jvm.ClassFile.FieldType.object "com/example/ratatoskr/ratatoskr/criteria/Filter"))).before args0 about1 = true := code_word (m := ⟨2, 3⟩) (meth := k2m3) (c := k2c3) (by decide +kernel) rfl rfl rfl (by decide +kernel)
set_option maxRecDepth 65536 in
theorem w_c14 : (Jvm.Cond.code ({ cls := "com/example/ratatoskr/ratatoskr/criteria/Filter", name := "<init>", desc := "(Lcom/example/ratatoskr/ratatoskr/criteria/Filter;Lcom/example/ratatoskr/ratatoskr/criteria/Filter$Junction;Lcom/example/ratatoskr/ratatoskr/criteria/Filter;)V" } : Jvm.MethodName) prog_13_method_4_code (4 : Nat) (Option.none : Option Jvm.ClassFile.FieldType)).before args0 about1 = true := code_word (m := ⟨2, 2⟩) (meth := k2m2) (c := k2c2) (by decide +kernel) rfl rfl rfl (by decide +kernel)
set_option maxRecDepth 65536 in
theorem w_c15 : (Jvm.Cond.code ({ cls := "com/example/ratatoskr/ratatoskr/criteria/Filter", name := "comparison", desc := "()Lcom/example/ratatoskr/ratatoskr/criteria/Filter$Comparison;" } : Jvm.MethodName) prog_13_method_7_code (1 : Nat) (Option.some (Jvm.ClassFile.FieldType.object "com/example/ratatoskr/ratatoskr/criteria/Filter$Comparison"))).before args0 about1 = true := code_word (m := ⟨2, 5⟩) (meth := k2m5) (c := k2c5) (by decide +kernel) rfl rfl rfl (by decide +kernel)
set_option maxRecDepth 65536 in
theorem w_c16 : (Jvm.Cond.code ({ cls := "com/example/ratatoskr/ratatoskr/criteria/Filter", name := "left", desc := "()Lcom/example/ratatoskr/ratatoskr/criteria/Filter;" } : Jvm.MethodName) prog_13_method_8_code (1 : Nat) (Option.some (Jvm.ClassFile.FieldType.object "com/example/ratatoskr/ratatoskr/criteria/Filter"))).before args0 about1 = true := code_word (m := ⟨2, 6⟩) (meth := k2m6) (c := k2c6) (by decide +kernel) rfl rfl rfl (by decide +kernel)
set_option maxRecDepth 65536 in
theorem w_c17 : (Jvm.Cond.code ({ cls := "com/example/ratatoskr/ratatoskr/criteria/Filter", name := "right", desc := "()Lcom/example/ratatoskr/ratatoskr/criteria/Filter;" } : Jvm.MethodName) prog_13_method_10_code (1 : Nat) (Option.some (Jvm.ClassFile.FieldType.object "com/example/ratatoskr/ratatoskr/criteria/Filter"))).before args0 about1 = true := code_word (m := ⟨2, 8⟩) (meth := k2m8) (c := k2c8) (by decide +kernel) rfl rfl rfl (by decide +kernel)
set_option maxRecDepth 65536 in
theorem w_c18 : (Jvm.Cond.code ({ cls := "com/example/ratatoskr/ratatoskr/criteria/Filter", name := "junction", desc := "()Lcom/example/ratatoskr/ratatoskr/criteria/Filter$Junction;" } : Jvm.MethodName) prog_13_method_9_code (1 : Nat) (Option.some (Jvm.ClassFile.FieldType.object "com/example/ratatoskr/ratatoskr/criteria/Filter$Junction"))).before args0 about1 = true := code_word (m := ⟨2, 7⟩) (meth := k2m7) (c := k2c7) (by decide +kernel) rfl rfl rfl (by decide +kernel)
set_option maxRecDepth 65536 in
theorem w_c19 : (Jvm.Cond.code ({ cls := "com/example/ratatoskr/ratatoskr/criteria/Filter", name := "or", desc := "(Lcom/example/ratatoskr/ratatoskr/criteria/Filter;)Lcom/example/ratatoskr/ratatoskr/criteria/Filter;" } : Jvm.MethodName) prog_13_method_6_code (2 : Nat) (Option.some (Jvm.ClassFile.FieldType.object "com/example/ratatoskr/ratatoskr/criteria/Filter"))).before args0 about1 = true := code_word (m := ⟨2, 4⟩) (meth := k2m4) (c := k2c4) (by decide +kernel) rfl rfl rfl (by decide +kernel)
def codes1 : List Jvm.Cond := [Jvm.Cond.code x code maxLocals ret, Jvm.Cond.code ({ cls := "java/lang/String", name := "<init>", desc := "([C)V" } : Jvm.MethodName) jdk_42_method_3_code (2 : Nat) (Option.none : Option Jvm.ClassFile.FieldType), Jvm.Cond.code ({ cls := "java/lang/String", name := "<init>", desc := "([CIILjava/lang/Void;)V" } : Jvm.MethodName) jdk_42_method_149_code (6 : Nat) (Option.none : Option Jvm.ClassFile.FieldType), Jvm.Cond.code ({ cls := "java/lang/Object", name := "<init>", desc := "()V" } : Jvm.MethodName) object_method_1_code (1 : Nat) (Option.none : Option Jvm.ClassFile.FieldType), Jvm.Cond.code ({ cls := "java/lang/StringUTF16", name := "compress", desc := "([CII)[B" } : Jvm.MethodName) jdk_52_method_16_code (6 : Nat) (Option.some (Jvm.ClassFile.FieldType.array Jvm.ClassFile.FieldType.byte)), Jvm.Cond.code ({ cls := "java/lang/StringUTF16", name := "compress", desc := "([CI[BII)I" } : Jvm.MethodName) jdk_52_method_21_code (7 : Nat) (Option.some Jvm.ClassFile.FieldType.int), Jvm.Cond.code ({ cls := "java/lang/StringUTF16", name := "coderFromArrayLen", desc := "([BI)B" } : Jvm.MethodName) jdk_52_method_15_code (2 : Nat) (Option.some Jvm.ClassFile.FieldType.byte), Jvm.Cond.code ({ cls := "com/example/ratatoskr/ratatoskr/criteria/Filter", name := "<init>", desc := "(Ljava/lang/String;Lcom/example/ratatoskr/ratatoskr/criteria/ComparisonOperator;)V" } : Jvm.MethodName) prog_13_method_2_code (3 : Nat) (Option.none : Option Jvm.ClassFile.FieldType), Jvm.Cond.code ({ cls := "com/example/ratatoskr/ratatoskr/criteria/Filter$Comparison", name := "<init>", desc := "(Ljava/lang/String;Lcom/example/ratatoskr/ratatoskr/criteria/ComparisonOperator;Ljava/lang/Object;)V" } : Jvm.MethodName) prog_14_method_1_code (6 : Nat) (Option.none : Option Jvm.ClassFile.FieldType), Jvm.Cond.code ({ cls := "java/lang/Record", name := "<init>", desc := "()V" } : Jvm.MethodName) jdk_30_method_1_code (1 : Nat) (Option.none : Option Jvm.ClassFile.FieldType), Jvm.Cond.code ({ cls := "java/util/Objects", name := "requireNonNull", desc := "(Ljava/lang/Object;Ljava/lang/String;)Ljava/lang/Object;" } : Jvm.MethodName) jdk_31_method_11_code (2 : Nat) (Option.some (Jvm.ClassFile.FieldType.object "java/lang/Object")), Jvm.Cond.code ({ cls := "com/example/ratatoskr/ratatoskr/criteria/ComparisonOperator", name := "operand", desc := "()Ljava/lang/Class;" } : Jvm.MethodName) prog_12_method_4_code (1 : Nat) (Option.some (Jvm.ClassFile.FieldType.object "java/lang/Class")), Jvm.Cond.code ({ cls := "com/example/ratatoskr/ratatoskr/criteria/Filter", name := "<init>", desc := "(Lcom/example/ratatoskr/ratatoskr/criteria/Filter$Comparison;)V" } : Jvm.MethodName) prog_13_method_3_code (2 : Nat) (Option.none : Option Jvm.ClassFile.FieldType), Jvm.Cond.code ({ cls := "com/example/ratatoskr/ratatoskr/criteria/Filter", name := "and", desc := "(Lcom/example/ratatoskr/ratatoskr/criteria/Filter;)Lcom/example/ratatoskr/ratatoskr/criteria/Filter;" } : Jvm.MethodName) prog_13_method_5_code (2 : Nat) (Option.some (Jvm.ClassFile.FieldType.object "com/example/ratatoskr/ratatoskr/criteria/Filter")), Jvm.Cond.code ({ cls := "com/example/ratatoskr/ratatoskr/criteria/Filter", name := "<init>", desc := "(Lcom/example/ratatoskr/ratatoskr/criteria/Filter;Lcom/example/ratatoskr/ratatoskr/criteria/Filter$Junction;Lcom/example/ratatoskr/ratatoskr/criteria/Filter;)V" } : Jvm.MethodName) prog_13_method_4_code (4 : Nat) (Option.none : Option Jvm.ClassFile.FieldType), Jvm.Cond.code ({ cls := "com/example/ratatoskr/ratatoskr/criteria/Filter", name := "comparison", desc := "()Lcom/example/ratatoskr/ratatoskr/criteria/Filter$Comparison;" } : Jvm.MethodName) prog_13_method_7_code (1 : Nat) (Option.some (Jvm.ClassFile.FieldType.object "com/example/ratatoskr/ratatoskr/criteria/Filter$Comparison")), Jvm.Cond.code ({ cls := "com/example/ratatoskr/ratatoskr/criteria/Filter", name := "left", desc := "()Lcom/example/ratatoskr/ratatoskr/criteria/Filter;" } : Jvm.MethodName) prog_13_method_8_code (1 : Nat) (Option.some (Jvm.ClassFile.FieldType.object "com/example/ratatoskr/ratatoskr/criteria/Filter")), Jvm.Cond.code ({ cls := "com/example/ratatoskr/ratatoskr/criteria/Filter", name := "right", desc := "()Lcom/example/ratatoskr/ratatoskr/criteria/Filter;" } : Jvm.MethodName) prog_13_method_10_code (1 : Nat) (Option.some (Jvm.ClassFile.FieldType.object "com/example/ratatoskr/ratatoskr/criteria/Filter")), Jvm.Cond.code ({ cls := "com/example/ratatoskr/ratatoskr/criteria/Filter", name := "junction", desc := "()Lcom/example/ratatoskr/ratatoskr/criteria/Filter$Junction;" } : Jvm.MethodName) prog_13_method_9_code (1 : Nat) (Option.some (Jvm.ClassFile.FieldType.object "com/example/ratatoskr/ratatoskr/criteria/Filter$Junction")), Jvm.Cond.code ({ cls := "com/example/ratatoskr/ratatoskr/criteria/Filter", name := "or", desc := "(Lcom/example/ratatoskr/ratatoskr/criteria/Filter;)Lcom/example/ratatoskr/ratatoskr/criteria/Filter;" } : Jvm.MethodName) prog_13_method_6_code (2 : Nat) (Option.some (Jvm.ClassFile.FieldType.object "com/example/ratatoskr/ratatoskr/criteria/Filter"))]
set_option maxRecDepth 65536 in
theorem codes_eq : words1.filter isCode = codes1 := rfl
theorem w_codes : ∀ c ∈ words1.filter isCode, c.before args0 about1 = true := by
  rw [codes_eq]
  intro c hc
  simp only [codes1, List.mem_cons, List.not_mem_nil, or_false] at hc
  rcases hc with rfl | rfl | rfl | rfl | rfl | rfl | rfl | rfl | rfl | rfl | rfl | rfl | rfl | rfl | rfl | rfl | rfl | rfl | rfl | rfl
  · exact w_c0
  · exact w_c1
  · exact w_c2
  · exact w_c3
  · exact w_c4
  · exact w_c5
  · exact w_c6
  · exact w_c7
  · exact w_c8
  · exact w_c9
  · exact w_c10
  · exact w_c11
  · exact w_c12
  · exact w_c13
  · exact w_c14
  · exact w_c15
  · exact w_c16
  · exact w_c17
  · exact w_c18
  · exact w_c19
set_option maxRecDepth 65536 in
theorem w_t1 : (words1.take 24).all (fun c => isCode c || c.before args0 about1) = true := by decide +kernel
set_option maxRecDepth 65536 in
theorem w_t2 : ((words1.drop 24).take 24).all (fun c => isCode c || c.before args0 about1) = true := by decide +kernel
set_option maxRecDepth 65536 in
theorem w_t3 : (((words1.drop 24).drop 24).take 24).all (fun c => isCode c || c.before args0 about1) = true := by decide +kernel
set_option maxRecDepth 65536 in
theorem w_t4 : ((((words1.drop 24).drop 24).drop 24).take 24).all (fun c => isCode c || c.before args0 about1) = true := by decide +kernel
set_option maxRecDepth 65536 in
theorem w_t5 : (((((words1.drop 24).drop 24).drop 24).drop 24).take 24).all (fun c => isCode c || c.before args0 about1) = true := by decide +kernel
set_option maxRecDepth 65536 in
theorem w_t6 : (((((words1.drop 24).drop 24).drop 24).drop 24).drop 24).all (fun c => isCode c || c.before args0 about1) = true := by decide +kernel
theorem w_tables : (allAtoms (Jvm.Cond.code x code maxLocals ret :: tables_1)).before args0 about1 = true := by
  rw [allAtoms_all]
  show words1.all (fun c => c.before args0 about1) = true
  refine all_split ?_ w_codes
  rw [← List.take_append_drop 24 words1, List.all_append, w_t1, ← List.take_append_drop 24 (words1.drop 24), List.all_append, w_t2, ← List.take_append_drop 24 ((words1.drop 24).drop 24), List.all_append, w_t3, ← List.take_append_drop 24 (((words1.drop 24).drop 24).drop 24), List.all_append, w_t4, ← List.take_append_drop 24 ((((words1.drop 24).drop 24).drop 24).drop 24), List.all_append, w_t5, w_t6]
  rfl
set_option maxRecDepth 65536 in
theorem w_rest : rest_1_c.before args0 about1 = true := by decide +kernel
set_option maxRecDepth 65536 in
theorem w_case : (Jvm.Cond.and given_1 narrow_1).before args0 about1 = true := by decide +kernel
theorem w_applies : (headSpec (Jvm.Cond.code x code maxLocals ret :: tables_1) room_1).applies x e0.platform about1 = true :=
  (Spec.applies_iff w_frames).mpr ⟨w_running, w_runnable, w_alone, w_named, w_hears, w_ripe, w_room, w_tables⟩
theorem atStart : AtStart classFile x code maxLocals ret World_1 tables_1 room_1 Calls_1 rest_1 Pre_1 launch0 p0 e0 about1 theMethod args0 below0 :=
  ⟨lists_1, trivial, launch0.admits_env _ _ _, launch0.least_env, fairChoices_fair.cas, fairChoices_fair.clock, w_frames, w_args, w_heap, w_applies, trivial, w_rest, w_case⟩
end start1
theorem witness_1 : WitnessClaimed_1 := ⟨start1.p0, start1.e0, start1.about1, start1.theMethod, start1.args0, start1.below0, start1.atStart⟩
end Jvm.Pilot.@@N@@
