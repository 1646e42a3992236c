import JvmDerived
import JvmDerived.Pilot.@@N@@Statement
import JvmDerived.Pilot.@@N@@Code
set_option linter.unusedVariables false
set_option linter.unusedSimpArgs false
namespace Jvm.RoadKit
open Sem ClassFile Op Lib Jvm.Stand Jvm.Free Jvm.LawKit
section New
variable {p : Program} {l : Launch} {e : Env} {R : Room} {s : State} {m : MethodId} {args : Array Value} {below : List Frame} {meth : Method} {c : Code} {T : State} {locs : List Loc} {cells slots : Nat}
theorem retI (X : Stand p l e R s m args below meth c T locs cells slots) (hx : p.tables.exec = Jvm.exec) {pc : Nat} {Ls : Array Slot} {z : Int32} {rest : List Value} (hret : meth.sig.returnType = some .int) (hd : decode c.code pc = .ok (.ireturn, 1)) {fs : List Frame}
    (hl : ∀ (f : JFrame) (acts : List Action), f.method = m → f.locked = none → f.entered = [] → (doReturn e (T.setTop f) acts (some (.int z))).1 = T.setFrames fs) : Steps p.tables e below (T.setTop (mkF m pc Ls (.int z :: rest))) (T.setFrames fs) :=
  retOut X hx hret rfl (Or.inl ⟨rfl, Or.inl rfl, z, rfl⟩) hd hl
end New
end Jvm.RoadKit
/- laws to paste: Road.backV (cut by pick.py; bodies as the Statement names them) -/
namespace Jvm.Pilot.@@N@@
namespace StrChars
open Jvm Sem ClassFile Op Lib Jvm.Stand Jvm.Free.XT Jvm.Free.ALB Jvm.Free.JM Jvm.Free
open Jvm.Lib.Cold (StaticIs)
/-- a char array whose places are chars -/
def Ch (a : Addr) (A : Cell) (U : State) : Prop := Arr .char a A U ∧ Typed .char A
theorem Ch.mv {a : Addr} {A : Cell} {U U' : State} (h : Ch a A U) (hal : U.vm.Alike U'.vm) (hh : U'.heap = U.heap) : Ch a A U' := ⟨h.1.mv hal hh, h.2⟩
theorem Ch.keep {a : Addr} {A : Cell} {U U' : State} (h : Ch a A U) (hal : U.vm.Alike U'.vm) (hk : U'.heap[a]? = some A) : Ch a A U' := ⟨h.1.keep hal hk, h.2⟩
/-- what place i of a char[]'s cell holds -/
def cv (A : Cell) (i : Nat) : Int32 := match A.slots[i]? with | some (.int x) => x | _ => 0
theorem Ch.get {a : Addr} {A : Cell} {U : State} (h : Ch a A U) {i : Nat} (hi : i < A.slots.size) : A.slots[i]? = some (.int (cv A i)) := by
  have e := Array.getElem?_eq_getElem hi
  have f := h.2 i _ e
  unfold cv; rw [e]
  generalize A.slots[i] = v at f
  cases v <;> simp [fits] at f ⊢
/-- the byte that i2b leaves of a char -/
def lo8 (x : Int32) : Int32 := x.toInt8.toInt32
theorem fits_lo8 (y : Int32) : fits .byte (.int (lo8 y)) = true := by
  have h1 := y.toInt8.le_toInt
  have h2 := y.toInt8.toInt_lt
  simp only [lo8, fits, Bool.and_eq_true, decide_eq_true_eq, Int32.le_iff_toInt_le, Int8.toInt_toInt32, show (-128 : Int32).toInt = -128 from by decide, show (127 : Int32).toInt = 127 from by decide]
  omega
/-- A' is A but that each place j of lo .. hi - 1 holds f j -/
def Laid (A A' : Cell) (lo hi : Nat) (f : Nat → Value) : Prop := A'.cls = A.cls ∧ A'.vm = A.vm ∧ A'.slots.size = A.slots.size ∧ ∀ i, A'.slots[i]? = if lo ≤ i ∧ i < hi then some (f i) else A.slots[i]?
theorem Laid.zero (A : Cell) (lo : Nat) (f : Nat → Value) : Laid A A lo (lo + 0) f := ⟨rfl, rfl, rfl, fun i => by rw [if_neg (by omega)]⟩
theorem Laid.step {A Ak : Cell} {lo k : Nat} {f : Nat → Value} {v : Value} (h : Laid A Ak lo k f) (hlo : lo ≤ k) (hk : k < Ak.slots.size) (hv : v = f k) : Laid A (Ak.setSlot k v) lo (k + 1) f := by
  refine ⟨h.1, h.2.1, by simpa [Cell.setSlot] using h.2.2.1, fun i => ?_⟩
  by_cases e : k = i
  · subst e; rw [Cell.slots_setSlot_self v hk, if_pos (by omega), hv]
  · rw [Cell.slots_setSlot_ne v e, h.2.2.2 i]
    by_cases q : lo ≤ i ∧ i < k
    · rw [if_pos q, if_pos (by omega)]
    · rw [if_neg q, if_neg (by omega)]
def U16 : String := "java/lang/StringUTF16"
namespace Cmp5
def yN : MethodName := ⟨"java/lang/StringUTF16", "compress", "([CI[BII)I"⟩
abbrev yB : ByteArray := jdk_52_method_21_code
theorem d0 : decode yB 0 = .ok (.iconst 0, 1) := by decide +kernel
theorem d1 : decode yB 1 = .ok (.istore 5, 2) := by decide +kernel
theorem d3 : decode yB 3 = .ok (.iload 5, 2) := by decide +kernel
theorem d5 : decode yB 5 = .ok (.iload 4, 2) := by decide +kernel
theorem d7 : decode yB 7 = .ok (.if_icmp (.ge) 37, 3) := by decide +kernel
theorem d10 : decode yB 10 = .ok (.aload_n 0, 1) := by decide +kernel
theorem d11 : decode yB 11 = .ok (.iload_n 1, 1) := by decide +kernel
theorem d12 : decode yB 12 = .ok (.caload, 1) := by decide +kernel
theorem d13 : decode yB 13 = .ok (.istore 6, 2) := by decide +kernel
theorem d15 : decode yB 15 = .ok (.iload 6, 2) := by decide +kernel
theorem d17 : decode yB 17 = .ok (.sipush 255, 3) := by decide +kernel
theorem d20 : decode yB 20 = .ok (.if_icmp (.le) 6, 3) := by decide +kernel
theorem d26 : decode yB 26 = .ok (.aload_n 2, 1) := by decide +kernel
theorem d27 : decode yB 27 = .ok (.iload_n 3, 1) := by decide +kernel
theorem d28 : decode yB 28 = .ok (.iload 6, 2) := by decide +kernel
theorem d30 : decode yB 30 = .ok (.i2b, 1) := by decide +kernel
theorem d31 : decode yB 31 = .ok (.bastore, 1) := by decide +kernel
theorem d32 : decode yB 32 = .ok (.iinc 1 1, 3) := by decide +kernel
theorem d35 : decode yB 35 = .ok (.iinc 3 1, 3) := by decide +kernel
theorem d38 : decode yB 38 = .ok (.iinc 5 1, 3) := by decide +kernel
theorem d41 : decode yB 41 = .ok (.goto (-38), 3) := by decide +kernel
theorem d44 : decode yB 44 = .ok (.iload 4, 2) := by decide +kernel
theorem d46 : decode yB 46 = .ok (.ireturn, 1) := by decide +kernel
def site : List Cond := []
def tab : Cond := tabOf yN yB 7 (some .int) site
def P (b : Addr) (A : Cell) (d : Addr) (B : Cell) (o q len : Nat) (args : Array Value) (s : State) : Prop := args = #[.ref b, .int (Int32.ofNat o), .ref d, .int (Int32.ofNat q), .int (Int32.ofNat len)] ∧ Ch b A s ∧ Arr .byte d B s ∧ b ≠ d ∧ o + len ≤ A.slots.size ∧ q + len ≤ B.slots.size ∧ ∀ i, i < len → ¬ 255 < cv A (o + i)
def E (b : Addr) (A : Cell) (d : Addr) (B : Cell) (o q len : Nat) (r : Option Value) (s u : State) : Prop := r = some (.int (Int32.ofNat len)) ∧ ∃ B', Put d B' s u ∧ Laid B B' q (q + len) (fun j => Value.int (lo8 (cv A (o + (j - q)))))
/-- no char of the range above 255: len; the places written hold each char's low byte -/
theorem law (l : Launch) (b : Addr) (A : Cell) (d : Addr) (B : Cell) (o q len : Nat) : Law l yN 5 5 0 0 yB 7 (some .int) site (P b A d B o q len) (E b A d B o q len) (copyLocs d q len) 0 0 := by
  refine Law.of_walk (plainFor_of_name (by decide +kernel)) (by decide +kernel) (by decide +kernel) (by decide) (fun _ _ h => by rw [h.1]; rfl) (fun _ U U' hal hh h => ⟨h.1, h.2.1.mv hal hh, h.2.2.1.mv hal hh, h.2.2.2⟩) (fun r U U' V V' h1 hal h2 h => ⟨h.1, h.2.elim fun B' q => ⟨B', q.1.mv h1 h2, q.2⟩⟩) ?_
  intro p e s m args below meth c s₁ X0 hexec hbytes hml hret hlk hnm hown hh0 W hP
  obtain ⟨rfl, hA, hB, hne, l1, l2, hp⟩ := hP
  have c1 : Steps p.tables e below (s₁.setTop (entryFrame m #[.ref b, .int (Int32.ofNat o), .ref d, .int (Int32.ofNat q), .int (Int32.ofNat len)] 7)) (s₁.setTop (mkF m 0 #[.val (.ref b), .val (.int (Int32.ofNat o)), .val (.ref d), .val (.int (Int32.ofNat q)), .val (.int (Int32.ofNat len)), .unset, .unset] [])) := entry rfl
  have hA0 := hA.1.mv X0.warmed.alike hh0
  have hB0 := hB.mv X0.warmed.alike hh0
  have a31 := hA.1.2.2.2
  have c2 : Steps p.tables e below (s₁.setTop (entryFrame m #[.ref b, .int (Int32.ofNat o), .ref d, .int (Int32.ofNat q), .int (Int32.ofNat len)] 7)) (s₁.setTop (mkF m 3 #[.val (.ref b), .val (.int (Int32.ofNat o)), .val (.ref d), .val (.int (Int32.ofNat q)), .val (.int (Int32.ofNat len)), .val (.int 0), .unset] [])) := c1.trans (by
    refine iconstV X0.here hexec rfl 0 (hb hbytes d0) (by decide) ?_
    refine XS.istore X0.here hexec rfl (hb hbytes d1) rfl rfl ?_
    exact Steps.refl _)
  have loop : ∀ (r i : Nat), i + r = len → ∀ (z : Slot), (z = .unset ∨ ∃ w, z = .val w ∧ w.category = 1) → ∀ (Tl : State) (Bk : Cell), Stand p l e { frames := 0, locals := 0, cells := 0, slots := 0 } s m #[.ref b, .int (Int32.ofNat o), .ref d, .int (Int32.ofNat q), .int (Int32.ofNat len)] below meth c Tl ([] ++ copyLocs d q i) 0 0 → Put d Bk s₁ Tl → Laid B Bk q (q + i) (fun j => Value.int (lo8 (cv A (o + (j - q))))) →
      Steps p.tables e below (s₁.setTop (entryFrame m #[.ref b, .int (Int32.ofNat o), .ref d, .int (Int32.ofNat q), .int (Int32.ofNat len)] 7)) (Tl.setTop (mkF m 3 #[.val (.ref b), .val (.int (Int32.ofNat (o + i))), .val (.ref d), .val (.int (Int32.ofNat (q + i))), .val (.int (Int32.ofNat len)), .val (.int (Int32.ofNat i)), z] [])) → ∃ (T' : State) (B' : Cell) (z' : Slot), Stand p l e { frames := 0, locals := 0, cells := 0, slots := 0 } s m #[.ref b, .int (Int32.ofNat o), .ref d, .int (Int32.ofNat q), .int (Int32.ofNat len)] below meth c T' ([] ++ copyLocs d q len) 0 0 ∧ Put d B' s₁ T' ∧ Laid B B' q (q + len) (fun j => Value.int (lo8 (cv A (o + (j - q))))) ∧
      Steps p.tables e below (s₁.setTop (entryFrame m #[.ref b, .int (Int32.ofNat o), .ref d, .int (Int32.ofNat q), .int (Int32.ofNat len)] 7)) (T'.setTop (mkF m 3 #[.val (.ref b), .val (.int (Int32.ofNat (o + len))), .val (.ref d), .val (.int (Int32.ofNat (q + len))), .val (.int (Int32.ofNat len)), .val (.int (Int32.ofNat len)), z'] [])) := by
    intro r
    induction r with
    | zero =>
      intro i hi z hz Tl Bk Xl pl fl cl
      have hil : i = len := by omega
      rw [hil] at Xl fl cl
      exact ⟨Tl, Bk, z, Xl, pl, fl, cl⟩
    | succ r ih =>
      intro i hi z hz Tl Bk Xl pl fl cl
      have all := X0.warmed.alike.symm.trans Xl.warmed.alike
      have hAl := hA0.keep all (pl.other hne hA0.1)
      have hBk := hB0.like all pl.1 fl.1 fl.2.1 fl.2.2.1
      have hlt : q + i < Bk.slots.size := by rw [fl.2.2.1]; omega
      have c3 : Steps p.tables e below (s₁.setTop (entryFrame m #[.ref b, .int (Int32.ofNat o), .ref d, .int (Int32.ofNat q), .int (Int32.ofNat len)] 7)) (Tl.setTop (mkF m 12 #[.val (.ref b), .val (.int (Int32.ofNat (o + i))), .val (.ref d), .val (.int (Int32.ofNat (q + i))), .val (.int (Int32.ofNat len)), .val (.int (Int32.ofNat i)), z] [.int (Int32.ofNat (o + i)), .ref b])) := cl.trans (by
        refine XS.iload Xl.here hexec rfl (hb hbytes d3) rfl ?_
        refine XS.iload Xl.here hexec rfl (hb hbytes d5) rfl ?_
        refine XS.icmpNo Xl.here hexec rfl (hb hbytes d7) rfl (ii_ge_f (lt32 (by omega) (by omega))) ?_
        refine XS.aloadN Xl.here hexec rfl (hb hbytes d10) rfl rfl ?_
        refine XS.iloadN Xl.here hexec rfl (hb hbytes d11) rfl ?_
        exact Steps.refl _)
      have c4 : Steps p.tables e below (s₁.setTop (entryFrame m #[.ref b, .int (Int32.ofNat o), .ref d, .int (Int32.ofNat q), .int (Int32.ofNat len)] 7)) (Tl.setTop (mkF m 13 #[.val (.ref b), .val (.int (Int32.ofNat (o + i))), .val (.ref d), .val (.int (Int32.ofNat (q + i))), .val (.int (Int32.ofNat len)), .val (.int (Int32.ofNat i)), z] [.int (cv A (o + i))])) := c3.trans (by
        refine Xl.aget hexec hAl rfl (hA.get (i := o + i) (by omega)) rfl rfl (hb hbytes d12) ?_
        exact Steps.refl _)
      have c5 : Steps p.tables e below (s₁.setTop (entryFrame m #[.ref b, .int (Int32.ofNat o), .ref d, .int (Int32.ofNat q), .int (Int32.ofNat len)] 7)) (Tl.setTop (mkF m 15 #[.val (.ref b), .val (.int (Int32.ofNat (o + i))), .val (.ref d), .val (.int (Int32.ofNat (q + i))), .val (.int (Int32.ofNat len)), .val (.int (Int32.ofNat i)), .val (.int (cv A (o + i)))] [])) := c4.trans (by
        refine XS.istoreS Xl.here hexec rfl (hb hbytes d13) rfl rfl hz ?_
        exact Steps.refl _)
      have c6 : Steps p.tables e below (s₁.setTop (entryFrame m #[.ref b, .int (Int32.ofNat o), .ref d, .int (Int32.ofNat q), .int (Int32.ofNat len)] 7)) (Tl.setTop (mkF m 31 #[.val (.ref b), .val (.int (Int32.ofNat (o + i))), .val (.ref d), .val (.int (Int32.ofNat (q + i))), .val (.int (Int32.ofNat len)), .val (.int (Int32.ofNat i)), .val (.int (cv A (o + i)))] [.int (lo8 (cv A (o + i))), .int (Int32.ofNat (q + i)), .ref d])) := c5.trans (by
        refine XS.iload Xl.here hexec rfl (hb hbytes d15) rfl ?_
        refine sipushV Xl.here hexec rfl 255 (hb hbytes d17) (by decide) ?_
        refine XS.icmpYes Xl.here hexec rfl (pc0 := 20) rfl (hb hbytes d20) rfl (ii_le_t (hp i (by omega))) (by decide) rfl ?_
        refine XS.aloadN Xl.here hexec rfl (hb hbytes d26) rfl rfl ?_
        refine XS.iloadN Xl.here hexec rfl (hb hbytes d27) rfl ?_
        refine XS.iload Xl.here hexec rfl (hb hbytes d28) rfl ?_
        refine i2b Xl.here hexec rfl (hb hbytes d30) rfl ?_
        exact Steps.refl _)
      obtain ⟨T7, X7, p7, st7⟩ := Xl.aput hexec hBk rfl hlt rfl (fits_lo8 (cv A (o + i))) (g := (mkF m 31 #[.val (.ref b), .val (.int (Int32.ofNat (o + i))), .val (.ref d), .val (.int (Int32.ofNat (q + i))), .val (.int (Int32.ofNat len)), .val (.int (Int32.ofNat i)), .val (.int (cv A (o + i)))] [.int (lo8 (cv A (o + i))), .int (Int32.ofNat (q + i)), .ref d])) rfl (rest := []) rfl (hb hbytes d31)
      have c8 : Steps p.tables e below (s₁.setTop (entryFrame m #[.ref b, .int (Int32.ofNat o), .ref d, .int (Int32.ofNat q), .int (Int32.ofNat len)] 7)) (T7.setTop (mkF m 32 #[.val (.ref b), .val (.int (Int32.ofNat (o + i))), .val (.ref d), .val (.int (Int32.ofNat (q + i))), .val (.int (Int32.ofNat len)), .val (.int (Int32.ofNat i)), .val (.int (cv A (o + i)))] [])) := c6.trans (st7 _ (Steps.refl _))
      have c9 : Steps p.tables e below (s₁.setTop (entryFrame m #[.ref b, .int (Int32.ofNat o), .ref d, .int (Int32.ofNat q), .int (Int32.ofNat len)] 7)) (T7.setTop (mkF m 3 #[.val (.ref b), .val (.int (Int32.ofNat (o + i) + 1)), .val (.ref d), .val (.int (Int32.ofNat (q + i) + 1)), .val (.int (Int32.ofNat len)), .val (.int (Int32.ofNat i + 1)), .val (.int (cv A (o + i)))] [])) := c8.trans (by
        refine iincV X7.here hexec rfl 1 (hb hbytes d32) (by decide) rfl rfl ?_
        refine iincV X7.here hexec rfl 1 (hb hbytes d35) (by decide) rfl rfl ?_
        refine iincV X7.here hexec rfl 1 (hb hbytes d38) (by decide) rfl rfl ?_
        refine XS.goto X7.here hexec rfl (pc0 := 41) rfl (hb hbytes d41) (by decide) rfl ?_
        exact Steps.refl _)
      have c10 : Steps p.tables e below (s₁.setTop (entryFrame m #[.ref b, .int (Int32.ofNat o), .ref d, .int (Int32.ofNat q), .int (Int32.ofNat len)] 7)) (T7.setTop (mkF m 3 #[.val (.ref b), .val (.int (Int32.ofNat (o + (i + 1)))), .val (.ref d), .val (.int (Int32.ofNat (q + (i + 1)))), .val (.int (Int32.ofNat len)), .val (.int (Int32.ofNat (i + 1))), .val (.int (cv A (o + i)))] [])) := by
        have := c9
        rw [succ32, succ32, succ32] at this
        exact this
      exact ih (i + 1) (by omega) _ (Or.inr ⟨_, rfl, rfl⟩) T7 _ (by rw [copyLocs_step, ← List.append_assoc]; exact X7) (pl.trans p7) (fl.step (by omega) hlt (by simp)) c10
  obtain ⟨T9, B9, z9, X9, p9, f9, g9⟩ := loop len 0 (by omega) .unset (Or.inl rfl) s₁ B (by simpa [copyLocs] using X0) ⟨hB0.1, fun _ _ => rfl, rfl⟩ (Laid.zero _ _ _) c2
  have c11 : Steps p.tables e below (s₁.setTop (entryFrame m #[.ref b, .int (Int32.ofNat o), .ref d, .int (Int32.ofNat q), .int (Int32.ofNat len)] 7)) (T9.setTop (mkF m 46 #[.val (.ref b), .val (.int (Int32.ofNat (o + len))), .val (.ref d), .val (.int (Int32.ofNat (q + len))), .val (.int (Int32.ofNat len)), .val (.int (Int32.ofNat len)), z9] [.int (Int32.ofNat len)])) := g9.trans (by
    refine XS.iload X9.here hexec rfl (hb hbytes d3) rfl ?_
    refine XS.iload X9.here hexec rfl (hb hbytes d5) rfl ?_
    refine XS.icmpYes X9.here hexec rfl (pc0 := 7) rfl (hb hbytes d7) rfl (ii_ge_t (nlt32 (by omega) (Nat.le_refl _))) (by decide) rfl ?_
    refine XS.iload X9.here hexec rfl (hb hbytes d44) rfl ?_
    exact Steps.refl _)
  exact ⟨T9, some (.int (Int32.ofNat len)), _, _, _, X9, by simp, rfl, rfl, (fun h => by cases h), ⟨rfl, B9, p9.from hh0, f9⟩, fun fs hl => c11.trans (X9.ireturnOut hexec hret rfl (Or.inl rfl) (hb hbytes d46) hl)⟩
end Cmp5
namespace Cmp3
def yN : MethodName := ⟨"java/lang/StringUTF16", "compress", "([CII)[B"⟩
abbrev yB : ByteArray := jdk_52_method_16_code
theorem d0 : decode yB 0 = .ok (.iload_n 2, 1) := by decide +kernel
theorem d1 : decode yB 1 = .ok (.newarray .byte, 2) := by decide +kernel
theorem d3 : decode yB 3 = .ok (.astore_n 3, 1) := by decide +kernel
theorem d4 : decode yB 4 = .ok (.aload_n 0, 1) := by decide +kernel
theorem d5 : decode yB 5 = .ok (.iload_n 1, 1) := by decide +kernel
theorem d6 : decode yB 6 = .ok (.aload_n 3, 1) := by decide +kernel
theorem d7 : decode yB 7 = .ok (.iconst 0, 1) := by decide +kernel
theorem d8 : decode yB 8 = .ok (.iload_n 2, 1) := by decide +kernel
theorem d9 : decode yB 9 = .ok (.invokestatic 115, 3) := by decide +kernel
theorem d12 : decode yB 12 = .ok (.istore 4, 2) := by decide +kernel
theorem d14 : decode yB 14 = .ok (.iload 4, 2) := by decide +kernel
theorem d16 : decode yB 16 = .ok (.iload_n 2, 1) := by decide +kernel
theorem d17 : decode yB 17 = .ok (.if_icmp (.eq) 40, 3) := by decide +kernel
theorem d57 : decode yB 57 = .ok (.aload_n 3, 1) := by decide +kernel
theorem d58 : decode yB 58 = .ok (.areturn, 1) := by decide +kernel
def site : List Cond := [.arrayClass .byte, Cmp5.tab] ++ staticW U16 115 Cmp5.yN
def tab : Cond := tabOf yN yB 6 (some (.array .byte)) site
def P (b : Addr) (A : Cell) (o len : Nat) (args : Array Value) (s : State) : Prop := args = #[.ref b, .int (Int32.ofNat o), .int (Int32.ofNat len)] ∧ Ch b A s ∧ o + len ≤ A.slots.size ∧ len ≤ 536870912 ∧ ∀ i, i < len → ¬ 255 < cv A (o + i)
def E (b : Addr) (A : Cell) (o len : Nat) (r : Option Value) (s u : State) : Prop := NewArr .byte "[B" len (fun j => .int (lo8 (cv A (o + j)))) r s u ∧ u.heap.size = s.heap.size + 1
/-- no char of the range above 255: a new byte[] of their low bytes -/
theorem law (l : Launch) (b : Addr) (A : Cell) (o len : Nat) : Law l yN 3 3 1 18 yB 6 (some (.array .byte)) site (P b A o len) (E b A o len) [] 1 len := by
  refine Law.of_walk (plainFor_of_name (by decide +kernel)) (by decide +kernel) (by decide +kernel) (by decide) (fun _ _ h => by rw [h.1]; rfl) (fun _ U U' hal hh h => ⟨h.1, h.2.1.mv hal hh, h.2.2⟩) (fun r U U' V V' h1 hal h2 h => ⟨NewArr.mv r U U' V V' h1 hal h2 h.1, by rw [h1, h2]; exact h.2⟩) ?_
  intro p e s m args below meth c s₁ X0 hexec hbytes hml hret hlk hnm hown hh0 W hP
  obtain ⟨rfl, hA, l1, l2, hp⟩ := hP
  have a31 := hA.1.2.2.2
  have c1 : Steps p.tables e below (s₁.setTop (entryFrame m #[.ref b, .int (Int32.ofNat o), .int (Int32.ofNat len)] 6)) (s₁.setTop (mkF m 0 #[.val (.ref b), .val (.int (Int32.ofNat o)), .val (.int (Int32.ofNat len)), .unset, .unset, .unset] [])) := entry rfl
  have c2 : Steps p.tables e below (s₁.setTop (entryFrame m #[.ref b, .int (Int32.ofNat o), .int (Int32.ofNat len)] 6)) (s₁.setTop (mkF m 1 #[.val (.ref b), .val (.int (Int32.ofNat o)), .val (.int (Int32.ofNat len)), .unset, .unset, .unset] [.int (Int32.ofNat len)])) := c1.trans (by
    refine XS.iloadN X0.here hexec rfl (hb hbytes d0) rfl ?_
    exact Steps.refl _)
  obtain ⟨T3, B3, X3, ba3, bs3, bv3, bh3, bf3, st3⟩ := X0.anew hexec (atype := .byte) (wk W (.arrayClass .byte)) rfl (by show len * 1 ≤ _; omega) (by omega) (g := (mkF m 1 #[.val (.ref b), .val (.int (Int32.ofNat o)), .val (.int (Int32.ofNat len)), .unset, .unset, .unset] [.int (Int32.ofNat len)])) rfl (hb hbytes d1) (rest := []) rfl (Nat.le_refl _) (by show 0 + len ≤ len; omega)
  rw [hh0] at ba3 st3
  have kp3 : XT.Kept s T3 := (XT.Kept.of_eq hh0).push bh3
  have hA3 := hA.keep X3.warmed.alike (kp3 _ _ hA.1.1)
  have hne : b ≠ s.heap.size := hA.1.ne
  have c4 : Steps p.tables e below (s₁.setTop (entryFrame m #[.ref b, .int (Int32.ofNat o), .int (Int32.ofNat len)] 6)) (T3.setTop (mkF m 3 #[.val (.ref b), .val (.int (Int32.ofNat o)), .val (.int (Int32.ofNat len)), .unset, .unset, .unset] [.ref s.heap.size])) := c2.trans (st3 _ (Steps.refl _))
  have c5 : Steps p.tables e below (s₁.setTop (entryFrame m #[.ref b, .int (Int32.ofNat o), .int (Int32.ofNat len)] 6)) (T3.setTop (mkF m 9 #[.val (.ref b), .val (.int (Int32.ofNat o)), .val (.int (Int32.ofNat len)), .val (.ref s.heap.size), .unset, .unset] [.int (Int32.ofNat len), .int 0, .ref s.heap.size, .int (Int32.ofNat o), .ref b])) := c4.trans (by
    refine XS.astoreN X3.here hexec rfl (hb hbytes d3) rfl rfl rfl ?_
    refine XS.aloadN X3.here hexec rfl (hb hbytes d4) rfl rfl ?_
    refine XS.iloadN X3.here hexec rfl (hb hbytes d5) rfl ?_
    refine XS.aloadN X3.here hexec rfl (hb hbytes d6) rfl rfl ?_
    refine iconstV X3.here hexec rfl 0 (hb hbytes d7) (by decide) ?_
    refine XS.iloadN X3.here hexec rfl (hb hbytes d8) rfl ?_
    exact Steps.refl _)
  obtain ⟨v6, T6, X6, E6, g6⟩ := X3.callS hexec (Cmp5.law l b A s.heap.size B3 o 0 len) hown (wks W (staticW U16 115 Cmp5.yN)) (wk W Cmp5.tab) (W := 0) (Nat.le_of_ble_eq_true rfl) (Nat.le_of_ble_eq_true rfl) (Nat.le_refl _) (by show 0 + len + 0 ≤ len; omega) (g := (mkF m 9 #[.val (.ref b), .val (.int (Int32.ofNat o)), .val (.int (Int32.ofNat len)), .val (.ref s.heap.size), .unset, .unset] [.int (Int32.ofNat len), .int (Int32.ofNat 0), .ref s.heap.size, .int (Int32.ofNat o), .ref b])) rfl (by rw [hml]; rfl) c5 (argsL := [.ref b, .int (Int32.ofNat o), .ref s.heap.size, .int (Int32.ofNat 0), .int (Int32.ofNat len)]) (rest := []) rfl rfl (by show 2 * 0 + 0 ≤ _; decide) (hb hbytes d9) (⟨rfl, hA3, ba3, hne, l1, by rw [bs3]; simp, hp⟩)
  obtain ⟨rfl, B6, p6, f6⟩ := E6
  have c7 : Steps p.tables e below (s₁.setTop (entryFrame m #[.ref b, .int (Int32.ofNat o), .int (Int32.ofNat len)] 6)) (T6.setTop (mkF m 12 #[.val (.ref b), .val (.int (Int32.ofNat o)), .val (.int (Int32.ofNat len)), .val (.ref s.heap.size), .unset, .unset] [.int (Int32.ofNat len)])) := g6
  have c8 : Steps p.tables e below (s₁.setTop (entryFrame m #[.ref b, .int (Int32.ofNat o), .int (Int32.ofNat len)] 6)) (T6.setTop (mkF m 58 #[.val (.ref b), .val (.int (Int32.ofNat o)), .val (.int (Int32.ofNat len)), .val (.ref s.heap.size), .val (.int (Int32.ofNat len)), .unset] [.ref s.heap.size])) := c7.trans (by
    refine XS.istore X6.here hexec rfl (hb hbytes d12) rfl rfl ?_
    refine XS.iload X6.here hexec rfl (hb hbytes d14) rfl ?_
    refine XS.iloadN X6.here hexec rfl (hb hbytes d16) rfl ?_
    refine XS.icmpYes X6.here hexec rfl (pc0 := 17) rfl (hb hbytes d17) rfl (ii_eq_t rfl) (by decide) rfl ?_
    refine XS.aloadN X6.here hexec rfl (hb hbytes d57) rfl rfl ?_
    exact Steps.refl _)
  have X8 := X6.wide (L' := []) (cells' := 1) (slots' := len) (fun x hx hlt => by
    simp only [List.nil_append, copyLocs, List.mem_map, List.mem_range] at hx
    obtain ⟨i, -, rfl⟩ := hx
    exact absurd hlt (Nat.lt_irrefl _)) (Nat.le_refl _) (by omega)
  exact ⟨T6, some (.ref s.heap.size), _, _, _, X8, rfl, rfl, rfl, (fun h => by cases h), ⟨⟨rfl, B6, ba3.like (X3.warmed.alike.symm.trans X6.warmed.alike) p6.1 f6.1 f6.2.1 f6.2.2.1, f6.2.1.trans bv3, by rw [X6.warmed.alike.findClass, f6.1]; exact bf3, by rw [f6.2.2.1, bs3]; simp, fun j hj => by rw [f6.2.2.2 j, if_pos (by omega)]; rfl, kp3.put p6 (Nat.le_refl _)⟩, by rw [p6.2.2, bh3, hh0]; simp⟩, fun fs hl => c8.trans (X8.areturnOut hexec rfl hret rfl (hb hbytes d58) hl)⟩
end Cmp3
namespace CodL
def yN : MethodName := ⟨"java/lang/StringUTF16", "coderFromArrayLen", "([BI)B"⟩
abbrev yB : ByteArray := jdk_52_method_15_code
theorem d0 : decode yB 0 = .ok (.iload_n 1, 1) := by decide +kernel
theorem d1 : decode yB 1 = .ok (.aload_n 0, 1) := by decide +kernel
theorem d2 : decode yB 2 = .ok (.arraylength, 1) := by decide +kernel
theorem d3 : decode yB 3 = .ok (.isub, 1) := by decide +kernel
theorem d4 : decode yB 4 = .ok (.bipush 31, 2) := by decide +kernel
theorem d6 : decode yB 6 = .ok (.iushr, 1) := by decide +kernel
theorem d7 : decode yB 7 = .ok (.i2b, 1) := by decide +kernel
theorem d8 : decode yB 8 = .ok (.ireturn, 1) := by decide +kernel
def site : List Cond := []
def tab : Cond := tabOf yN yB 2 (some .byte) site
def P (d : Addr) (B : Cell) (args : Array Value) (s : State) : Prop := args = #[.ref d, .int (Int32.ofNat B.slots.size)] ∧ Arr .byte d B s
def E (r : Option Value) (s u : State) : Prop := XT.PureE (some (.int 0)) r s u
/-- an array as long as the number of chars: LATIN1 -/
theorem law (l : Launch) (d : Addr) (B : Cell) : Law l yN 2 2 0 0 yB 2 (some .byte) site (P d B) E [] 0 0 := by
  refine Law.of_walk (plainFor_of_name (by decide +kernel)) (by decide +kernel) (by decide +kernel) (by decide) (fun _ _ h => by rw [h.1]; rfl) (fun _ U U' hal hh h => ⟨h.1, h.2.mv hal hh⟩) (fun r U U' V V' h1 hal h2 h => XT.PureE.mv r U U' V V' h1 hal h2 h) ?_
  intro p e s m args below meth c s₁ X0 hexec hbytes hml hret hlk hnm hown hh0 W hP
  obtain ⟨rfl, hB⟩ := hP
  have hB0 := hB.mv X0.warmed.alike hh0
  have c1 : Steps p.tables e below (s₁.setTop (entryFrame m #[.ref d, .int (Int32.ofNat B.slots.size)] 2)) (s₁.setTop (mkF m 0 #[.val (.ref d), .val (.int (Int32.ofNat B.slots.size))] [])) := entry rfl
  have c2 : Steps p.tables e below (s₁.setTop (entryFrame m #[.ref d, .int (Int32.ofNat B.slots.size)] 2)) (s₁.setTop (mkF m 2 #[.val (.ref d), .val (.int (Int32.ofNat B.slots.size))] [.ref d, .int (Int32.ofNat B.slots.size)])) := c1.trans (by
    refine XS.iloadN X0.here hexec rfl (hb hbytes d0) rfl ?_
    refine XS.aloadN X0.here hexec rfl (hb hbytes d1) rfl rfl ?_
    exact Steps.refl _)
  have c3 : Steps p.tables e below (s₁.setTop (entryFrame m #[.ref d, .int (Int32.ofNat B.slots.size)] 2)) (s₁.setTop (mkF m 8 #[.val (.ref d), .val (.int (Int32.ofNat B.slots.size))] [.int (lo8 (ushr (Int32.ofNat B.slots.size - Int32.ofNat B.slots.size) 31))])) := c2.trans (by
    refine X0.alen hexec hB0 rfl rfl (hb hbytes d2) ?_
    refine XS.isub X0.here hexec rfl (hb hbytes d3) rfl ?_
    refine bipushV X0.here hexec rfl 31 (hb hbytes d4) (by decide) ?_
    refine iushr X0.here hexec rfl (hb hbytes d6) rfl ?_
    refine i2b X0.here hexec rfl (hb hbytes d7) rfl ?_
    exact Steps.refl _)
  have e0 : lo8 (ushr (Int32.ofNat B.slots.size - Int32.ofNat B.slots.size) 31) = 0 := by rw [Int32.sub_self]; decide
  rw [e0] at c3
  exact ⟨s₁, some (.int 0), _, _, _, X0, rfl, rfl, rfl, (fun h => by cases h), ⟨rfl, hh0⟩, fun fs hl => c3.trans (X0.ireturnOut hexec hret rfl (Or.inr (Or.inr (Or.inl rfl))) (hb hbytes d8) hl)⟩
end CodL
/-- the String at a is Latin-1 over a new byte[] (the heap's one new cell): the low bytes of the len chars of A from o on; every cell but a is kept -/
def Got (a : Addr) (D : Cell) (fV fC : Field) (A : Cell) (o len : Nat) (r : Option Value) (s u : State) : Prop := r = none ∧ ∃ D' V : Cell, Blank "java/lang/String" a D' u ∧ Same D D' [fV.slot, fC.slot] ∧ D'.slots[fV.slot]? = some (.ref s.heap.size) ∧ D'.slots[fC.slot]? = some (.int 0) ∧ Arr .byte s.heap.size V u ∧ V.vm = .none ∧ u.vm.findClass "[B" = some V.cls ∧ V.slots.size = len ∧ (∀ j, j < len → V.slots[j]? = some (.int (lo8 (cv A (o + j))))) ∧ (∀ (y : Addr) (c : Cell), y ≠ a → s.heap[y]? = some c → u.heap[y]? = some c) ∧ u.heap.size = s.heap.size + 1
theorem Got.mv {a : Addr} {D A : Cell} {fV fC : Field} {o len : Nat} : ∀ r (U U' V V' : State), U'.heap = U.heap → V.vm.Alike V'.vm → V'.heap = V.heap → Got a D fV fC A o len r U V → Got a D fV fC A o len r U' V' :=
  fun r U U' V V' h1 hal h2 ⟨e0, D', X, a1, a2, a3, a4, a5, a6, a7, a8, a9, a10, a11⟩ => ⟨e0, D', X, a1.mv hal h2, a2, by rw [h1]; exact a3, a4, by rw [h1]; exact a5.mv hal h2, a6, by rw [hal.findClass]; exact a7, a8, a9, by rw [h1, h2]; exact a10, by rw [h1, h2]; exact a11⟩
namespace New4
def yN : MethodName := ⟨"java/lang/String", "<init>", "([CIILjava/lang/Void;)V"⟩
abbrev yB : ByteArray := jdk_42_method_149_code
theorem d0 : decode yB 0 = .ok (.aload_n 0, 1) := by decide +kernel
theorem d1 : decode yB 1 = .ok (.invokespecial 1, 3) := by decide +kernel
theorem d4 : decode yB 4 = .ok (.iload_n 3, 1) := by decide +kernel
theorem d5 : decode yB 5 = .ok (.ifCond (.ne) 22, 3) := by decide +kernel
theorem d27 : decode yB 27 = .ok (.getstatic 38, 3) := by decide +kernel
theorem d30 : decode yB 30 = .ok (.ifCond (.eq) 28, 3) := by decide +kernel
theorem d33 : decode yB 33 = .ok (.aload_n 1, 1) := by decide +kernel
theorem d34 : decode yB 34 = .ok (.iload_n 2, 1) := by decide +kernel
theorem d35 : decode yB 35 = .ok (.iload_n 3, 1) := by decide +kernel
theorem d36 : decode yB 36 = .ok (.invokestatic 177, 3) := by decide +kernel
theorem d39 : decode yB 39 = .ok (.astore 5, 2) := by decide +kernel
theorem d41 : decode yB 41 = .ok (.aload_n 0, 1) := by decide +kernel
theorem d42 : decode yB 42 = .ok (.aload 5, 2) := by decide +kernel
theorem d44 : decode yB 44 = .ok (.iload_n 3, 1) := by decide +kernel
theorem d45 : decode yB 45 = .ok (.invokestatic 47, 3) := by decide +kernel
theorem d48 : decode yB 48 = .ok (.putfield 15, 3) := by decide +kernel
theorem d51 : decode yB 51 = .ok (.aload_n 0, 1) := by decide +kernel
theorem d52 : decode yB 52 = .ok (.aload 5, 2) := by decide +kernel
theorem d54 : decode yB 54 = .ok (.putfield 9, 3) := by decide +kernel
theorem d57 : decode yB 57 = .ok (.return_, 1) := by decide +kernel
def site : List Cond := [.fieldLink "java/lang/String" 38 "java/lang/String" "COMPACT_STRINGS" "Z", Cmp3.tab, CodL.tab, .laysFinal "java/lang/String" "java/lang/String" "value" "[B", .fieldLink "java/lang/String" 9 "java/lang/String" "value" "[B", .laysFinal "java/lang/String" "java/lang/String" "coder" "B", .fieldLink "java/lang/String" 15 "java/lang/String" "coder" "B"] ++ objW "java/lang/String" 1 ++ staticW "java/lang/String" 177 Cmp3.yN ++ staticW "java/lang/String" 47 CodL.yN
def tab : Cond := tabOf yN yB 6 none site
def P (a : Addr) (D : Cell) (fV fC : Field) (b : Addr) (A : Cell) (z : Int32) (o len : Nat) (args : Array Value) (s : State) : Prop := args = #[.ref a, .ref b, .int (Int32.ofNat o), .int (Int32.ofNat len), .null] ∧ Blank "java/lang/String" a D s ∧ Found "java/lang/String" "value" "[B" fV s ∧ Found "java/lang/String" "coder" "B" fC s ∧ Ch b A s ∧ StaticIs s "java/lang/String" "COMPACT_STRINGS" "Z" (.int z) ∧ ¬ z = 0 ∧ 0 < len ∧ o + len ≤ A.slots.size ∧ len ≤ 536870912 ∧ ∀ i, i < len → ¬ 255 < cv A (o + i)
def E (a : Addr) (D : Cell) (fV fC : Field) (A : Cell) (o len : Nat) (r : Option Value) (s u : State) : Prop := Got a D fV fC A o len r s u
/-- len > 0, no char of the range above 255: a Latin-1 String of their low bytes -/
theorem law (l : Launch) (a : Addr) (D : Cell) (fV fC : Field) (b : Addr) (A : Cell) (z : Int32) (o len : Nat) : Law l yN 5 4 2 35 yB 6 none site (P a D fV fC b A z o len) (E a D fV fC A o len) [⟨a, fC.slot⟩, ⟨a, fV.slot⟩] 1 len := by
  refine Law.of_walk (plainFor_of_name (by decide +kernel)) (by decide +kernel) (by decide +kernel) (by decide) (fun _ _ h => by rw [h.1]; rfl) (fun _ U U' hal hh h => ⟨h.1, h.2.1.mv hal hh, h.2.2.1.al hal, h.2.2.2.1.al hal, h.2.2.2.2.1.mv hal hh, h.2.2.2.2.2.1.there hal hh, h.2.2.2.2.2.2⟩) (fun r U U' V V' h1 hal h2 h => Got.mv r U U' V V' h1 hal h2 h) ?_
  intro p e s m args below meth c s₁ X0 hexec hbytes hml hret hlk hnm hown hh0 W hP
  obtain ⟨rfl, hB, f1, f2, hA, s1, hz, l0, l1, l2, hp⟩ := hP
  have a31 := hA.1.2.2.2
  have c1 : Steps p.tables e below (s₁.setTop (entryFrame m #[.ref a, .ref b, .int (Int32.ofNat o), .int (Int32.ofNat len), .null] 6)) (s₁.setTop (mkF m 0 #[.val (.ref a), .val (.ref b), .val (.int (Int32.ofNat o)), .val (.int (Int32.ofNat len)), .val .null, .unset] [])) := entry rfl
  have c2 : Steps p.tables e below (s₁.setTop (entryFrame m #[.ref a, .ref b, .int (Int32.ofNat o), .int (Int32.ofNat len), .null] 6)) (s₁.setTop (mkF m 1 #[.val (.ref a), .val (.ref b), .val (.int (Int32.ofNat o)), .val (.int (Int32.ofNat len)), .val .null, .unset] [.ref a])) := c1.trans (by
    refine XS.aloadN X0.here hexec rfl (hb hbytes d0) rfl rfl ?_
    exact Steps.refl _)
  obtain ⟨T3, X3, q3, st3⟩ := X0.oinit hexec hown (wks W (objW "java/lang/String" 1)) (g := (mkF m 1 #[.val (.ref a), .val (.ref b), .val (.int (Int32.ofNat o)), .val (.int (Int32.ofNat len)), .val .null, .unset] [.ref a])) rfl (by rw [hml]; rfl) (rest := []) rfl (hb hbytes d1) (W := 0) (by show 2 * 0 + 0 ≤ _; decide) (Nat.le_of_ble_eq_true rfl) (Nat.le_of_ble_eq_true rfl)
  have hh3 := q3.trans hh0
  have c4 : Steps p.tables e below (s₁.setTop (entryFrame m #[.ref a, .ref b, .int (Int32.ofNat o), .int (Int32.ofNat len), .null] 6)) (T3.setTop (mkF m 27 #[.val (.ref a), .val (.ref b), .val (.int (Int32.ofNat o)), .val (.int (Int32.ofNat len)), .val .null, .unset] [])) := (c2.trans (st3 _ (Steps.refl _))).trans (by
    refine XS.iloadN X3.here hexec rfl (hb hbytes d4) rfl ?_
    refine XS.ifYes X3.here hexec rfl (pc0 := 5) rfl (hb hbytes d5) rfl (i0_ne_t (nz32 (by omega) l0)) (by decide) rfl ?_
    exact Steps.refl _)
  obtain ⟨T5, X5, q5, st5⟩ := X3.sget hexec hown (wk W (.fieldLink "java/lang/String" 38 "java/lang/String" "COMPACT_STRINGS" "Z")) s1 (fun _ _ h => by rw [hh3]; exact h) (g := (mkF m 27 #[.val (.ref a), .val (.ref b), .val (.int (Int32.ofNat o)), .val (.int (Int32.ofNat len)), .val .null, .unset] [])) rfl (hb hbytes d27)
  have hh5 := q5.trans hh3
  have c6 : Steps p.tables e below (s₁.setTop (entryFrame m #[.ref a, .ref b, .int (Int32.ofNat o), .int (Int32.ofNat len), .null] 6)) (T5.setTop (mkF m 30 #[.val (.ref a), .val (.ref b), .val (.int (Int32.ofNat o)), .val (.int (Int32.ofNat len)), .val .null, .unset] [.int z])) := c4.trans (st5 _ (Steps.refl _))
  have c7 : Steps p.tables e below (s₁.setTop (entryFrame m #[.ref a, .ref b, .int (Int32.ofNat o), .int (Int32.ofNat len), .null] 6)) (T5.setTop (mkF m 36 #[.val (.ref a), .val (.ref b), .val (.int (Int32.ofNat o)), .val (.int (Int32.ofNat len)), .val .null, .unset] [.int (Int32.ofNat len), .int (Int32.ofNat o), .ref b])) := c6.trans (by
    refine XS.ifNo X5.here hexec rfl (hb hbytes d30) rfl (i0_eq_f hz) ?_
    refine XS.aloadN X5.here hexec rfl (hb hbytes d33) rfl rfl ?_
    refine XS.iloadN X5.here hexec rfl (hb hbytes d34) rfl ?_
    refine XS.iloadN X5.here hexec rfl (hb hbytes d35) rfl ?_
    exact Steps.refl _)
  obtain ⟨v8, T8, X8, E8, g8⟩ := X5.callS hexec (Cmp3.law l b A o len) hown (wks W (staticW "java/lang/String" 177 Cmp3.yN)) (wk W Cmp3.tab) (W := 0) (Nat.le_of_ble_eq_true rfl) (Nat.le_of_ble_eq_true rfl) (Nat.le_refl _) (by show 0 + len ≤ len; omega) (g := (mkF m 36 #[.val (.ref a), .val (.ref b), .val (.int (Int32.ofNat o)), .val (.int (Int32.ofNat len)), .val .null, .unset] [.int (Int32.ofNat len), .int (Int32.ofNat o), .ref b])) rfl (by rw [hml]; rfl) c7 (argsL := [.ref b, .int (Int32.ofNat o), .int (Int32.ofNat len)]) (rest := []) rfl rfl (by show 2 * 0 + 0 ≤ _; decide) (hb hbytes d36) (⟨rfl, hA.mv X5.warmed.alike hh5, l1, l2, hp⟩)
  obtain ⟨e8, z8⟩ := E8
  obtain ⟨rfl, N, n1, n2, n3, n4, n5, n6⟩ := NewArr.mv _ T5 s _ _ hh5.symm (Vm.Alike.refl _) rfl e8
  rw [hh5] at z8
  have hB1 := hB.keep X8.warmed.alike (n6 _ _ hB.1)
  have hne : s.heap.size ≠ a := (Nat.ne_of_lt (Array.getElem?_eq_some_iff.mp hB.1).1).symm
  have c9 : Steps p.tables e below (s₁.setTop (entryFrame m #[.ref a, .ref b, .int (Int32.ofNat o), .int (Int32.ofNat len), .null] 6)) (T8.setTop (mkF m 39 #[.val (.ref a), .val (.ref b), .val (.int (Int32.ofNat o)), .val (.int (Int32.ofNat len)), .val .null, .unset] [.ref s.heap.size])) := g8
  have c10 : Steps p.tables e below (s₁.setTop (entryFrame m #[.ref a, .ref b, .int (Int32.ofNat o), .int (Int32.ofNat len), .null] 6)) (T8.setTop (mkF m 45 #[.val (.ref a), .val (.ref b), .val (.int (Int32.ofNat o)), .val (.int (Int32.ofNat len)), .val .null, .val (.ref s.heap.size)] [.int (Int32.ofNat N.slots.size), .ref s.heap.size, .ref a])) := by
    have hc : Steps p.tables e below (s₁.setTop (entryFrame m #[.ref a, .ref b, .int (Int32.ofNat o), .int (Int32.ofNat len), .null] 6)) (T8.setTop (mkF m 45 #[.val (.ref a), .val (.ref b), .val (.int (Int32.ofNat o)), .val (.int (Int32.ofNat len)), .val .null, .val (.ref s.heap.size)] [.int (Int32.ofNat len), .ref s.heap.size, .ref a])) := c9.trans (by
      refine XS.astore X8.here hexec rfl (hb hbytes d39) rfl rfl rfl ?_
      refine XS.aloadN X8.here hexec rfl (hb hbytes d41) rfl rfl ?_
      refine XS.aload X8.here hexec rfl (hb hbytes d42) rfl rfl ?_
      refine XS.iloadN X8.here hexec rfl (hb hbytes d44) rfl ?_
      exact Steps.refl _)
    rw [n4]; exact hc
  obtain ⟨v11, T11, X11, E11, g11⟩ := X8.callS hexec (CodL.law l s.heap.size N) hown (wks W (staticW "java/lang/String" 47 CodL.yN)) (wk W CodL.tab) (W := 1) (Nat.le_of_ble_eq_true rfl) (Nat.le_of_ble_eq_true rfl) (Nat.le_refl _) (by show 0 + len + 0 ≤ len; omega) (g := (mkF m 45 #[.val (.ref a), .val (.ref b), .val (.int (Int32.ofNat o)), .val (.int (Int32.ofNat len)), .val .null, .val (.ref s.heap.size)] [.int (Int32.ofNat N.slots.size), .ref s.heap.size, .ref a])) rfl (by rw [hml]; rfl) c10 (argsL := [.ref s.heap.size, .int (Int32.ofNat N.slots.size)]) (rest := [.ref a]) rfl rfl (by show 2 * 0 + (1 + 0) ≤ _; decide) (hb hbytes d45) (⟨rfl, n1⟩)
  obtain ⟨rfl, q11⟩ := E11
  have hB11 := hB1.mv (X8.warmed.alike.symm.trans X11.warmed.alike) q11
  have c12 : Steps p.tables e below (s₁.setTop (entryFrame m #[.ref a, .ref b, .int (Int32.ofNat o), .int (Int32.ofNat len), .null] 6)) (T11.setTop (mkF m 48 #[.val (.ref a), .val (.ref b), .val (.int (Int32.ofNat o)), .val (.int (Int32.ofNat len)), .val .null, .val (.ref s.heap.size)] [.int 0, .ref a])) := g11
  obtain ⟨T13, X13, p13, bl13, sl13, st13⟩ := X11.finit hexec hown (wk W (.fieldLink "java/lang/String" 15 "java/lang/String" "coder" "B")) (Or.inr ⟨_, (wk W (.laysFinal "java/lang/String" "java/lang/String" "coder" "B"))⟩) (Or.inl ⟨rfl, hnm⟩) f2 (Or.inl rfl) hB11 (t := .byte) (by decide +kernel) rfl (g := (mkF m 48 #[.val (.ref a), .val (.ref b), .val (.int (Int32.ofNat o)), .val (.int (Int32.ofNat len)), .val .null, .val (.ref s.heap.size)] [.int 0, .ref a])) rfl (rest := []) rfl (hb hbytes d48)
  have c14 : Steps p.tables e below (s₁.setTop (entryFrame m #[.ref a, .ref b, .int (Int32.ofNat o), .int (Int32.ofNat len), .null] 6)) (T13.setTop (mkF m 54 #[.val (.ref a), .val (.ref b), .val (.int (Int32.ofNat o)), .val (.int (Int32.ofNat len)), .val .null, .val (.ref s.heap.size)] [.ref s.heap.size, .ref a])) := (c12.trans (st13 _ (Steps.refl _))).trans (by
    refine XS.aloadN X13.here hexec rfl (hb hbytes d51) rfl rfl ?_
    refine XS.aload X13.here hexec rfl (hb hbytes d52) rfl rfl ?_
    exact Steps.refl _)
  obtain ⟨T15, X15, p15, bl15, sl15, st15⟩ := X13.finit hexec hown (wk W (.fieldLink "java/lang/String" 9 "java/lang/String" "value" "[B")) (Or.inr ⟨_, (wk W (.laysFinal "java/lang/String" "java/lang/String" "value" "[B"))⟩) (Or.inl ⟨rfl, hnm⟩) f1 (Or.inl rfl) bl13 (t := (.array .byte)) (by decide +kernel) rfl (g := (mkF m 54 #[.val (.ref a), .val (.ref b), .val (.int (Int32.ofNat o)), .val (.int (Int32.ofNat len)), .val .null, .val (.ref s.heap.size)] [.ref s.heap.size, .ref a])) rfl (rest := []) rfl (hb hbytes d54)
  have c16 : Steps p.tables e below (s₁.setTop (entryFrame m #[.ref a, .ref b, .int (Int32.ofNat o), .int (Int32.ofNat len), .null] 6)) (T15.setTop (mkF m 57 #[.val (.ref a), .val (.ref b), .val (.int (Int32.ofNat o)), .val (.int (Int32.ofNat len)), .val .null, .val (.ref s.heap.size)] [])) := c14.trans (st15 _ (Steps.refl _))
  have ap := apart (Or.inr ⟨_, (wk W (.laysFinal "java/lang/String" "java/lang/String" "value" "[B"))⟩) (Or.inr ⟨_, (wk W (.laysFinal "java/lang/String" "java/lang/String" "coder" "B"))⟩) f1 f2 (t₁ := .array .byte) (t₂ := .byte) (by decide +kernel) (by decide +kernel) (by decide)
  have al := X8.warmed.alike.symm.trans X15.warmed.alike
  have n7 : T11.heap[s.heap.size]? = some N := by rw [q11]; exact n1.1
  exact ⟨T15, none, _, _, _, X15, by simp, rfl, by omega, (fun _ => rfl), ⟨rfl, _, N, bl15, ((Same.refl D _).set _ (by simp)).set _ (by simp), sl15, (Cell.slots_setSlot_ne _ ap).trans sl13, n1.keep al (p15.other hne (p13.other hne n7)), n2, by rw [al.findClass]; exact n3, n4, n5, fun y c h1 h2 => p15.other h1 (p13.other h1 (by rw [q11]; exact n6 y c h2)), by rw [p15.2.2, p13.2.2, q11]; exact z8⟩, fun fs hl => c16.trans (X15.returnOut hexec hret (hb hbytes d57) hl)⟩
end New4
namespace New1
def yN : MethodName := ⟨"java/lang/String", "<init>", "([C)V"⟩
abbrev yB : ByteArray := jdk_42_method_3_code
theorem d0 : decode yB 0 = .ok (.aload_n 0, 1) := by decide +kernel
theorem d1 : decode yB 1 = .ok (.aload_n 1, 1) := by decide +kernel
theorem d2 : decode yB 2 = .ok (.iconst 0, 1) := by decide +kernel
theorem d3 : decode yB 3 = .ok (.aload_n 1, 1) := by decide +kernel
theorem d4 : decode yB 4 = .ok (.arraylength, 1) := by decide +kernel
theorem d5 : decode yB 5 = .ok (.aconst_null, 1) := by decide +kernel
theorem d6 : decode yB 6 = .ok (.invokespecial 27, 3) := by decide +kernel
theorem d9 : decode yB 9 = .ok (.return_, 1) := by decide +kernel
def site : List Cond := [New4.tab] ++ initW "java/lang/String" 27 New4.yN
def tab : Cond := tabOf yN yB 2 none site
def P (a : Addr) (D : Cell) (fV fC : Field) (b : Addr) (A : Cell) (z : Int32) (args : Array Value) (s : State) : Prop := args = #[.ref a, .ref b] ∧ Blank "java/lang/String" a D s ∧ Found "java/lang/String" "value" "[B" fV s ∧ Found "java/lang/String" "coder" "B" fC s ∧ Ch b A s ∧ StaticIs s "java/lang/String" "COMPACT_STRINGS" "Z" (.int z) ∧ ¬ z = 0 ∧ 0 < A.slots.size ∧ A.slots.size ≤ 536870912 ∧ ∀ i, i < A.slots.size → ¬ 255 < cv A i
def E (a : Addr) (D : Cell) (fV fC : Field) (A : Cell) (r : Option Value) (s u : State) : Prop := Got a D fV fC A 0 A.slots.size r s u
/-- new String(chars), not empty, no char above 255: a Latin-1 String of their low bytes -/
theorem law (l : Launch) (a : Addr) (D : Cell) (fV fC : Field) (b : Addr) (A : Cell) (z : Int32) : Law l yN 2 1 3 52 yB 2 none site (P a D fV fC b A z) (E a D fV fC A) [⟨a, fC.slot⟩, ⟨a, fV.slot⟩] 1 A.slots.size := by
  refine Law.of_walk (plainFor_of_name (by decide +kernel)) (by decide +kernel) (by decide +kernel) (by decide) (fun _ _ h => by rw [h.1]; rfl) (fun _ U U' hal hh h => ⟨h.1, h.2.1.mv hal hh, h.2.2.1.al hal, h.2.2.2.1.al hal, h.2.2.2.2.1.mv hal hh, h.2.2.2.2.2.1.there hal hh, h.2.2.2.2.2.2⟩) (fun r U U' V V' h1 hal h2 h => Got.mv r U U' V V' h1 hal h2 h) ?_
  intro p e s m args below meth c s₁ X0 hexec hbytes hml hret hlk hnm hown hh0 W hP
  obtain ⟨rfl, hB, f1, f2, hA, s1, hz, l0, l2, hp⟩ := hP
  have c1 : Steps p.tables e below (s₁.setTop (entryFrame m #[.ref a, .ref b] 2)) (s₁.setTop (mkF m 0 #[.val (.ref a), .val (.ref b)] [])) := entry rfl
  have c2 : Steps p.tables e below (s₁.setTop (entryFrame m #[.ref a, .ref b] 2)) (s₁.setTop (mkF m 6 #[.val (.ref a), .val (.ref b)] [.null, .int (Int32.ofNat A.slots.size), .int 0, .ref b, .ref a])) := c1.trans (by
    refine XS.aloadN X0.here hexec rfl (hb hbytes d0) rfl rfl ?_
    refine XS.aloadN X0.here hexec rfl (hb hbytes d1) rfl rfl ?_
    refine iconstV X0.here hexec rfl 0 (hb hbytes d2) (by decide) ?_
    refine XS.aloadN X0.here hexec rfl (hb hbytes d3) rfl rfl ?_
    refine X0.alen hexec (hA.1.mv X0.warmed.alike hh0) rfl rfl (hb hbytes d4) ?_
    refine XS.aconstNull X0.here hexec rfl (hb hbytes d5) ?_
    exact Steps.refl _)
  obtain ⟨v3, T3, X3, E3, g3⟩ := X0.callN hexec (New4.law l a D fV fC b A z 0 A.slots.size) rfl hown (wks W (initW "java/lang/String" 27 New4.yN)) (W New4.tab (by simp only [site, List.mem_cons, List.mem_append, true_or, or_true])) (W := 0) (Nat.le_of_ble_eq_true rfl) (Nat.le_of_ble_eq_true rfl) (Nat.le_refl _) (by show 0 + A.slots.size ≤ A.slots.size; omega) (g := (mkF m 6 #[.val (.ref a), .val (.ref b)] [.null, .int (Int32.ofNat A.slots.size), .int (Int32.ofNat 0), .ref b, .ref a])) rfl (by rw [hml]; rfl) c2 (argsL := [.ref b, .int (Int32.ofNat 0), .int (Int32.ofNat A.slots.size), .null]) (rest := []) rfl rfl (by show 2 * 0 + 0 ≤ _; decide) (hb hbytes d6) (⟨rfl, hB.mv X0.warmed.alike hh0, f1.al X0.warmed.alike, f2.al X0.warmed.alike, hA.mv X0.warmed.alike hh0, s1.there X0.warmed.alike hh0, hz, l0, by omega, l2, fun i hi => by rw [Nat.zero_add]; exact hp i hi⟩)
  have e0 := Got.mv _ s₁ s _ _ hh0.symm (Vm.Alike.refl _) rfl E3
  obtain rfl := e0.1
  have c4 : Steps p.tables e below (s₁.setTop (entryFrame m #[.ref a, .ref b] 2)) (T3.setTop (mkF m 9 #[.val (.ref a), .val (.ref b)] [])) := g3
  exact ⟨T3, none, _, _, _, X3, by simp, rfl, by omega, (fun _ => rfl), e0, fun fs hl => c4.trans (X3.returnOut hexec hret (hb hbytes d9) hl)⟩
theorem pays {l : Launch} {R : Room} {p : Program} {e : Env} {below : List Frame} {s : State} {sargs : Array Value} {len W : Nat} (a : Addr) (D : Cell) (fV fC : Field) (b : Addr) (A : Cell) (z : Int32) (htab : tab.before sargs s = true) (hfr : 4 ≤ R.frames) (hlo : W + 65 ≤ R.locals) :
    Back l R p e below s sargs yN len W (fun A₁ a₁ => A₁.cells + 1 ≤ R.cells ∧ A₁.slots + A.slots.size ≤ R.slots ∧ P a D fV fC b A z a₁ A₁.U) (fun A₁ _ v₁ B₁ => E a D fV fC A v₁ A₁.U B₁.U ∧ B₁.locs = A₁.locs ++ [⟨a, fC.slot⟩, ⟨a, fV.slot⟩] ∧ B₁.cells = A₁.cells + 1 ∧ B₁.slots = A₁.slots + A.slots.size) :=
  (law l a D fV fC b A z).pays htab hfr (by omega)
end New1
end StrChars
namespace StrChars.Road
open Jvm Sem ClassFile Op Lib Jvm.Stand Jvm.Free Jvm.Free.XT
open Jvm.Lib.Cold (StaticIs)
abbrev ST : String := "java/lang/String"
/-- every table word that New1's law asks, flat -/
abbrev words : List Jvm.Cond := [.code New1.yN New1.yB 2 none, .initialized ST, .methodLink ST 27 New4.yN, .instanceMethod New4.yN,
  .code New4.yN New4.yB 6 none, .fieldLink ST 38 ST "COMPACT_STRINGS" "Z", .laysFinal ST ST "value" "[B", .fieldLink ST 9 ST "value" "[B", .laysFinal ST ST "coder" "B", .fieldLink ST 15 ST "coder" "B",
  .methodLink ST 1 Lib.objectInit, .instanceMethod Lib.objectInit, .code Lib.objectInit ⟨#[0xb1]⟩ 1 none, .methodLink ST 177 Cmp3.yN, .static Cmp3.yN, .methodLink ST 47 CodL.yN, .static CodL.yN,
  .code Cmp3.yN Cmp3.yB 6 (some (.array .byte)), .initialized U16, .arrayClass .byte, .methodLink U16 115 Cmp5.yN, .static Cmp5.yN, .code Cmp5.yN Cmp5.yB 7 (some .int), .code CodL.yN CodL.yB 2 (some .byte)]
theorem tab_of {a : Array Value} {s : State} (h : ∀ w ∈ words, w.before a s = true) : New1.tab.before a s = true := by
  have h5 : Cmp5.tab.before a s = true := unparts (wk h (.code Cmp5.yN Cmp5.yB 7 (some .int))) (wks h (.initialized Cmp5.yN.cls :: Cmp5.site))
  have hc : CodL.tab.before a s = true := unparts (wk h (.code CodL.yN CodL.yB 2 (some .byte))) (wks h (.initialized CodL.yN.cls :: CodL.site))
  have q5 : ∀ w ∈ Cmp5.tab :: words, w.before a s = true := fun w hw => (List.mem_cons.mp hw).elim (fun e => e ▸ h5) (h w)
  have h3 : Cmp3.tab.before a s = true := unparts (wk q5 (.code Cmp3.yN Cmp3.yB 6 (some (.array .byte)))) (wks q5 (.initialized Cmp3.yN.cls :: Cmp3.site))
  have q3 : ∀ w ∈ Cmp3.tab :: CodL.tab :: words, w.before a s = true := fun w hw => (List.mem_cons.mp hw).elim (fun e => e ▸ h3) fun hw => (List.mem_cons.mp hw).elim (fun e => e ▸ hc) (h w)
  have h4 : New4.tab.before a s = true := unparts (wk q3 (.code New4.yN New4.yB 6 none)) (wks q3 (.initialized New4.yN.cls :: New4.site))
  have q4 : ∀ w ∈ New4.tab :: words, w.before a s = true := fun w hw => (List.mem_cons.mp hw).elim (fun e => e ▸ h4) (h w)
  exact unparts (wk q4 (.code New1.yN New1.yB 2 none)) (wks q4 (.initialized New1.yN.cls :: New1.site))
/-- the words ride from the start Z to the walk's own state -/
theorem moved {Z s : State} {a0 args : Array Value} (hZ : Z.Warmed39 s.vm) (hw : ∀ d ∈ words, d.before a0 Z = true) : ∀ d ∈ words, d.before args s = true := fun d hd => by
  have q := hw d hd
  have t : ∀ d ∈ words, d = .arrayClass .byte ∨ (d.onTables && d.keepsFace) = true := by decide +kernel
  rcases t d hd with rfl | t
  · exact RoadKit.mvA hZ q
  · exact RoadKit.mv hZ q t
/-- WHAT COMES BACK, over the tables of the start Z: h the heap at the call, h' behind it -/
def Q (Z : State) (x : Addr) (A : Cell) (h : Heap) (v : Option Value) (h' : Heap) (L : List Loc) : Prop := v = none ∧ (∀ y ∈ L, y.base = x) ∧ RoadKit.Keep h h' [x] ∧ h'.size = h.size + 1 ∧ RoadKit.Exa Z h' x ST ∧ RoadKit.Fld Z h' x ST "value" "[B" (.ref h.size) ∧ RoadKit.Fld Z h' x ST "coder" "B" (.int 0) ∧
  (∃ V : Cell, RoadKit.Arr Z h' h.size V .byte ∧ V.vm = .none ∧ Z.vm.findClass "[B" = some V.cls ∧ V.slots.size = A.slots.size ∧ ∀ j, j < A.slots.size → V.slots[j]? = some (.int (lo8 (cv A j)))) ∧
  ∀ (O n d : String) (w : Value), RoadKit.Fld Z h x O n d w → RoadKit.slotOf Z O n d ≠ RoadKit.slotOf Z ST "value" "[B" → RoadKit.slotOf Z O n d ≠ RoadKit.slotOf Z ST "coder" "B" → RoadKit.Fld Z h' x O n d w
/-- **new String(chars) AT A CALL, IN THE ROAD'S FORM**: for specialBack behind newO: x the fresh String, b the char[] with the cell A -/
theorem back {p : Program} {l : Launch} {e : Env} {R : Room} {s : State} {args : Array Value} {below : List Frame} {len W : Nat} {Z : State} {a0 : Array Value} {h : Heap} (hZ : Z.Warmed39 s.vm) (hw : ∀ d ∈ words, d.before a0 Z = true) {kI : Nat} (wi : (Jvm.Cond.instantiable ST kI).before a0 Z = true)
    {x b : Addr} {A : Cell} {z : Int32} {v0 c0 : Value} (E : RoadKit.Exa Z h x ST) (V : RoadKit.Fld Z h x ST "value" "[B" v0) (C : RoadKit.Fld Z h x ST "coder" "B" c0) (K : RoadKit.Arr Z h b A .char) (hty : Typed .char A) (S : RoadKit.Sta Z h ST "COMPACT_STRINGS" "Z" (.int z)) (hz : ¬ z = 0)
    (l0 : 0 < A.slots.size) (l2 : A.slots.size ≤ 536870912) (hp : ∀ i, i < A.slots.size → ¬ 255 < cv A i) (hfr : 4 ≤ R.frames) (hlo : W + 65 ≤ R.locals) :
    Back l R p e below s args New1.yN len W (fun P a => a = #[.ref x, .ref b] ∧ P.U.heap = h ∧ P.cells + 1 ≤ R.cells ∧ P.slots + A.slots.size ≤ R.slots)
      (fun P _ v B => ∃ L, Q Z x A h v B.U.heap L ∧ B.locs = P.locs ++ L ∧ B.cells = P.cells + 1 ∧ B.slots = P.slots + A.slots.size) := by
  intro m meth c P g ig mk a X hg hsize hdg hW hn hp'
  obtain ⟨rfl, rfl, r1, r2⟩ := hp'
  have al : Z.vm.Alike P.U.vm := hZ.alike.trans X.warmed.alike
  obtain ⟨D, cfV, kV, iV, fV, hD, gV, stV, knV, obV, asV, slV⟩ := id V
  obtain ⟨D', cfC, kC, iC, fC, hD', gC, stC, -, -, asC, slC⟩ := id C
  cases hD.symm.trans hD'
  obtain ⟨D2, kD, e1, e2, e3, e4, e5⟩ := id E
  cases hD.symm.trans e1
  obtain ⟨c2, k2, i1, i2, i3, -⟩ := Cond.instantiable_spec wi
  cases e2.symm.trans i1
  cases e3.symm.trans i2
  obtain ⟨kU, u1, u2⟩ := al.2.2 _ _ e3
  have hB : Blank ST x D P.U := ⟨hD, ⟨knV, fun q hq => by rw [hq] at obV; cases obV⟩, by rw [al.findClass]; exact e2, kU, u1, by rw [u2]; exact i3, by rw [u2]; exact e5 i3⟩
  have F1 : Found ST "value" "[B" fV P.U := ⟨SBG.found_only al ⟨cfV, kV, iV, gV⟩, stV⟩
  have F2 : Found ST "coder" "B" fC P.U := ⟨SBG.found_only al ⟨cfC, kC, iC, gC⟩, stC⟩
  have hA : Ch b A P.U := ⟨⟨K.1, State.isArrayOf_alike al K.2.1, K.2.2, by omega⟩, hty⟩
  have hS : StaticIs P.U ST "COMPACT_STRINGS" "Z" (.int z) := by
    obtain ⟨cfS, iS, kS, fS, st, cS, t1, t2, t3, t4, t5, t6, t7⟩ := S
    exact StaticIs.there (s := { Z with heap := P.U.heap }) ⟨cfS, iS, kS, fS, st, cS, t1, t2, t3, t4, t5, (fun q => by rw [q] at t6; cases t6), t7⟩ al rfl
  obtain ⟨v, B, X', ⟨⟨hv, E', V', q1, q2, q3, q4, q5, q6, q7, q8, q9, q10, q11⟩, hl, hc, hs⟩, st⟩ := New1.pays x D fV fC b A z (tab_of (moved hZ hw)) hfr hlo m meth c P g ig mk _ X hg hsize hdg hW hn ⟨r1, r2, rfl, hB, F1, F2, hA, hS, hz, l0, l2, hp⟩
  have al' : Z.vm.Alike B.U.vm := hZ.alike.trans X'.warmed.alike
  have hsz : E'.slots.size = D.slots.size := by
    obtain ⟨-, -, -, kB, w1, w2, w3⟩ := q1
    obtain ⟨kB', y1, y2⟩ := al'.2.2 _ _ e3
    rw [q2.2.1] at w1
    cases w1.symm.trans y1
    rw [w3, e5 i3, y2]
  refine ⟨v, B, X', ⟨_, ⟨hv, ?_, ⟨by omega, fun y cy hy hn' => q10 y cy (by simpa using hn') hy, fun y cy hy => ?_⟩, q11, ⟨E', _, q1.1, by rw [q2.2.1]; exact e2, by rw [q2.2.1]; exact e3, by rw [q2.1]; exact obV, fun _ => by rw [hsz]; exact e5 i3⟩,
    ⟨E', cfV, kV, iV, fV, q1.1, gV, stV, by rw [q2.1]; exact knV, by rw [q2.1]; exact obV, by rw [q2.2.1]; exact asV, q3⟩, ⟨E', cfC, kC, iC, fC, q1.1, gC, stC, by rw [q2.1]; exact knV, by rw [q2.1]; exact obV, by rw [q2.2.1]; exact asC, q4⟩,
    ⟨V', ⟨q5.1, State.isArrayOf_alike al'.symm q5.2.1, q5.2.2.1⟩, q6, by rw [← al'.findClass]; exact q7, q8, fun j hj => by have := q9 j hj; rwa [Nat.zero_add] at this⟩, fun O n d w F n1 n2 => ?_⟩, hl, hc, hs⟩, st⟩
  · intro y hy
    simp only [List.mem_cons, List.not_mem_nil, or_false] at hy
    rcases hy with rfl | rfl <;> rfl
  · by_cases q : y = x
    · subst q
      cases hD.symm.trans hy
      exact ⟨E', q1.1, q2.2.1, q2.1, hsz⟩
    · exact ⟨cy, q10 y cy q hy, rfl, rfl, rfl⟩
  · obtain ⟨D3, cf, k, i, f, g1, g2, g3, g4, g5, g6, g7⟩ := F
    cases hD.symm.trans g1
    simp only [RoadKit.slotOf, g2, gV, gC, Option.map_some, Option.getD_some] at n1 n2
    exact ⟨E', cf, k, i, f, q1.1, g2, g3, by rw [q2.1]; exact g4, by rw [q2.1]; exact g5, by rw [q2.2.1]; exact g6, by rw [q2.2.2 f.slot (by simp [n1, n2])]; exact g7⟩
end StrChars.Road
namespace StrChars.Road
open Jvm Sem ClassFile Op Lib Jvm.Stand Jvm.Free Jvm.Free.XT
/-- WHAT COMES BACK, the byte[] as a list of values -/
def QA (Z : State) (x : Addr) (zn : Int32) (cs : List Int32) (h : Heap) (v : Option Value) (h' : Heap) (L : List Loc) : Prop := v = none ∧ (∀ y ∈ L, y.base = x) ∧ RoadKit.Keep h h' [x] ∧ h'.size = h.size + 1 ∧ RoadKit.Exa Z h' x ST ∧ RoadKit.Fld Z h' x ST "value" "[B" (.ref h.size) ∧ RoadKit.Fld Z h' x ST "coder" "B" (.int 0) ∧
  (∃ kb, Z.vm.findClass "[B" = some kb ∧ RoadKit.Arv Z h' h.size kb .byte zn (cs.map fun c => .int (lo8 c)) (.int 0)) ∧
  ∀ (O n d : String) (w : Value), RoadKit.Fld Z h x O n d w → RoadKit.slotOf Z O n d ≠ RoadKit.slotOf Z ST "value" "[B" → RoadKit.slotOf Z O n d ≠ RoadKit.slotOf Z ST "coder" "B" → RoadKit.Fld Z h' x O n d w
/-- **new String(chars) AT A CALL, THE ARRAYS AS LISTS**: the char[] at b holds cs, not empty, no char above 255 -/
theorem backArv {p : Program} {l : Launch} {e : Env} {R : Room} {s : State} {args : Array Value} {below : List Frame} {len W : Nat} {Z : State} {a0 : Array Value} {h : Heap} (hZ : Z.Warmed39 s.vm) (hw : ∀ d ∈ words, d.before a0 Z = true) {kI : Nat} (wi : (Jvm.Cond.instantiable ST kI).before a0 Z = true)
    {x b : Addr} {k : ClassId} {zn z : Int32} {cs : List Int32} {dv v0 c0 : Value} (E : RoadKit.Exa Z h x ST) (V : RoadKit.Fld Z h x ST "value" "[B" v0) (C : RoadKit.Fld Z h x ST "coder" "B" c0) (K : RoadKit.Arv Z h b k .char zn (cs.map Value.int) dv) (S : RoadKit.Sta Z h ST "COMPACT_STRINGS" "Z" (.int z)) (hz : ¬ z = 0)
    (hlen : zn.toNatClampNeg = cs.length) (h0 : 0 < cs.length) (hbig : cs.length ≤ 536870912) (hall : ∀ c ∈ cs, ¬ 255 < c) (hfr : 4 ≤ R.frames) (hlo : W + 65 ≤ R.locals) :
    Back l R p e below s args New1.yN len W (fun P a => a = #[.ref x, .ref b] ∧ P.U.heap = h ∧ P.cells + 1 ≤ R.cells ∧ P.slots + cs.length ≤ R.slots)
      (fun P _ v B => ∃ L, QA Z x zn cs h v B.U.heap L ∧ B.locs = P.locs ++ L ∧ B.cells = P.cells + 1 ∧ B.slots = P.slots + cs.length) := by
  obtain ⟨A, K1, K2, K3, K4, K5, K6⟩ := K
  have e : A.slots.size = cs.length := K3.trans hlen
  have hat : ∀ (i : Nat) (hi : i < cs.length), A.slots[i]? = some (.int cs[i]) := fun i hi => by rw [K5 i (by omega)]; simp [List.getD_eq_getElem?_getD, hi]
  have hcv : ∀ (i : Nat) (hi : i < cs.length), cv A i = cs[i] := fun i hi => by unfold cv; rw [hat i hi]
  have hty : Typed .char A := fun i v hv => by
    have hi : i < A.slots.size := (Array.getElem?_eq_some_iff.mp hv).1
    have q := K5 i hi
    rw [hv] at q
    rw [Option.some.inj q]
    exact K6 i hi
  refine Back.mono (back hZ hw wi E V C K1 hty S hz (by omega) (by omega) (fun i hi => by rw [hcv i (by omega)]; exact hall _ (List.getElem_mem _)) hfr hlo) (fun P a hp => ⟨hp.1, hp.2.1, hp.2.2.1, by rw [e]; exact hp.2.2.2⟩) (fun P a v B hp hq => ?_)
  obtain ⟨L, ⟨q1, q2, q3, q4, q5, q6, q7, ⟨V', v1, v2, v3, v4, v5⟩, q9⟩, hl, hc, hs⟩ := hq
  refine ⟨L, ⟨q1, q2, q3, q4, q5, q6, q7, ⟨V'.cls, v3, V', v1, rfl, by rw [v4, e, hlen], K4, fun i hi => ?_, fun i hi => ?_⟩, q9⟩, hl, hc, by rw [hs, e]⟩
  · have hi' : i < cs.length := by omega
    rw [v5 i (by omega), hcv i hi']; simp [List.getD_eq_getElem?_getD, hi']
  · have hi' : i < cs.length := by omega
    simp only [List.getD_eq_getElem?_getD, List.getElem?_map, List.getElem?_eq_getElem hi', Option.map_some, Option.getD_some]
    exact fits_lo8 _
end StrChars.Road
namespace StrChars.Road
open Jvm Sem ClassFile Op Lib Jvm.Stand Jvm.Free Jvm.Free.XT
/-- WHAT COMES BACK, in the writer's own shape -/
def QV (Z : State) (x : Addr) (N : Int32) (bs : List Int32) (h : Heap) (n0 : Nat) (v : Option Value) (h' : Heap) (L : List Loc) : Prop := v = none ∧ RoadKit.Fr n0 L ∧ RoadKit.Keep h h' [x] ∧ RoadKit.Exa Z h' x ST ∧ RoadKit.Fld Z h' x ST "coder" "B" (.int 0) ∧
  ∃ (t : Addr) (kb : ClassId), n0 ≤ t ∧ h.size ≤ t ∧ ¬ t = x ∧ RoadKit.Fld Z h' x ST "value" "[B" (.ref t) ∧ RoadKit.Arv Z h' t kb .byte N (bs.map Value.int) (.int 0)
/-- **new String(chars) AT A CALL, FOR THE WRITER**: a char[] of n known ints, each 0 to 255 -/
theorem backV {p : Program} {l : Launch} {e : Env} {R : Room} {s : State} {args : Array Value} {below : List Frame} {len W : Nat} {Z : State} {a0 : Array Value} {h : Heap} (hZ : Z.Warmed39 s.vm) (hw : ∀ d ∈ words, d.before a0 Z = true) {kI : Nat} (wi : (Jvm.Cond.instantiable ST kI).before a0 Z = true)
    {x b : Addr} {kC : ClassId} {cs bs : List Int32} {d v0 c0 : Value} {z N : Int32} {n n0 : Nat} (hx0 : n0 ≤ x) (hh0 : n0 ≤ h.size) (E : RoadKit.Exa Z h x ST) (V : RoadKit.Fld Z h x ST "value" "[B" v0) (C : RoadKit.Fld Z h x ST "coder" "B" c0) (K : RoadKit.Arv Z h b kC .char N (cs.map Value.int) d) (S : RoadKit.Sta Z h ST "COMPACT_STRINGS" "Z" (.int z)) (hz : ¬ z = 0)
    (hn : cs.length = n) (hN : N = Int32.ofNat n) (l0 : 0 < n) (l2 : n ≤ 4000) (hp : ∀ c ∈ cs, ¬ c < 0 ∧ ¬ (255 : Int32) < c) (hb : bs = cs.map (fun c => c.toInt8.toInt32)) (hfr : 4 ≤ R.frames) (hlo : W + 65 ≤ R.locals) :
    Back l R p e below s args (⟨"java/lang/String", "<init>", "([C)V"⟩ : MethodName) len W (fun P a => a = #[.ref x, .ref b] ∧ P.U.heap = h ∧ P.cells + 1 ≤ R.cells ∧ P.slots + n ≤ R.slots)
      (fun P _ v B => ∃ L, QV Z x N bs h n0 v B.U.heap L ∧ B.locs = P.locs ++ L ∧ B.cells = P.cells + 1 ∧ B.slots = P.slots + n) := by
  subst hn hN hb
  refine Back.mono (backArv hZ hw wi E V C K S hz (n32 (by omega)) l0 (by omega) (fun c hc => (hp c hc).2) hfr hlo) (fun P a hp => hp) (fun P a v B hp hq => ?_)
  obtain ⟨L, ⟨q1, q2, q3, q4, q5, q6, q7, ⟨kb, v1, v2⟩, q9⟩, hl, hc, hs⟩ := hq
  exact ⟨L, ⟨q1, fun y hy => by rw [q2 y hy]; exact hx0, q3, q5, q7, h.size, kb, hh0, Nat.le_refl _, Nat.ne_of_gt E.lt, q6, by rw [List.map_map]; exact v2⟩, hl, hc, hs⟩
end StrChars.Road
end Jvm.Pilot.@@N@@

namespace Jvm.Pilot.@@N@@
open Jvm Jvm.ClassFile Sem Op Lib Jvm.Free Jvm.Stand Jvm.LawKit Jvm.RoadKit Bundle Jvm.Pilot.@@N@@.Jvm.D
theorem mI {α : Type} {l : List α} {a : α} (i : Nat) (h : l[i]? = some a) : a ∈ l := List.mem_of_getElem? h
set_option maxRecDepth 65536
set_option maxHeartbeats 40000000
abbrev HW (a0 : Array Value) (Z : State) : Prop := ∀ d ∈ tables_1, d.before a0 Z = true
theorem lE {a b : Nat} (h : Nat.ble a b = true) : a ≤ b := Nat.le_of_ble_eq_true h
theorem own_hw {a b : Nat} (h : 2 * 0 + a = b) : 2 * 0 + a ≤ b := Nat.le_of_eq h
abbrev Sx (p : Program) (e : Env) (b : List Frame) (T : State) (m : MethodId) (pc : Nat) (L : Array Slot) (S : List Value) (t : State) : Prop := Steps p.tables e b (T.setTop (mkF m pc L S)) t
abbrev Pr (p : Program) (e : Env) (b : List Frame) (T : State) (m : MethodId) (pc : Nat) (L : Array Slot) (S : List Value) (s₁ : State) (f : JFrame) : Prop := ∀ t, Steps p.tables e b (T.setTop (mkF m pc L S)) t → Steps p.tables e b (s₁.setTop f) t
section
variable {a0 : Array Value} {Z : State} (hw : ∀ d ∈ tables_1, d.before a0 Z = true)
def w0_ := hw _ (List.mem_of_getElem? (i := 0) rfl)
def w1_ := hw _ (List.mem_of_getElem? (i := 1) rfl)
def w2_ := hw _ (List.mem_of_getElem? (i := 2) rfl)
def w3_ := hw _ (List.mem_of_getElem? (i := 3) rfl)
def w4_ := hw _ (List.mem_of_getElem? (i := 4) rfl)
def w5_ := hw _ (List.mem_of_getElem? (i := 5) rfl)
def w6_ := hw _ (List.mem_of_getElem? (i := 6) rfl)
def w7_ := hw _ (List.mem_of_getElem? (i := 7) rfl)
def w8_ := hw _ (List.mem_of_getElem? (i := 8) rfl)
def w9_ := hw _ (List.mem_of_getElem? (i := 9) rfl)
def w15_ := hw _ (List.mem_of_getElem? (i := 15) rfl)
def w16_ := hw _ (List.mem_of_getElem? (i := 16) rfl)
def w22_ := hw _ (List.mem_of_getElem? (i := 22) rfl)
def w30_ := hw _ (List.mem_of_getElem? (i := 30) rfl)
def w32_ := hw _ (List.mem_of_getElem? (i := 32) rfl)
def w33_ := hw _ (List.mem_of_getElem? (i := 33) rfl)
def w34_ := hw _ (List.mem_of_getElem? (i := 34) rfl)
def w35_ := hw _ (List.mem_of_getElem? (i := 35) rfl)
def w36_ := hw _ (List.mem_of_getElem? (i := 36) rfl)
def w37_ := hw _ (List.mem_of_getElem? (i := 37) rfl)
def w38_ := hw _ (List.mem_of_getElem? (i := 38) rfl)
def w39_ := hw _ (List.mem_of_getElem? (i := 39) rfl)
def w40_ := hw _ (List.mem_of_getElem? (i := 40) rfl)
def w41_ := hw _ (List.mem_of_getElem? (i := 41) rfl)
def w42_ := hw _ (List.mem_of_getElem? (i := 42) rfl)
def w43_ := hw _ (List.mem_of_getElem? (i := 43) rfl)
def w44_ := hw _ (List.mem_of_getElem? (i := 44) rfl)
def w45_ := hw _ (List.mem_of_getElem? (i := 45) rfl)
def w46_ := hw _ (List.mem_of_getElem? (i := 46) rfl)
def w48_ := hw _ (List.mem_of_getElem? (i := 48) rfl)
def w49_ := hw _ (List.mem_of_getElem? (i := 49) rfl)
def w50_ := hw _ (List.mem_of_getElem? (i := 50) rfl)
def w51_ := hw _ (List.mem_of_getElem? (i := 51) rfl)
def w54_ := hw _ (List.mem_of_getElem? (i := 54) rfl)
def w55_ := hw _ (List.mem_of_getElem? (i := 55) rfl)
def w56_ := hw _ (List.mem_of_getElem? (i := 56) rfl)
def w57_ := hw _ (List.mem_of_getElem? (i := 57) rfl)
def w58_ := hw _ (List.mem_of_getElem? (i := 58) rfl)
def w59_ := hw _ (List.mem_of_getElem? (i := 59) rfl)
def w60_ := hw _ (List.mem_of_getElem? (i := 60) rfl)
def w61_ := hw _ (List.mem_of_getElem? (i := 61) rfl)
def w62_ := hw _ (List.mem_of_getElem? (i := 62) rfl)
def w63_ := hw _ (List.mem_of_getElem? (i := 63) rfl)
def w64_ := hw _ (List.mem_of_getElem? (i := 64) rfl)
def w66_ := hw _ (List.mem_of_getElem? (i := 66) rfl)
def w67_ := hw _ (List.mem_of_getElem? (i := 67) rfl)
def w68_ := hw _ (List.mem_of_getElem? (i := 68) rfl)
def w69_ := hw _ (List.mem_of_getElem? (i := 69) rfl)
def w70_ := hw _ (List.mem_of_getElem? (i := 70) rfl)
def w71_ := hw _ (List.mem_of_getElem? (i := 71) rfl)
def w72_ := hw _ (List.mem_of_getElem? (i := 72) rfl)
def w73_ := hw _ (List.mem_of_getElem? (i := 73) rfl)
def w74_ := hw _ (List.mem_of_getElem? (i := 74) rfl)
def w75_ := hw _ (List.mem_of_getElem? (i := 75) rfl)
def w76_ := hw _ (List.mem_of_getElem? (i := 76) rfl)
def w77_ := hw _ (List.mem_of_getElem? (i := 77) rfl)
def w78_ := hw _ (List.mem_of_getElem? (i := 78) rfl)
def w79_ := hw _ (List.mem_of_getElem? (i := 79) rfl)
def w80_ := hw _ (List.mem_of_getElem? (i := 80) rfl)
def w81_ := hw _ (List.mem_of_getElem? (i := 81) rfl)
def w82_ := hw _ (List.mem_of_getElem? (i := 82) rfl)
def w83_ := hw _ (List.mem_of_getElem? (i := 83) rfl)
def w84_ := hw _ (List.mem_of_getElem? (i := 84) rfl)
def w85_ := hw _ (List.mem_of_getElem? (i := 85) rfl)
def w86_ := hw _ (List.mem_of_getElem? (i := 86) rfl)
def w87_ := hw _ (List.mem_of_getElem? (i := 87) rfl)
def w88_ := hw _ (List.mem_of_getElem? (i := 88) rfl)
def w89_ := hw _ (List.mem_of_getElem? (i := 89) rfl)
def w90_ := hw _ (List.mem_of_getElem? (i := 90) rfl)
def w91_ := hw _ (List.mem_of_getElem? (i := 91) rfl)
def w92_ := hw _ (List.mem_of_getElem? (i := 92) rfl)
def w93_ := hw _ (List.mem_of_getElem? (i := 93) rfl)
def w94_ := hw _ (List.mem_of_getElem? (i := 94) rfl)
def w95_ := hw _ (List.mem_of_getElem? (i := 95) rfl)
def w96_ := hw _ (List.mem_of_getElem? (i := 96) rfl)
def w97_ := hw _ (List.mem_of_getElem? (i := 97) rfl)
def w98_ := hw _ (List.mem_of_getElem? (i := 98) rfl)
def w99_ := hw _ (List.mem_of_getElem? (i := 99) rfl)
def w100_ := hw _ (List.mem_of_getElem? (i := 100) rfl)
def w101_ := hw _ (List.mem_of_getElem? (i := 101) rfl)
def w102_ := hw _ (List.mem_of_getElem? (i := 102) rfl)
def w103_ := hw _ (List.mem_of_getElem? (i := 103) rfl)
def w104_ := hw _ (List.mem_of_getElem? (i := 104) rfl)
def w105_ := hw _ (List.mem_of_getElem? (i := 105) rfl)
def w106_ := hw _ (List.mem_of_getElem? (i := 106) rfl)
def w107_ := hw _ (List.mem_of_getElem? (i := 107) rfl)
def w108_ := hw _ (List.mem_of_getElem? (i := 108) rfl)
def w109_ := hw _ (List.mem_of_getElem? (i := 109) rfl)
def w110_ := hw _ (List.mem_of_getElem? (i := 110) rfl)
def w111_ := hw _ (List.mem_of_getElem? (i := 111) rfl)
def w112_ := hw _ (List.mem_of_getElem? (i := 112) rfl)
def w113_ := hw _ (List.mem_of_getElem? (i := 113) rfl)
def w114_ := hw _ (List.mem_of_getElem? (i := 114) rfl)
def w115_ := hw _ (List.mem_of_getElem? (i := 115) rfl)
def w116_ := hw _ (List.mem_of_getElem? (i := 116) rfl)
def w117_ := hw _ (List.mem_of_getElem? (i := 117) rfl)
def w119_ := hw _ (List.mem_of_getElem? (i := 119) rfl)
def w120_ := hw _ (List.mem_of_getElem? (i := 120) rfl)
def w121_ := hw _ (List.mem_of_getElem? (i := 121) rfl)
def w122_ := hw _ (List.mem_of_getElem? (i := 122) rfl)
def w123_ := hw _ (List.mem_of_getElem? (i := 123) rfl)
def w124_ := hw _ (List.mem_of_getElem? (i := 124) rfl)
def w125_ := hw _ (List.mem_of_getElem? (i := 125) rfl)
def w126_ := hw _ (List.mem_of_getElem? (i := 126) rfl)
def w127_ := hw _ (List.mem_of_getElem? (i := 127) rfl)
end
abbrev Y0_ : MethodName := ⟨"java/lang/Record", "<init>", "()V"⟩
abbrev Y1_ : MethodName := ⟨"java/util/Objects", "requireNonNull", "(Ljava/lang/Object;Ljava/lang/String;)Ljava/lang/Object;"⟩
abbrev Y2_ : MethodName := ⟨"com/example/ratatoskr/ratatoskr/criteria/ComparisonOperator", "operand", "()Ljava/lang/Class;"⟩
abbrev Y3_ : MethodName := ⟨"com/example/ratatoskr/ratatoskr/criteria/Filter$Comparison", "<init>", "(Ljava/lang/String;Lcom/example/ratatoskr/ratatoskr/criteria/ComparisonOperator;Ljava/lang/Object;)V"⟩
abbrev Y4_ : MethodName := ⟨"com/example/ratatoskr/ratatoskr/criteria/Filter", "<init>", "(Lcom/example/ratatoskr/ratatoskr/criteria/Filter$Comparison;)V"⟩
abbrev Y5_ : MethodName := ⟨"com/example/ratatoskr/ratatoskr/criteria/Filter", "<init>", "(Ljava/lang/String;Lcom/example/ratatoskr/ratatoskr/criteria/ComparisonOperator;)V"⟩
abbrev Y6_ : MethodName := ⟨"com/example/ratatoskr/ratatoskr/criteria/Filter", "comparison", "()Lcom/example/ratatoskr/ratatoskr/criteria/Filter$Comparison;"⟩
abbrev Y7_ : MethodName := ⟨"com/example/ratatoskr/ratatoskr/criteria/Filter", "left", "()Lcom/example/ratatoskr/ratatoskr/criteria/Filter;"⟩
abbrev Y8_ : MethodName := ⟨"com/example/ratatoskr/ratatoskr/criteria/Filter", "junction", "()Lcom/example/ratatoskr/ratatoskr/criteria/Filter$Junction;"⟩
abbrev Y9_ : MethodName := ⟨"com/example/ratatoskr/ratatoskr/criteria/Filter", "right", "()Lcom/example/ratatoskr/ratatoskr/criteria/Filter;"⟩
abbrev Y10_ : MethodName := ⟨"com/example/ratatoskr/ratatoskr/criteria/Filter", "<init>", "(Lcom/example/ratatoskr/ratatoskr/criteria/Filter;Lcom/example/ratatoskr/ratatoskr/criteria/Filter$Junction;Lcom/example/ratatoskr/ratatoskr/criteria/Filter;)V"⟩
abbrev Y11_ : MethodName := ⟨"com/example/ratatoskr/ratatoskr/criteria/Filter", "or", "(Lcom/example/ratatoskr/ratatoskr/criteria/Filter;)Lcom/example/ratatoskr/ratatoskr/criteria/Filter;"⟩
abbrev Y12_ : MethodName := ⟨"com/example/ratatoskr/ratatoskr/criteria/Filter", "and", "(Lcom/example/ratatoskr/ratatoskr/criteria/Filter;)Lcom/example/ratatoskr/ratatoskr/criteria/Filter;"⟩
abbrev Y13_ : MethodName := ⟨"java/lang/String", "<init>", "([C)V"⟩
theorem own_cat {v : Value} (h : v.isRef = true) : v.category = 1 := by cases v <;> first | rfl | cases h
theorem own_and255 (x : Int32) : ∃ k : Fin 256, x &&& 255 = Int32.ofNat k.val := by
  have h : (x &&& 255).toBitVec.toNat < 256 := by
    simp only [Int32.toBitVec_and, BitVec.toNat_and]
    exact Nat.lt_succ_of_le Nat.and_le_right
  refine ⟨⟨_, h⟩, ?_⟩
  apply Int32.toBitVec_inj.mp
  show _ = BitVec.ofNat 32 _
  rw [BitVec.ofNat_toNat]; simp
theorem own_lat (x : Int32) : ¬ (((x &&& (255 : Int32))).toUInt32.toUInt16.toUInt32.toInt32) < 0 ∧ ¬ (255 : Int32) < (((x &&& (255 : Int32))).toUInt32.toUInt16.toUInt32.toInt32) := by
  obtain ⟨k, e⟩ := own_and255 x
  have t : ∀ k : Fin 256, ¬ ((Int32.ofNat k.val).toUInt32.toUInt16.toUInt32.toInt32) < 0 ∧ ¬ (255 : Int32) < ((Int32.ofNat k.val).toUInt32.toUInt16.toUInt32.toInt32) := by decide +kernel
  rw [e]; exact t k
theorem own_lat7 (x : Int32) : ¬ (((x &&& (127 : Int32))).toUInt32.toUInt16.toUInt32.toInt32) < 0 ∧ ¬ (255 : Int32) < (((x &&& (127 : Int32))).toUInt32.toUInt16.toUInt32.toInt32) := by
  have e : x &&& (127 : Int32) = (x &&& (127 : Int32)) &&& 255 := by rw [Int32.and_assoc]; rfl
  rw [e]; exact own_lat _
theorem own_nar_i2c (x : Int32) : nar .char (x.toUInt32.toUInt16.toUInt32.toInt32) = x.toUInt32.toUInt16.toUInt32.toInt32 := by simp only [nar, UInt32.toUInt32_toInt32, UInt16.toUInt16_toUInt32]
theorem own_nar_i2b (x : Int32) : nar .byte (x.toInt8.toInt32) = x.toInt8.toInt32 := by simp [nar]
theorem own_nar_lat {x : Int32} (h : ¬ x < 0 ∧ ¬ (255 : Int32) < x) : nar .char x = x := by
  have e0 : (0 : Int32).toInt = 0 := rfl
  have e1 : (255 : Int32).toInt = 255 := rfl
  have h1 := h.1
  have h2 := h.2
  rw [Int32.lt_iff_toInt_lt, e0] at h1
  rw [Int32.lt_iff_toInt_lt, e1] at h2
  have e : x = Int32.ofNat x.toInt.toNat := by
    apply Int32.toInt_inj.mp
    rw [Int32.toInt_ofNat_small (by omega)]; omega
  have t : ∀ k : Fin 256, nar .char (Int32.ofNat k.val) = Int32.ofNat k.val := by decide +kernel
  rw [e]; exact t ⟨x.toInt.toNat, by omega⟩
theorem own_up (cs : List Int32) (h : ∀ c ∈ cs, ¬ c < 0 ∧ ¬ (255 : Int32) < c) : ∀ c ∈ cs, ¬ c < 0 ∧ ¬ (65535 : Int32) < c := fun c hc => ⟨(h c hc).1, fun q => (h c hc).2 (by rw [Int32.lt_iff_toInt_lt] at q ⊢; have e1 : (65535 : Int32).toInt = 65535 := rfl; have e2 : (255 : Int32).toInt = 255 := rfl; omega)⟩
theorem own_sub {a b : Int32} {p : Int32 → Prop} (h : a = b) (hp : p b) : p a := by rw [h]; exact hp
theorem own_cons {a b : Int32} {l m : List Int32} (h : a = b) (h2 : l = m) : a :: l = b :: m := by rw [h, h2]
theorem own_and3 (x : Int32) : x &&& (3 : Int32) = 0 ∨ x &&& (3 : Int32) = 1 ∨ x &&& (3 : Int32) = 2 ∨ x &&& (3 : Int32) = 3 := by
  have h : (x &&& 3).toBitVec.toNat < 4 := by
    simp only [Int32.toBitVec_and, BitVec.toNat_and]
    exact Nat.lt_succ_of_le Nat.and_le_right
  have e : x &&& 3 = Int32.ofNat (x &&& 3).toBitVec.toNat := by
    apply Int32.toBitVec_inj.mp
    show _ = BitVec.ofNat 32 _
    rw [BitVec.ofNat_toNat]; simp
  rw [e]
  generalize (x &&& 3).toBitVec.toNat = n at h
  have : n = 0 ∨ n = 1 ∨ n = 2 ∨ n = 3 := by omega
  rcases this with rfl | rfl | rfl | rfl <;> simp
theorem own_three3 {x : Int32} (h0 : ¬ (x &&& (3 : Int32)) = (0 : Int32)) (h1 : ¬ (x &&& (3 : Int32)) = (1 : Int32)) (h2 : ¬ (x &&& (3 : Int32)) = (2 : Int32)) : (x &&& (3 : Int32)) = (3 : Int32) := by
  rcases own_and3 x with h | h | h | h
  · exact absurd h h0
  · exact absurd h h1
  · exact absurd h h2
  · exact h
section Own
variable {p : Program} {l : Launch} {e : Env} {R : Room} {s : State} {m : MethodId} {args : Array Value} {below : List Frame} {meth : Method} {c : Code} {T : State} {locs : List Loc} (cells slots rc rs C S : Nat) {Z : State} {h : Heap}
theorem own_cb {Q : Option Value → Heap → List Loc → Prop} {P : Option Value → Pt → Prop} (H : ∃ (v : Option Value) (vm₁ : Vm) (B : Pt), s.WarmedH vm₁ ∧ Stand p l e R s m args below meth c B.U B.locs B.cells B.slots ∧ (∃ L, Q v B.U.heap L ∧ B.locs = locs ++ L ∧ B.cells = cells + rc ∧ B.slots = slots + rs) ∧ P v B)
    (hc : cells + rc = C) (hs : slots + rs = S) : ∃ (v : Option Value) (T' : State) (L : List Loc), Stand p l e R s m args below meth c T' (locs ++ L) C S ∧ Q v T'.heap L ∧ P v (T', locs ++ L, C, S) := by
  obtain ⟨v, vm₁, ⟨T', L', k', n'⟩, -, X, ⟨L, hQ, h1, h2, h3⟩, hP⟩ := H
  dsimp only [Pt.U, Pt.locs, Pt.cells, Pt.slots] at X hQ h1 h2 h3
  subst h1 h2 h3 hc hs
  exact ⟨v, T', L, X, hQ, hP⟩
theorem own_cb0 {Q : Option Value → Pt → List Loc → Prop} {P : Option Value → Pt → Prop} (H : ∃ (v : Option Value) (vm₁ : Vm) (B : Pt), s.WarmedH vm₁ ∧ Stand p l e R s m args below meth c B.U B.locs B.cells B.slots ∧ (∃ L, Q v B L ∧ B.locs = locs ++ L ∧ B.cells = cells + rc ∧ B.slots = slots + rs) ∧ P v B)
    (hc : cells + rc = C) (hs : slots + rs = S) : ∃ (v : Option Value) (T' : State) (L : List Loc), Stand p l e R s m args below meth c T' (locs ++ L) C S ∧ Q v (T', locs ++ L, C, S) L ∧ P v (T', locs ++ L, C, S) := by
  obtain ⟨v, vm₁, ⟨T', L', k', n'⟩, -, X, ⟨L, hQ, h1, h2, h3⟩, hP⟩ := H
  dsimp only [Pt.U, Pt.locs, Pt.cells, Pt.slots] at X h1 h2 h3
  subst h1 h2 h3 hc hs
  exact ⟨v, T', L, X, hQ, hP⟩
theorem own_cbS {EL : List (String × Nat)} {vm0 : Vm} {k0 : Nat} {own : String} {Q : Option Value → Heap → List Loc → Prop} {P : Option Value → Pt → Prop} (H : ∃ (v : Option Value) (vm₁ : Vm) (B : Pt), (s.setVm vm0).WarmedH vm₁ ∧ Stand p l e R ((s.setVm vm0).setVm B.U.vm) m args below meth c B.U B.locs B.cells B.slots ∧ (s.setVm vm0).Since B.U.vm B.U.heap.size ∧ T.heap.size ≤ B.U.heap.size ∧ (∃ L, Q v B.U.heap L ∧ B.locs = locs ++ L ∧ B.cells = cells + rc ∧ B.slots = slots + rs ∧ CHr Z EL vm0 h B.U.vm B.U.heap) ∧ P v B)
    (hc : cells + rc = C) (hs : slots + rs = S) (hS : s.Since vm0 k0) (hk : k0 ≤ T.heap.size) (hZ : Z.Warmed39 vm0) (ho : vm0.findClass own = some m.cls) : ∃ (v : Option Value) (T' : State) (L : List Loc), Stand p l e R (s.setVm T'.vm) m args below meth c T' (locs ++ L) C S ∧ Q v T'.heap L ∧ s.Since T'.vm T'.heap.size ∧ Z.Warmed39 T'.vm ∧ T'.vm.findClass own = some m.cls ∧ CHr Z EL vm0 h T'.vm T'.heap ∧ P v (T', locs ++ L, C, S) := by
  obtain ⟨v, vm₁, ⟨T', L', k', n'⟩, -, X, hS2, hg, ⟨L, hQ, h1, h2, h3, hC⟩, hP⟩ := H
  dsimp only [Pt.U, Pt.locs, Pt.cells, Pt.slots] at X hQ h1 h2 h3 hS2 hg hC
  subst h1 h2 h3 hc hs
  exact ⟨v, T', L, X, hQ, hS.trans hS2 (Nat.le_trans hk hg), State.Warmed39.trans (t := s.setVm vm0) hZ hS2.1, by rw [hS2.1.alike.findClass]; exact ho, hC, hP⟩
theorem own_lvG {cells slots : Nat} {h : Heap} {s₁ : State} {fr : JFrame} {Q : Option Value → Heap → List Loc → Prop} (X : Stand p l e R s m args below meth c T locs cells slots) (hlocks : meth.locks = false) {v : Option Value} (hv : meth.sig.returnType = none → v = none) (hE : T.heap = h) (hQ : Q v h locs) (hk : (Nat.ble cells R.cells && Nat.ble slots R.slots) = true)
    (H : ∀ fs, (∀ (f : JFrame) (acts : List Action), f.method = m → f.locked = none → f.entered = [] → (doReturn e (T.setTop f) acts v).1 = T.setFrames fs) → Steps p.tables e below (s₁.setTop fr) (T.setFrames fs)) :
    ∃ s₂ o, Steps p.tables e below (s₁.setTop fr) s₂ ∧ s₂.status = .running ∧ Ended s₂ below o ∧ ∃ v L, o = .returned v ∧ Q v s₂.heap L ∧ FrameEnd s o s₂ L R.cells R.slots := by
  obtain ⟨fs, hr, hrun, hended, hW, hsame⟩ := X.leave hv hlocks
  rw [Bool.and_eq_true] at hk
  subst hE
  exact ⟨_, _, H fs hr, hrun, hended, _, _, rfl, hQ, ⟨_, rfl⟩, hW, hsame.mono (Nat.le_of_ble_eq_true hk.1) (Nat.le_of_ble_eq_true hk.2)⟩
theorem own_lvF {cells slots : Nat} {h : Heap} {s₁ : State} {fr : JFrame} {Q : Option Value → Heap → List Loc → Prop} {y : MethodName} {S : Spec} {cd : ByteArray} {ml : Nat} {t : FieldType} {s' sa : State} {a' : Array Value} {b' : List Frame} (X : Stand p l e R s m args below meth c T locs cells slots) (B : BodyLoose p l y S cd ml (some t) e s' m a' b' meth c sa) (v : Value) (hE : T.heap = h) (hQ : Q (some v) h locs) (hk : (Nat.ble cells R.cells && Nat.ble slots R.slots) = true)
    (H : ∀ fs, (∀ (f : JFrame) (acts : List Action), f.method = m → f.locked = none → f.entered = [] → (doReturn e (T.setTop f) acts (some v)).1 = T.setFrames fs) → Steps p.tables e below (s₁.setTop fr) (T.setFrames fs)) :
    ∃ s₂ o, Steps p.tables e below (s₁.setTop fr) s₂ ∧ s₂.status = .running ∧ Ended s₂ below o ∧ ∃ v L, o = .returned v ∧ Q v s₂.heap L ∧ FrameEnd s o s₂ L R.cells R.slots :=
  own_lvG X B.notSynchronized (v := some v) (fun h => by rw [B.returns] at h; cases h) hE hQ hk H
theorem own_lvN {cells slots : Nat} {h : Heap} {s₁ : State} {fr : JFrame} {Q : Option Value → Heap → List Loc → Prop} {y : MethodName} {S : Spec} {cd : ByteArray} {ml : Nat} {rt : Option FieldType} {s' sa : State} {a' : Array Value} {b' : List Frame} (X : Stand p l e R s m args below meth c T locs cells slots) (B : BodyLoose p l y S cd ml rt e s' m a' b' meth c sa) (hE : T.heap = h) (hQ : Q none h locs) (hk : (Nat.ble cells R.cells && Nat.ble slots R.slots) = true)
    (H : ∀ fs, (∀ (f : JFrame) (acts : List Action), f.method = m → f.locked = none → f.entered = [] → (doReturn e (T.setTop f) acts none).1 = T.setFrames fs) → Steps p.tables e below (s₁.setTop fr) (T.setFrames fs)) :
    ∃ s₂ o, Steps p.tables e below (s₁.setTop fr) s₂ ∧ s₂.status = .running ∧ Ended s₂ below o ∧ ∃ v L, o = .returned v ∧ Q v s₂.heap L ∧ FrameEnd s o s₂ L R.cells R.slots :=
  own_lvG X B.notSynchronized (v := none) (fun _ => rfl) hE hQ hk H
theorem own_lvW {cells slots : Nat} {h h0 : Heap} {s₁ : State} {fr : JFrame} {Q : Option Value → Heap → List Loc → Prop} {EL : List (String × Nat)} {vm1 : Vm} {n : Nat} (X : Stand p l e R (s.setVm vm1) m args below meth c T locs cells slots) (hlocks : meth.locks = false) (hS : s.Since vm1 n) (hk0 : n ≤ h.size) {v : Option Value} (hv : meth.sig.returnType = none → v = none) (hE : T.heap = h) (hh : s.heap = h0) (hQ : Q v h locs) (hC : CHr Z EL s.vm h0 T.vm h) (hk : cells ≤ R.cells) (hn : slots ≤ R.slots)
    (H : ∀ fs, (∀ (f : JFrame) (acts : List Action), f.method = m → f.locked = none → f.entered = [] → (doReturn e (T.setTop f) acts v).1 = T.setFrames fs) → Steps p.tables e below (s₁.setTop fr) (T.setFrames fs)) :
    ∃ s₂ o, Steps p.tables e below (s₁.setTop fr) s₂ ∧ s₂.status = .running ∧ Ended s₂ below o ∧ ∃ v L, o = .returned v ∧ Q v s₂.heap L ∧ CHr Z EL s.vm s.heap s₂.vm s₂.heap ∧ ReturnedEndW s o s₂ L R.cells R.slots := by
  subst hE hh
  obtain ⟨fs, hr, hrun, hended, hEnd⟩ := X.leaveW (s := s) hS hk0 hv hlocks
  exact ⟨_, _, H fs hr, hrun, hended, _, _, rfl, hQ, hC, hEnd.1, hEnd.2.1, hEnd.2.2.1, hEnd.2.2.2.mono hk hn⟩
end Own
abbrev Rm (f c s l : Nat) : Room := { frames := f, cells := c, slots := s, locals := l }
abbrev MF (l : Launch) (Z : State) (y : MethodName) (cd : ByteArray) (ml : Nat) (rt : Option FieldType) (R : Room) (a : Array Value) (h0 : Heap) (Q : Option Value → Heap → List Loc → Prop) : Prop :=
  MetFree l y (head1 [Jvm.Cond.code y cd ml rt] R) (fun b U => b = a ∧ Z.Warmed39 U.vm ∧ U.heap = h0) (fun _ _ _ _ _ => True) (fun _ U o U' => ∃ v L, o = .returned v ∧ Q v U'.heap L ∧ FrameEnd U o U' L R.cells R.slots)
theorem own_sF {l : Launch} {Z : State} {y : MethodName} {cd : ByteArray} {ml : Nat} {rt : Option FieldType} {R : Room} {a : Array Value} {h0 : Heap} {Q : Option Value → Heap → List Loc → Prop} {K : String} {L0 : Array Slot} (hpn : plainName K = true) (hK : y.cls = K) (hE : ∀ m, entryFrame m a ml = mkF m 0 L0 [])
    (H : ∀ p e s m below meth c s₁, BodyLoose p l y (head1 [Jvm.Cond.code y cd ml rt] R) cd ml rt e s m a below meth c s₁ → Z.Warmed39 s.vm → s.heap = h0 → p.tables.exec = Jvm.exec → c.code = cd → c.maxLocals = ml → s.vm.findClass K = some m.cls → meth.name = y.name → Stand p l e R s m a below meth c s₁ [] 0 0 → s₁.heap = h0 → (∀ t, Steps p.tables e below (s₁.setTop (mkF m 0 L0 [])) t → Steps p.tables e below (s₁.setTop (entryFrame m a ml)) t) →
      ∃ s₂ o, Steps p.tables e below (s₁.setTop (entryFrame m a ml)) s₂ ∧ s₂.status = .running ∧ Ended s₂ below o ∧ ∃ v L, o = .returned v ∧ Q v s₂.heap L ∧ FrameEnd s o s₂ L R.cells R.slots) : MF l Z y cd ml rt R a h0 Q := by
  subst hK
  refine MetFree.of_bodySF (plainFor_of_name hpn) hisR ?_
  intro p e s m args below meth c s₁ Bd hml0 hP hK
  obtain ⟨rfl, hZ, hh⟩ := hP
  exact H p e s m below meth c s₁ Bd hZ hh Bd.exec Bd.bytes hml0 (findClass_of_methodNamed Bd.named) (name_of_methodNamed Bd.named Bd.method).1 (Stand.of_body Bd) (by rw [← hh, Bd.state]; rfl) (fun t k => castTop (hE m) k)
section Own3
variable {p : Program} {l : Launch} {e : Env} {R : Room} {s : State} {m : MethodId} {args : Array Value} {below : List Frame} {meth : Method} {c : Code} {T : State} {locs : List Loc} {cells slots : Nat} {Z : State} {h : Heap} {own C : String} {index : Nat} {y z : MethodName} {bytes : ByteArray} {maxL : Nat} {ret : Option FieldType} {rm : Room} {Q : Option Value → Heap → List Loc → Prop} {argsL : List Value} {ps : List FieldType} {r : Option FieldType} {a0 : Array Value}
abbrev own_num (rm R : Room) (rest : List Value) (maxL cells slots : Nat) : Bool := Nat.ble (rm.frames + 1) R.frames && (Nat.ble ((rest.map fun v => v.category).sum + (maxL + 11) + rm.locals) R.locals && (Nat.ble (cells + rm.cells) R.cells && Nat.ble (slots + rm.slots) R.slots))
theorem own_numE {rest : List Value} (h : own_num rm R rest maxL cells slots = true) : rm.frames + 1 ≤ R.frames ∧ (rest.map fun v => v.category).sum + (maxL + 11) + rm.locals ≤ R.locals ∧ cells + rm.cells ≤ R.cells ∧ slots + rm.slots ≤ R.slots := by
  simp only [own_num, Bool.and_eq_true] at h
  exact ⟨Nat.le_of_ble_eq_true h.1, Nat.le_of_ble_eq_true h.2.1, Nat.le_of_ble_eq_true h.2.2.1, Nat.le_of_ble_eq_true h.2.2.2⟩
theorem own_cS (C' S' : Nat) (rest : List Value) (pc : Nat) (Ls : Array Slot) (X : Stand p l e R s m args below meth c T locs cells slots) (hx : p.tables.exec = Jvm.exec) (hZ : Z.Warmed39 s.vm) (hown : s.vm.findClass own = some m.cls) (w1 : (Cond.methodLink own index y).before a0 Z = true) (w2 : (Cond.static y).before a0 Z = true) (w3 : (Cond.initialized y.cls).before a0 Z = true) (w4 : (Cond.code y bytes maxL ret).before a0 Z = true)
    (hM : MF l Z y bytes maxL ret rm argsL.toArray h Q) (pd : parseMethodDescriptor y.desc = some ⟨ps, r⟩) (hsz : Ls.size = c.maxLocals) (hd : decode c.code pc = .ok (.invokestatic index, 3)) (hE : T.heap = h) (hl : argsL.length = ps.length) (hc : cells + rm.cells = C') (hs : slots + rm.slots = S') (hn : own_num rm R rest maxL cells slots = true) (hy : y.cls ≠ "java/lang/invoke/MethodHandle" ∧ y.cls ≠ "java/lang/invoke/VarHandle") :
    ∃ (v : Option Value) (T' : State) (L : List Loc), Stand p l e R s m args below meth c T' (locs ++ L) C' S' ∧ Q v T'.heap L ∧ ∀ target, Steps p.tables e below (T'.setTop (mkF m (pc + 3) Ls (v.toList ++ rest))) target → Steps p.tables e below (T.setTop (mkF m pc Ls (argsL.reverse ++ rest))) target := by
  obtain ⟨n1, n2, n3, n4⟩ := own_numE hn
  exact own_cb cells slots rm.cells rm.slots C' S' (Jvm.LawKit.callS X hx hown (mvT hZ w1) (mvT hZ w2) (mvT hZ w3) (mvT hZ w4) hy (backOf (W := (rest.map fun v => v.category).sum) hM hZ w4 w3 n1 n2) (g := mkF m pc Ls (argsL.reverse ++ rest)) rfl hsz (argsL := argsL) (rest := rest) (lenOf pd hl) rfl (Nat.le_of_eq (Nat.zero_add _)) hd (fun _ _ => ⟨rfl, hE, n3, n4⟩)) hc hs
theorem own_cI (C' S' : Nat) (rest : List Value) (pc : Nat) (Ls : Array Slot) {a : Addr} (X : Stand p l e R s m args below meth c T locs cells slots) (hx : p.tables.exec = Jvm.exec) (hZ : Z.Warmed39 s.vm) (hown : s.vm.findClass own = some m.cls) (w1 : (Cond.methodLink own index y).before a0 Z = true) (w2 : (Cond.instanceMethod y).before a0 Z = true) (w3 : (Cond.initialized y.cls).before a0 Z = true) (w4 : (Cond.code y bytes maxL none).before a0 Z = true)
    (hM : MF l Z y bytes maxL none rm (.ref a :: argsL).toArray h Q) (pd : parseMethodDescriptor y.desc = some ⟨ps, r⟩) (hsz : Ls.size = c.maxLocals) (hd : decode c.code pc = .ok (.invokespecial index, 3)) (hE : T.heap = h) (hl : argsL.length = ps.length) (hc : cells + rm.cells = C') (hs : slots + rm.slots = S') (hn : own_num rm R rest maxL cells slots = true) (hy1 : y.name = "<init>") (hy : y.cls ≠ "java/lang/invoke/MethodHandle" ∧ y.cls ≠ "java/lang/invoke/VarHandle") :
    ∃ (v : Option Value) (T' : State) (L : List Loc), Stand p l e R s m args below meth c T' (locs ++ L) C' S' ∧ Q v T'.heap L ∧ ∀ target, Steps p.tables e below (T'.setTop (mkF m (pc + 3) Ls (v.toList ++ rest))) target → Steps p.tables e below (T.setTop (mkF m pc Ls (argsL.reverse ++ .ref a :: rest))) target := by
  obtain ⟨n1, n2, n3, n4⟩ := own_numE hn
  obtain ⟨v, T', L, h1, h2, h3⟩ := own_cb cells slots rm.cells rm.slots C' S' (X.specialBack hx hy1 hown (mvT hZ w1) (mvT hZ w2) (mvT hZ w4) hy (backOf (W := (rest.map fun v => v.category).sum) hM hZ w4 w3 n1 n2) (g := mkF m pc Ls (argsL.reverse ++ .ref a :: rest)) rfl hsz (Steps.refl _) (a := a) (argsL := argsL) (rest := rest) (lenOf pd hl) rfl (Nat.le_of_eq (Nat.zero_add _)) hd (fun _ _ => ⟨rfl, hE, n3, n4⟩)) hc hs
  exact ⟨v, T', L, h1, h2, fun t k => Steps.trans h3 k⟩
theorem own_cV (C' S' : Nat) (rest : List Value) (pc : Nat) (Ls : Array Slot) {b : Addr} (X : Stand p l e R s m args below meth c T locs cells slots) (hx : p.tables.exec = Jvm.exec) (hZ : Z.Warmed39 s.vm) (hown : s.vm.findClass own = some m.cls) (E : Exa Z h b C) (w1 : (Cond.methodLink own index y).before a0 Z = true) (w2 : (Cond.declares y).before a0 Z = true) (hnf : NotFace s y) (ws : (Cond.selects C y z).before a0 Z = true) (wi : (Cond.instanceMethod z).before a0 Z = true) (w3 : (Cond.initialized z.cls).before a0 Z = true) (w4 : (Cond.code z bytes maxL ret).before a0 Z = true)
    (hM : MF l Z z bytes maxL ret rm (.ref b :: argsL).toArray h Q) (pd : parseMethodDescriptor y.desc = some ⟨ps, r⟩) (hsz : Ls.size = c.maxLocals) (hd : decode c.code pc = .ok (.invokevirtual index, 3)) (hE : T.heap = h) (hl : argsL.length = ps.length) (hc : cells + rm.cells = C') (hs : slots + rm.slots = S') (hn : own_num rm R rest maxL cells slots = true) (hy : y.cls ≠ "java/lang/invoke/MethodHandle" ∧ y.cls ≠ "java/lang/invoke/VarHandle") :
    ∃ (v : Option Value) (T' : State) (L : List Loc), Stand p l e R s m args below meth c T' (locs ++ L) C' S' ∧ Q v T'.heap L ∧ ∀ target, Steps p.tables e below (T'.setTop (mkF m (pc + 3) Ls (v.toList ++ rest))) target → Steps p.tables e below (T.setTop (mkF m pc Ls (argsL.reverse ++ .ref b :: rest))) target := by
  obtain ⟨n1, n2, n3, n4⟩ := own_numE hn
  obtain ⟨cq, kq, qa, qb, qc⟩ := isOf hZ hE E
  obtain ⟨v, T', L, h1, h2, h3⟩ := own_cb cells slots rm.cells rm.slots C' S' (X.virtualBack hx hown (mvT hZ w1) (mvT hZ w2) hnf (mvT hZ ws) (mvT hZ wi) hy (backOf (W := (rest.map fun v => v.category).sum) hM hZ w4 w3 n1 n2) qa qc (g := mkF m pc Ls (argsL.reverse ++ .ref b :: rest)) rfl hsz (Steps.refl _) (argsL := argsL) (rest := rest) (lenOf pd hl) rfl (Nat.le_of_eq (Nat.zero_add _)) hd (fun _ _ => ⟨rfl, hE, n3, n4⟩)) hc hs
  exact ⟨v, T', L, h1, h2, fun t k => Steps.trans h3 k⟩
end Own3
section Own4
variable {p : Program} {l : Launch} {e : Env} {R : Room} {s : State} {m : MethodId} {args : Array Value} {below : List Frame} {meth : Method} {c : Code} {T target : State} {locs : List Loc} {cells slots : Nat} {bs : ByteArray} {pc pc' : Nat} {Ls : Array Slot} {st : List Value} {o i : Int} {y : MethodName} {S : Spec} {ml : Nat} {rt : Option FieldType} {s' sa : State} {a' : Array Value} {b' : List Frame}
theorem zi (X : Stand p l e R s m args below meth c T locs cells slots) (B : BodyLoose p l y S bs ml rt e s' m a' b' meth c sa) {k : Nat} {v : Int32} (hd : decode bs pc = .ok (.iload k, 2)) (hl : Ls[k]? = some (.val (.int v))) (hr : Steps p.tables e below (T.setTop (mkF m (pc + 2) Ls (.int v :: st))) target) : Steps p.tables e below (T.setTop (mkF m pc Ls st)) target := XS.iload X.here B.exec rfl (hb B.bytes hd) hl hr
theorem zj (X : Stand p l e R s m args below meth c T locs cells slots) (B : BodyLoose p l y S bs ml rt e s' m a' b' meth c sa) {k : Fin 4} {v : Int32} (hd : decode bs pc = .ok (.iload_n k, 1)) (hl : Ls[k.val]? = some (.val (.int v))) (hr : Steps p.tables e below (T.setTop (mkF m (pc + 1) Ls (.int v :: st))) target) : Steps p.tables e below (T.setTop (mkF m pc Ls st)) target := XS.iloadN X.here B.exec rfl (hb B.bytes hd) hl hr
theorem za (X : Stand p l e R s m args below meth c T locs cells slots) (B : BodyLoose p l y S bs ml rt e s' m a' b' meth c sa) {k : Nat} {v : Value} (hd : decode bs pc = .ok (.aload k, 2)) (hl : Ls[k]? = some (.val v)) (hv : v.isRef = true) (hr : Steps p.tables e below (T.setTop (mkF m (pc + 2) Ls (v :: st))) target) : Steps p.tables e below (T.setTop (mkF m pc Ls st)) target := XS.aload X.here B.exec rfl (hb B.bytes hd) hl hv hr
theorem zb (X : Stand p l e R s m args below meth c T locs cells slots) (B : BodyLoose p l y S bs ml rt e s' m a' b' meth c sa) {k : Fin 4} {v : Value} (hd : decode bs pc = .ok (.aload_n k, 1)) (hl : Ls[k.val]? = some (.val v)) (hv : v.isRef = true) (hr : Steps p.tables e below (T.setTop (mkF m (pc + 1) Ls (v :: st))) target) : Steps p.tables e below (T.setTop (mkF m pc Ls st)) target := XS.aloadN X.here B.exec rfl (hb B.bytes hd) hl hv hr
theorem zc (X : Stand p l e R s m args below meth c T locs cells slots) (B : BodyLoose p l y S bs ml rt e s' m a' b' meth c sa) (hd : decode bs pc = .ok (.iconst i, 1)) (hr : Steps p.tables e below (T.setTop (mkF m (pc + 1) Ls (.int (Int32.ofInt i) :: st))) target) : Steps p.tables e below (T.setTop (mkF m pc Ls st)) target := XS.iconst X.here B.exec rfl (hb B.bytes hd) hr
theorem zd (X : Stand p l e R s m args below meth c T locs cells slots) (B : BodyLoose p l y S bs ml rt e s' m a' b' meth c sa) (hd : decode bs pc = .ok (.bipush i, 2)) (hr : Steps p.tables e below (T.setTop (mkF m (pc + 2) Ls (.int (Int8.ofInt i).toInt32 :: st))) target) : Steps p.tables e below (T.setTop (mkF m pc Ls st)) target := XS.bipush X.here B.exec rfl (hb B.bytes hd) hr
theorem zs (X : Stand p l e R s m args below meth c T locs cells slots) (B : BodyLoose p l y S bs ml rt e s' m a' b' meth c sa) {k : Nat} {v : Int32} {l' : Array Slot} (hd : decode bs pc = .ok (.istore k, 2)) (hl : storeLocals Ls k (.int v) = some l') (hr : Steps p.tables e below (T.setTop (mkF m (pc + 2) l' st)) target) : Steps p.tables e below (T.setTop (mkF m pc Ls (.int v :: st))) target := XS.istore X.here B.exec rfl (hb B.bytes hd) rfl hl hr
theorem zt (X : Stand p l e R s m args below meth c T locs cells slots) (B : BodyLoose p l y S bs ml rt e s' m a' b' meth c sa) {k : Fin 4} {v : Int32} {l' : Array Slot} (hd : decode bs pc = .ok (.istore_n k, 1)) (hl : storeLocals Ls k.val (.int v) = some l') (hr : Steps p.tables e below (T.setTop (mkF m (pc + 1) l' st)) target) : Steps p.tables e below (T.setTop (mkF m pc Ls (.int v :: st))) target := XS.istoreN X.here B.exec rfl (hb B.bytes hd) rfl hl hr
theorem zn (X : Stand p l e R s m args below meth c T locs cells slots) (B : BodyLoose p l y S bs ml rt e s' m a' b' meth c sa) {cd : ClassFile.Cond} {u v : Int32} (hd : decode bs pc = .ok (.if_icmp cd o, 3)) (hc : if_icmp.holds cd u v = false) (hr : Steps p.tables e below (T.setTop (mkF m (pc + 3) Ls st)) target) : Steps p.tables e below (T.setTop (mkF m pc Ls (.int v :: .int u :: st))) target := XS.icmpNo X.here B.exec rfl (hb B.bytes hd) rfl hc hr
theorem zy (X : Stand p l e R s m args below meth c T locs cells slots) (B : BodyLoose p l y S bs ml rt e s' m a' b' meth c sa) {cd : ClassFile.Cond} {u v : Int32} (hd : decode bs pc = .ok (.if_icmp cd o, 3)) (hc : if_icmp.holds cd u v = true) (q : decide (0 ≤ (pc : Int) + o ∧ ((pc : Int) + o).toNat = pc') = true) (hr : Steps p.tables e below (T.setTop (mkF m pc' Ls st)) target) : Steps p.tables e below (T.setTop (mkF m pc Ls (.int v :: .int u :: st))) target := XS.icmpYes X.here B.exec rfl rfl (hb B.bytes hd) rfl hc (of_decide_eq_true q).1 (of_decide_eq_true q).2 hr
theorem zo (X : Stand p l e R s m args below meth c T locs cells slots) (B : BodyLoose p l y S bs ml rt e s' m a' b' meth c sa) {cd : ClassFile.Cond} {u : Int32} (hd : decode bs pc = .ok (.ifCond cd o, 3)) (hc : ifCond.holds cd u = false) (hr : Steps p.tables e below (T.setTop (mkF m (pc + 3) Ls st)) target) : Steps p.tables e below (T.setTop (mkF m pc Ls (.int u :: st))) target := XS.ifNo X.here B.exec rfl (hb B.bytes hd) rfl hc hr
theorem zp (X : Stand p l e R s m args below meth c T locs cells slots) (B : BodyLoose p l y S bs ml rt e s' m a' b' meth c sa) {cd : ClassFile.Cond} {u : Int32} (hd : decode bs pc = .ok (.ifCond cd o, 3)) (hc : ifCond.holds cd u = true) (q : decide (0 ≤ (pc : Int) + o ∧ ((pc : Int) + o).toNat = pc') = true) (hr : Steps p.tables e below (T.setTop (mkF m pc' Ls st)) target) : Steps p.tables e below (T.setTop (mkF m pc Ls (.int u :: st))) target := XS.ifYes X.here B.exec rfl rfl (hb B.bytes hd) rfl hc (of_decide_eq_true q).1 (of_decide_eq_true q).2 hr
theorem zg (X : Stand p l e R s m args below meth c T locs cells slots) (B : BodyLoose p l y S bs ml rt e s' m a' b' meth c sa) (hd : decode bs pc = .ok (.goto o, 3)) (q : decide (0 ≤ (pc : Int) + o ∧ ((pc : Int) + o).toNat = pc') = true) (hr : Steps p.tables e below (T.setTop (mkF m pc' Ls st)) target) : Steps p.tables e below (T.setTop (mkF m pc Ls st)) target := XS.goto X.here B.exec rfl rfl (hb B.bytes hd) (of_decide_eq_true q).1 (of_decide_eq_true q).2 hr
end Own4
abbrev MW (l : Launch) (Z : State) (EL : List (String × Nat)) (y : MethodName) (cd : ByteArray) (ml : Nat) (rt : Option FieldType) (R : Room) (a : Array Value) (h0 : Heap) (Q : Option Value → Heap → List Loc → Prop) : Prop :=
  MetFree l y (head1 [Jvm.Cond.code y cd ml rt] R) (fun b U => b = a ∧ Z.Warmed39 U.vm ∧ U.heap = h0 ∧ CHv Z EL U.vm h0) (fun _ _ _ _ _ => True) (fun _ U o U' => ∃ v L, o = .returned v ∧ Q v U'.heap L ∧ CHr Z EL U.vm U.heap U'.vm U'.heap ∧ ReturnedEndW U o U' L R.cells R.slots)
theorem own_sW {l : Launch} {Z : State} {EL : List (String × Nat)} {y : MethodName} {cd : ByteArray} {ml : Nat} {rt : Option FieldType} {R : Room} {a : Array Value} {h0 : Heap} {Q : Option Value → Heap → List Loc → Prop} {K : String} {L0 : Array Slot} (hpn : plainName K = true) (hK : y.cls = K) (hE : ∀ m, entryFrame m a ml = mkF m 0 L0 [])
    (H : ∀ p e s m below meth c s₁, BodyLoose p l y (head1 [Jvm.Cond.code y cd ml rt] R) cd ml rt e s m a below meth c s₁ → Z.Warmed39 s.vm → s.heap = h0 → p.tables.exec = Jvm.exec → c.code = cd → c.maxLocals = ml → s.vm.findClass K = some m.cls → meth.name = y.name → Stand p l e R (s.setVm s.vm) m a below meth c s₁ [] 0 0 → s₁.heap = h0 → (∀ t, Steps p.tables e below (s₁.setTop (mkF m 0 L0 [])) t → Steps p.tables e below (s₁.setTop (entryFrame m a ml)) t) →
      CHv Z EL s.vm h0 → s.Since s.vm h0.size → h0.size ≤ h0.size → CHr Z EL s.vm h0 s.vm h0 →
      ∃ s₂ o, Steps p.tables e below (s₁.setTop (entryFrame m a ml)) s₂ ∧ s₂.status = .running ∧ Ended s₂ below o ∧ ∃ v L, o = .returned v ∧ Q v s₂.heap L ∧ CHr Z EL s.vm s.heap s₂.vm s₂.heap ∧ ReturnedEndW s o s₂ L R.cells R.slots) : MW l Z EL y cd ml rt R a h0 Q := by
  subst hK
  refine MetFree.of_bodySF (plainFor_of_name hpn) hisR ?_
  intro p e s m args below meth c s₁ Bd hml0 hP hK
  obtain ⟨rfl, hZ, hh, hC0⟩ := hP
  exact H p e s m below meth c s₁ Bd hZ hh Bd.exec Bd.bytes hml0 (findClass_of_methodNamed Bd.named) (name_of_methodNamed Bd.named Bd.method).1 (Stand.of_body Bd) (by rw [← hh, Bd.state]; rfl) (fun t k => castTop (hE m) k) hC0 ((State.WarmedH.refl s).since _) (Nat.le_refl _) (CHr.refl hC0)
theorem own_nf {s : State} {args : Array Value} {y x z : MethodName} {C : String} (h : (Cond.selects C x z).before args s = true) (e : z.cls = y.cls) : NotFace s y := fun r0 h0 => by
  obtain ⟨c2, r2, m2, q1, q2, q3, q4, kP, hkP, hkPi⟩ := Cond.selects_spec h
  have h1 := findClass_of_methodNamed q3
  have h2 := findClass_of_methodNamed h0
  rw [e] at h1
  have e2 : m2.cls = r0.cls := Option.some.inj (h1.symm.trans h2)
  exact ⟨kP, e2 ▸ hkP, hkPi⟩
theorem own_same {s : State} {args : Array Value} {y x z : MethodName} {C : String} (hi : (Cond.instanceMethod y).before args s = true) (h : (Cond.selects C x z).before args s = true) (e : z.cls = y.cls) (hy : y.cls ≠ "java/lang/invoke/MethodHandle" ∧ y.cls ≠ "java/lang/invoke/VarHandle") : (Cond.sameMethod y.cls y.cls y.name y.desc).before args s = true := by
  obtain ⟨mk, methM, hnamed, hmethM, -, -⟩ := Cond.instanceMethod_spec hi
  have hfound : s.methodFound? y.cls y.name y.desc = some mk := State.methodFound?_of_named hnamed hy
  obtain ⟨kr, k1, k2⟩ := own_nf (y := y) h e mk hnamed
  have hc := findClass_of_methodNamed hnamed
  have hn : s.methodNamed? ⟨y.cls, y.name, y.desc⟩ = some mk := hnamed
  simp [Cond.before, Cond.holds, Cond.value, hc, hfound, hn, k1, k2]
theorem own_ws {a0 : Array Value} {Z : State} (hw : ∀ d ∈ tables_1, d.before a0 Z = true) : ∀ d ∈ StrChars.Road.words, d.before a0 Z = true := fun d hd => hw d ((by decide +kernel : ∀ d ∈ StrChars.Road.words, d ∈ tables_1) d hd)
theorem own_wS {a0 : Array Value} {Z : State} (hw : ∀ d ∈ tables_1, d.before a0 Z = true) : ∀ d ∈ Bundle.stringAtoms, d.before a0 Z = true := fun d hd => hw d ((by decide +kernel : ∀ d ∈ Bundle.stringAtoms, d ∈ tables_1) d hd)
theorem own_safe_null {Z : State} {EL : List (String × Nat)} {vm : Vm} {h : Heap} {x : Addr} (hal : Z.vm.Alike vm) (E : Exa Z h x "java/lang/String") (F : Fld Z h x "java/lang/String" "value" "[B" .null) : Safe Z EL vm h x := fun B => by
  obtain ⟨cell, k, e1, e2, e3, -, -⟩ := E
  obtain ⟨cell', cf, k', i, f, f1, f2, f3, -, -, -, f7⟩ := F
  cases e1.symm.trans f1
  obtain ⟨p, -, u, a, -, q, -, G, rfl | rfl⟩ := B
  · cases (show h[q.sa]? = some q.sC from G.ha).symm.trans e1
    obtain ⟨cS, ⟨⟨s1, s2, s3, ⟨cv, kv, iv, s4, s4'⟩, -, s6, s7, s8, -⟩, -, -⟩, -⟩ := G
    obtain ⟨kv', z4⟩ := ff_back (U := Wst Z vm h) hal s4
    cases z4.symm.trans f2
    rw [s8] at f7
    cases f7
  · cases (show h[q.sd]? = some q.SA from G.hd).symm.trans e1
    obtain ⟨cS, -, -, hB, -⟩ := G
    have hB : vm.findClass "[B" = some q.SA.cls := hB
    rw [hal.findClass] at hB
    obtain ⟨k1, q1, q2⟩ := Vm.findClass_spec hB
    obtain ⟨k2, q3, q4⟩ := Vm.findClass_spec e2
    cases q1.symm.trans q3
    exact absurd (q2.symm.trans q4) (by decide)
theorem own_EW {a0 : Array Value} {Z : State} (hw : ∀ d ∈ tables_1, d.before a0 Z = true) : EW Z a0 ([] : List (String × Nat)) := EW.nil
def own_HasE (args : Array Value) (s : State) (t : Term) : Nat → List Value → Prop
  | _, [] => True
  | i, v :: r => (Term.elem t (.int (Int32.ofNat i))).eval args s none [] s = some v ∧ own_HasE args s t (i + 1) r
theorem own_eqv_r {s : State} {args : Array Value} {X F : Term} {a : Addr} (hF : F.eval args s none [] s = some (.ref a)) (h : (Cond.eq X F).value args s none s [] = some true) : X.eval args s none [] s = some (.ref a) := by
  obtain ⟨x, y', e1, e2, k1, k2⟩ := cmp_v (Or.inl h)
  cases hF.symm.trans e2
  have hx : x.isRef = true := k2.2
  exact e1.trans (congrArg some (gotT (eq_R e1 e2 hx rfl) h))
theorem own_hasL {args : Array Value} {s : State} {t : Term} {a : Addr} {c : Cell} (ev : t.eval args s none [] s = some (.ref a)) (hc : s.heap[a]? = some c) : ∀ (vs : List Value) (i : Nat), i + vs.length < 2 ^ 31 → own_HasE args s t i vs → HasL c i vs
  | [], _, _, _ => trivial
  | v :: r, i, hi, ⟨h1, h2⟩ => by
    have hi' : i < 2 ^ 31 := by simp only [List.length_cons] at hi; omega
    have e1 : (Int32.ofNat i).toNatClampNeg = i := by
      have := Int32.toInt_ofNat_small (n := i) (by omega)
      simp only [Int32.toNatClampNeg]; omega
    have q := (elem_in h1 ev rfl hc).2
    rw [e1] at q
    exact ⟨q, own_hasL ev hc r (i + 1) (by simp only [List.length_cons] at hi; omega) h2⟩
theorem own_arr {s : State} {args : Array Value} (hf : Fit s) {t : Term} {a : Addr} {ty : FieldType} {n : Int32} {vs : List Value} {dv : Value} (ev : t.eval args s none [] s = some (.ref a)) (h1 : (Cond.arrayOf t ty).value args s none s [] = some true)
    (h2 : (Term.length t).eval args s none [] s = some (.int n)) (hn : ¬ n < 0) (hl : n.toNatClampNeg = vs.length) (he : own_HasE args s t 0 vs) : ∃ k, Arv s s.heap a k ty n vs dv := by
  obtain ⟨c, A⟩ := Arr.start ev h1
  have ha := A.fin (Vm.Alike.refl _)
  obtain ⟨a', c', e1, e2, e3⟩ := Term.length_spec h2
  cases ev.symm.trans e1
  cases ha.symm.trans e2
  have hsz : c.slots.size < 2 ^ 31 := by
    refine Nat.lt_of_not_le fun q => ?_
    simp [Term.eval, ev, ha, Nat.not_lt.mpr q] at h2
  have hb := (back32 hn).2
  exact ⟨_, Arv.start hf A hsz (Value.int.inj e3).symm hn hl (own_hasL ev A.1 vs 0 (by omega) he)⟩
def OwnEN (Z : State) (Gg0 : Addr) (Gg1 : Addr) (Gg2 : Addr) : Prop := Sta Z Z.heap "com/example/ratatoskr/ratatoskr/criteria/ComparisonOperator" "IS_NULL" "Lcom/example/ratatoskr/ratatoskr/criteria/ComparisonOperator;" (.ref Gg0) ∧ Exa Z Z.heap Gg0 "com/example/ratatoskr/ratatoskr/criteria/ComparisonOperator" ∧ Sta Z Z.heap "com/example/ratatoskr/ratatoskr/criteria/Filter$Junction" "OR" "Lcom/example/ratatoskr/ratatoskr/criteria/Filter$Junction;" (.ref Gg1) ∧ Exa Z Z.heap Gg1 "com/example/ratatoskr/ratatoskr/criteria/Filter$Junction" ∧ Sta Z Z.heap "com/example/ratatoskr/ratatoskr/criteria/Filter$Junction" "AND" "Lcom/example/ratatoskr/ratatoskr/criteria/Filter$Junction;" (.ref Gg2) ∧ Exa Z Z.heap Gg2 "com/example/ratatoskr/ratatoskr/criteria/Filter$Junction" ∧ Fld Z Z.heap Gg0 "com/example/ratatoskr/ratatoskr/criteria/ComparisonOperator" "operand" "Ljava/lang/Class;" .null
theorem ef0 (m : MethodId) (x0 : Int32) (x1 : Int32) (x2 : Int32) (x3 : Int32) : entryFrame m #[.int x0, .int x1, .int x2, .int x3] maxLocals = mkF m 0 #[.val (.int x0), .val (.int x1), .val (.int x2), .val (.int x3), .unset, .unset, .unset, .unset, .unset, .unset, .unset, .unset, .unset, .unset, .unset, .unset, .unset, .unset, .unset, .unset] [] := by first | (simp [entryFrame, mkF, argsToLocals, Value.category, maxLocals]; done) | rfl
theorem pn0 : plainName "com/example/ratatoskr/ratatoskr/criteria/FilterOrPinLaw" = true := by first | (simp [plainName, overriddenIn]; done) | decide +kernel
theorem pd0 : parseMethodDescriptor "([C)V" = some ⟨[(.array .char)], none⟩ := by decide +kernel
theorem ef1 (m : MethodId) (x0 : Addr) (x1 : Addr) (x2 : Addr) : entryFrame m #[.ref x0, .ref x1, .ref x2] 3 = mkF m 0 #[.val (.ref x0), .val (.ref x1), .val (.ref x2)] [] := by first | (simp [entryFrame, mkF, argsToLocals, Value.category]; done) | rfl
theorem pn1 : plainName "com/example/ratatoskr/ratatoskr/criteria/Filter" = true := by first | (simp [plainName, overriddenIn]; done) | decide +kernel
theorem d0_0 : decode prog_13_method_2_code 0 = .ok (.aload_n 0, 1) := by decide +kernel
theorem d0_1 : decode prog_13_method_2_code 1 = .ok (.new 1, 3) := by decide +kernel
theorem d0_4 : decode prog_13_method_2_code 4 = .ok (.dup, 1) := by decide +kernel
theorem d0_5 : decode prog_13_method_2_code 5 = .ok (.aload_n 1, 1) := by decide +kernel
theorem d0_6 : decode prog_13_method_2_code 6 = .ok (.aload_n 2, 1) := by decide +kernel
theorem d0_7 : decode prog_13_method_2_code 7 = .ok (.aconst_null, 1) := by decide +kernel
theorem d0_8 : decode prog_13_method_2_code 8 = .ok (.invokespecial 3, 3) := by decide +kernel
theorem ef2 (m : MethodId) (x0 : Addr) (x1 : Addr) (x2 : Addr) : entryFrame m #[.ref x0, .ref x1, .ref x2, .null] 6 = mkF m 0 #[.val (.ref x0), .val (.ref x1), .val (.ref x2), .val .null, .unset, .unset] [] := by first | (simp [entryFrame, mkF, argsToLocals, Value.category]; done) | rfl
theorem pn2 : plainName "com/example/ratatoskr/ratatoskr/criteria/Filter$Comparison" = true := by first | (simp [plainName, overriddenIn]; done) | decide +kernel
theorem d1_0 : decode prog_14_method_1_code 0 = .ok (.aload_n 0, 1) := by decide +kernel
theorem d1_1 : decode prog_14_method_1_code 1 = .ok (.invokespecial 1, 3) := by decide +kernel
theorem ef3 (m : MethodId) (x0 : Addr) : entryFrame m #[.ref x0] 1 = mkF m 0 #[.val (.ref x0)] [] := by first | (simp [entryFrame, mkF, argsToLocals, Value.category]; done) | rfl
theorem pn3 : plainName "java/lang/Record" = true := by first | (simp [plainName, overriddenIn]; done) | decide +kernel
theorem d2_0 : decode jdk_30_method_1_code 0 = .ok (.aload_n 0, 1) := by decide +kernel
theorem d2_1 : decode jdk_30_method_1_code 1 = .ok (.invokespecial 1, 3) := by decide +kernel
theorem d2_4 : decode jdk_30_method_1_code 4 = .ok (.return_, 1) := by decide +kernel
-- java/lang/Record.<init>()V
def Q1 (Z : State)  (h0 : Heap) (n0 : Nat) (v : Option Value) (h : Heap) (L : List Loc) : Prop := v = none ∧ Fr n0 L ∧ h = h0
theorem rm1 (l : Launch) (Z : State) (a0 : Array Value) (hw : HW a0 Z) (qa1 : Addr) (h0 : Heap) (n0 : Nat) (X00 : Old Z n0 h0)  :
    MF l Z Y0_ jdk_30_method_1_code 1 none (Rm 1 0 0 12) #[.ref qa1] h0 (Q1 Z  h0 n0) := by
 refine own_sF pn3 rfl (fun m => ef3 m qa1) ?_
 intro p e s m below meth c s₁ Bd hZ hh hx hby hml hown hnm X0 e0 pre0
 have N0 := Fr.nil n0
 obtain ⟨T1, X1, e1, st1⟩ := initO X0 hx hZ hown (w50_ hw) (w15_ hw) (w16_ hw) e0 (g := (mkF m 1 #[rv qa1] [.ref qa1])) rfl hml.symm rfl (hb hby d2_1) (by decide) (W := 0) (own_hw rfl) (lE rfl)
 refine own_lvN X1 Bd e1 ⟨rfl, N0, rfl⟩ rfl (fun fs hr => pre0 _ (by
  show Sx p e below s₁ m 0 #[rv qa1] [] _
  refine zb X0 Bd d2_0 rfl rfl ?_
  refine st1 _ ?_
  exact X1.returnOut hx Bd.returns (hb hby d2_4) hr))
theorem pd1 : parseMethodDescriptor "()V" = some ⟨[], none⟩ := by decide +kernel
theorem d1_4 : decode prog_14_method_1_code 4 = .ok (.aload_n 1, 1) := by decide +kernel
theorem d1_5 : decode prog_14_method_1_code 5 = .ok (.ldc 7, 2) := by decide +kernel
theorem d1_7 : decode prog_14_method_1_code 7 = .ok (.invokestatic 9, 3) := by decide +kernel
theorem ef4 (m : MethodId) (x0 : Addr) (x1 : Addr) : entryFrame m #[.ref x0, .ref x1] 2 = mkF m 0 #[.val (.ref x0), .val (.ref x1)] [] := by first | (simp [entryFrame, mkF, argsToLocals, Value.category]; done) | rfl
theorem pn4 : plainName "java/util/Objects" = true := by first | (simp [plainName, overriddenIn]; done) | decide +kernel
theorem d3_0 : decode jdk_31_method_11_code 0 = .ok (.aload_n 0, 1) := by decide +kernel
theorem d3_1 : decode jdk_31_method_11_code 1 = .ok (.ifnonnull 12, 3) := by decide +kernel
theorem d3_13 : decode jdk_31_method_11_code 13 = .ok (.aload_n 0, 1) := by decide +kernel
theorem d3_14 : decode jdk_31_method_11_code 14 = .ok (.areturn, 1) := by decide +kernel
-- java/util/Objects.requireNonNull(Ljava/lang/Object;Ljava/lang/String;)Ljava/lang/Object;
def Q2 (Z : State) (qa1 : Addr) (h0 : Heap) (n0 : Nat) (v : Option Value) (h : Heap) (L : List Loc) : Prop := v = some (.ref qa1) ∧ Fr n0 L ∧ h = h0
theorem rm2 (l : Launch) (Z : State) (a0 : Array Value) (hw : HW a0 Z) (qa1 : Addr) (qa2 : Addr) (h0 : Heap) (n0 : Nat) (X00 : Old Z n0 h0)  :
    MF l Z Y1_ jdk_31_method_11_code 2 (some (.object "java/lang/Object")) (Rm 0 0 0 0) #[.ref qa1, .ref qa2] h0 (Q2 Z qa1 h0 n0) := by
 refine own_sF pn4 rfl (fun m => ef4 m qa1 qa2) ?_
 intro p e s m below meth c s₁ Bd hZ hh hx hby hml hown hnm X0 e0 pre0
 have N0 := Fr.nil n0
 refine own_lvF X0 Bd (.ref qa1) e0 ⟨rfl, N0, rfl⟩ rfl (fun fs hr => pre0 _ (by
  show Sx p e below s₁ m 0 #[rv qa1, rv qa2] [] _
  refine zb X0 Bd d3_0 rfl rfl ?_
  refine XS.ifnonnullYes X0.here hx rfl (pc0 := 1) (pc' := 13) rfl (hb hby d3_1) rfl (by decide) (by decide) ?_
  refine zb X0 Bd d3_13 rfl rfl ?_
  exact retOut X0 hx Bd.returns rfl (Or.inr (Or.inr (Or.inr (Or.inr ⟨rfl, rfl, rfl⟩)))) (hb hby d3_14) hr))
theorem pd2 : parseMethodDescriptor "(Ljava/lang/Object;Ljava/lang/String;)Ljava/lang/Object;" = some ⟨[(.object "java/lang/Object"), (.object "java/lang/String")], some (.object "java/lang/Object")⟩ := by decide +kernel
theorem d1_10 : decode prog_14_method_1_code 10 = .ok (.pop, 1) := by decide +kernel
theorem d1_11 : decode prog_14_method_1_code 11 = .ok (.aload_n 2, 1) := by decide +kernel
theorem d1_12 : decode prog_14_method_1_code 12 = .ok (.ldc 15, 2) := by decide +kernel
theorem d1_14 : decode prog_14_method_1_code 14 = .ok (.invokestatic 9, 3) := by decide +kernel
-- java/util/Objects.requireNonNull(Ljava/lang/Object;Ljava/lang/String;)Ljava/lang/Object;
def Q3 (Z : State) (Gg0 : Addr) (h0 : Heap) (n0 : Nat) (v : Option Value) (h : Heap) (L : List Loc) : Prop := v = some (.ref Gg0) ∧ Fr n0 L ∧ h = h0
theorem rm3 (l : Launch) (Z : State) (a0 : Array Value) (hw : HW a0 Z) (Gg0 : Addr) (Gg1 : Addr) (Gg2 : Addr) (qa1 : Addr) (h0 : Heap) (n0 : Nat) (X00 : Old Z n0 h0) (hEN : OwnEN Z Gg0 Gg1 Gg2) :
    MF l Z Y1_ jdk_31_method_11_code 2 (some (.object "java/lang/Object")) (Rm 0 0 0 0) #[.ref Gg0, .ref qa1] h0 (Q3 Z Gg0 h0 n0) := by
 refine own_sF pn4 rfl (fun m => ef4 m Gg0 qa1) ?_
 intro p e s m below meth c s₁ Bd hZ hh hx hby hml hown hnm X0 e0 pre0
 have N0 := Fr.nil n0
 refine own_lvF X0 Bd (.ref Gg0) e0 ⟨rfl, N0, rfl⟩ rfl (fun fs hr => pre0 _ (by
  show Sx p e below s₁ m 0 #[rv Gg0, rv qa1] [] _
  refine zb X0 Bd d3_0 rfl rfl ?_
  refine XS.ifnonnullYes X0.here hx rfl (pc0 := 1) (pc' := 13) rfl (hb hby d3_1) rfl (by decide) (by decide) ?_
  refine zb X0 Bd d3_13 rfl rfl ?_
  exact retOut X0 hx Bd.returns rfl (Or.inr (Or.inr (Or.inr (Or.inr ⟨rfl, rfl, rfl⟩)))) (hb hby d3_14) hr))
theorem d1_17 : decode prog_14_method_1_code 17 = .ok (.pop, 1) := by decide +kernel
theorem d1_18 : decode prog_14_method_1_code 18 = .ok (.aload_n 2, 1) := by decide +kernel
theorem d1_19 : decode prog_14_method_1_code 19 = .ok (.invokevirtual 17, 3) := by decide +kernel
theorem pn5 : plainName "com/example/ratatoskr/ratatoskr/criteria/ComparisonOperator" = true := by first | (simp [plainName, overriddenIn]; done) | decide +kernel
theorem d4_0 : decode prog_12_method_4_code 0 = .ok (.aload_n 0, 1) := by decide +kernel
theorem d4_1 : decode prog_12_method_4_code 1 = .ok (.getfield 50, 3) := by decide +kernel
theorem d4_4 : decode prog_12_method_4_code 4 = .ok (.areturn, 1) := by decide +kernel
-- com/example/ratatoskr/ratatoskr/criteria/ComparisonOperator.operand()Ljava/lang/Class;
def Q4 (Z : State)  (h0 : Heap) (n0 : Nat) (v : Option Value) (h : Heap) (L : List Loc) : Prop := v = some .null ∧ Fr n0 L ∧ h = h0
theorem rm4 (l : Launch) (Z : State) (a0 : Array Value) (hw : HW a0 Z) (Gg0 : Addr) (Gg1 : Addr) (Gg2 : Addr) (h0 : Heap) (n0 : Nat) (X00 : Old Z n0 h0) (hEN : OwnEN Z Gg0 Gg1 Gg2) :
    MF l Z Y2_ prog_12_method_4_code 1 (some (.object "java/lang/Class")) (Rm 0 0 0 0) #[.ref Gg0] h0 (Q4 Z  h0 n0) := by
 refine own_sF pn5 rfl (fun m => ef3 m Gg0) ?_
 intro p e s m below meth c s₁ Bd hZ hh hx hby hml hown hnm X0 e0 pre0
 have N0 := Fr.nil n0
 obtain ⟨T1, X1, e1, st1⟩ := getF X0 hx hZ hown (host := "") (Or.inl (w64_ hw)) Via.refl e0 (hEN.2.2.2.2.2.2.ext X00.2) (g := (mkF m 1 #[rv Gg0] [.ref Gg0])) rfl rfl (hb hby d4_1)
 refine own_lvF X1 Bd .null e1 ⟨rfl, N0, rfl⟩ rfl (fun fs hr => pre0 _ (by
  show Sx p e below s₁ m 0 #[rv Gg0] [] _
  refine zb X0 Bd d4_0 rfl rfl ?_
  refine st1 _ ?_
  exact retOut X1 hx Bd.returns rfl (Or.inr (Or.inr (Or.inr (Or.inr ⟨rfl, rfl, rfl⟩)))) (hb hby d4_4) hr))
theorem pd3 : parseMethodDescriptor "()Ljava/lang/Class;" = some ⟨[], some (.object "java/lang/Class")⟩ := by decide +kernel
theorem d1_22 : decode prog_14_method_1_code 22 = .ok (.astore 4, 2) := by decide +kernel
theorem d1_24 : decode prog_14_method_1_code 24 = .ok (.aload 4, 2) := by decide +kernel
theorem d1_26 : decode prog_14_method_1_code 26 = .ok (.ifnonnull 24, 3) := by decide +kernel
theorem d1_29 : decode prog_14_method_1_code 29 = .ok (.aload_n 3, 1) := by decide +kernel
theorem d1_30 : decode prog_14_method_1_code 30 = .ok (.ifnull 20, 3) := by decide +kernel
theorem d1_50 : decode prog_14_method_1_code 50 = .ok (.aload 4, 2) := by decide +kernel
theorem d1_52 : decode prog_14_method_1_code 52 = .ok (.ifnull 59, 3) := by decide +kernel
theorem d1_111 : decode prog_14_method_1_code 111 = .ok (.aload_n 3, 1) := by decide +kernel
theorem d1_112 : decode prog_14_method_1_code 112 = .ok (.instanceof 57, 3) := by decide +kernel
theorem d1_115 : decode prog_14_method_1_code 115 = .ok (.ifCond .eq 15, 3) := by decide +kernel
theorem d1_130 : decode prog_14_method_1_code 130 = .ok (.aload_n 0, 1) := by decide +kernel
theorem d1_131 : decode prog_14_method_1_code 131 = .ok (.aload_n 1, 1) := by decide +kernel
theorem d1_132 : decode prog_14_method_1_code 132 = .ok (.putfield 65, 3) := by decide +kernel
theorem d1_135 : decode prog_14_method_1_code 135 = .ok (.aload_n 0, 1) := by decide +kernel
theorem d1_136 : decode prog_14_method_1_code 136 = .ok (.aload_n 2, 1) := by decide +kernel
theorem d1_137 : decode prog_14_method_1_code 137 = .ok (.putfield 68, 3) := by decide +kernel
theorem d1_140 : decode prog_14_method_1_code 140 = .ok (.aload_n 0, 1) := by decide +kernel
theorem d1_141 : decode prog_14_method_1_code 141 = .ok (.aload_n 3, 1) := by decide +kernel
theorem d1_142 : decode prog_14_method_1_code 142 = .ok (.putfield 71, 3) := by decide +kernel
theorem d1_145 : decode prog_14_method_1_code 145 = .ok (.return_, 1) := by decide +kernel
-- com/example/ratatoskr/ratatoskr/criteria/Filter$Comparison.<init>(Ljava/lang/String;Lcom/example/ratatoskr/ratatoskr/criteria/ComparisonOperator;Ljava/lang/Object;)V
def Q5 (Z : State) (Gg0 : Addr) (qa1 : Addr) (qa2 : Addr) (h0 : Heap) (n0 : Nat) (v : Option Value) (h : Heap) (L : List Loc) : Prop := v = none ∧ Fr n0 L ∧ Keep h0 h [qa1] ∧ Exa Z h qa1 "com/example/ratatoskr/ratatoskr/criteria/Filter$Comparison" ∧ Fld Z h qa1 "com/example/ratatoskr/ratatoskr/criteria/Filter$Comparison" "property" "Ljava/lang/String;" (.ref qa2) ∧ Fld Z h qa1 "com/example/ratatoskr/ratatoskr/criteria/Filter$Comparison" "operator" "Lcom/example/ratatoskr/ratatoskr/criteria/ComparisonOperator;" (.ref Gg0) ∧ Fld Z h qa1 "com/example/ratatoskr/ratatoskr/criteria/Filter$Comparison" "value" "Ljava/lang/Object;" .null
theorem rm5 (l : Launch) (Z : State) (a0 : Array Value) (hw : HW a0 Z) (Gg0 : Addr) (Gg1 : Addr) (Gg2 : Addr) (qa1 : Addr) (qa2 : Addr) (h0 : Heap) (n0 : Nat) (X00 : Old Z n0 h0) (hEN : OwnEN Z Gg0 Gg1 Gg2) (E_qa1 : Exa Z h0 qa1 "com/example/ratatoskr/ratatoskr/criteria/Filter$Comparison") (F_qa1_property : Fld Z h0 qa1 "com/example/ratatoskr/ratatoskr/criteria/Filter$Comparison" "property" "Ljava/lang/String;" .null) (g_qa1 : n0 ≤ qa1) (F_qa1_operator : Fld Z h0 qa1 "com/example/ratatoskr/ratatoskr/criteria/Filter$Comparison" "operator" "Lcom/example/ratatoskr/ratatoskr/criteria/ComparisonOperator;" .null) (F_qa1_value : Fld Z h0 qa1 "com/example/ratatoskr/ratatoskr/criteria/Filter$Comparison" "value" "Ljava/lang/Object;" .null) :
    MW l Z ([] : List (String × Nat)) Y3_ prog_14_method_1_code 6 none (Rm 2 4 72 24) #[.ref qa1, .ref qa2, .ref Gg0, .null] h0 (Q5 Z Gg0 qa1 qa2 h0 n0) := by
 refine own_sW pn2 rfl (fun m => ef2 m qa1 qa2 Gg0) ?_
 intro p e s m below meth c s₁ Bd hZ hh hx hby hml hown hnm X0 e0 pre0 hC0 hS0 hk0 hR0
 have N0 := Fr.nil n0
 have hEL := own_EW hw
 have hwS := own_wS hw
 obtain ⟨_, T1, L1, X1, hQ1, st1⟩ := own_cI 0 0 [] 1 #[rv qa1, rv qa2, rv Gg0, .val .null, .unset, .unset] X0 hx hZ hown (w45_ hw) (w46_ hw) (w48_ hw) (w49_ hw) (rm1 l Z a0 hw  qa1 h0 n0 X00 ) pd1 hml.symm (hb hby d1_1) e0 rfl rfl rfl rfl rfl (by decide)
 obtain ⟨rfl, N1q, e1q⟩ := hQ1
 have N1 := Fr.app N0 N1q
 obtain ⟨b2, T2, h2, k2, X2, e2, E2, hS2, hk2, hZ2, ho2, CR2, -, st2⟩ := ldcOH (text := "property") (EL := ([] : List (String × Nat))) X1 hx hZ hown (w51_ hw) hwS e1q hS0 hk0 hEL hC0 (g := (mkF m 5 #[rv qa1, rv qa2, rv Gg0, .val .null, .unset, .unset] [.ref qa2])) rfl (hb hby d1_5) (n := 32) (by decide) (lE rfl) (lE rfl) (lE rfl)
 have K3 := (Keep.refl h0 [qa1]).ext E2
 have R5 := hR0.trans CR2
 replace X2 : Stand p l e (Rm 2 4 72 24) (s.setVm T2.vm) m #[.ref qa1, .ref qa2, .ref Gg0, .null] below meth c T2 _ 2 36 := X2
 have O7 := X00.ext E2
 obtain ⟨_, T6, L6, X6, hQ6, st6⟩ := own_cS 2 36 [] 7 #[rv qa1, rv qa2, rv Gg0, .val .null, .unset, .unset] X2 hx hZ2 ho2 (w54_ hw) (w55_ hw) (w56_ hw) (w57_ hw) (rm2 l Z a0 hw  qa2 b2 h2 n0 O7 ) pd2 hml.symm (hb hby d1_7) e2 rfl rfl rfl rfl (by decide)
 obtain ⟨rfl, N6q, e6q⟩ := hQ6
 have N6 := Fr.app N1 N6q
 obtain ⟨b8, T8, h8, k8, X8, e8, E8, hS8, hk8, hZ8, ho8, CR8, -, st8⟩ := ldcOH (text := "operator") (EL := ([] : List (String × Nat))) X6 hx hZ2 ho2 (w58_ hw) hwS e6q hS2 hk2 hEL CR2.1 (g := (mkF m 12 #[rv qa1, rv qa2, rv Gg0, .val .null, .unset, .unset] [.ref Gg0])) rfl (hb hby d1_12) (n := 32) (by decide) (lE rfl) (lE rfl) (lE rfl)
 have K9 := K3.ext E8
 have R11 := R5.trans CR8
 replace X8 : Stand p l e (Rm 2 4 72 24) (s.setVm T8.vm) m #[.ref qa1, .ref qa2, .ref Gg0, .null] below meth c T8 _ 4 72 := X8
 have O13 := O7.ext E8
 obtain ⟨_, T12, L12, X12, hQ12, st12⟩ := own_cS 4 72 [] 14 #[rv qa1, rv qa2, rv Gg0, .val .null, .unset, .unset] X8 hx hZ8 ho8 (w54_ hw) (w55_ hw) (w56_ hw) (w57_ hw) (rm3 l Z a0 hw Gg0 Gg1 Gg2 b8 h8 n0 O13 hEN) pd2 hml.symm (hb hby d1_14) e8 rfl rfl rfl rfl (by decide)
 obtain ⟨rfl, N12q, e12q⟩ := hQ12
 have N12 := Fr.app N6 N12q
 obtain ⟨_, T14, L14, X14, hQ14, st14⟩ := own_cV 4 72 [] 19 #[rv qa1, rv qa2, rv Gg0, .val .null, .unset, .unset] X12 hx hZ8 ho8 (hEN.2.1.ext O13.2) (w59_ hw) (w60_ hw) (notFace_of_selects (args := #[]) (mvT hZ8 (w62_ hw))) (w62_ hw) (w61_ hw) (w34_ hw) (w63_ hw) (rm4 l Z a0 hw Gg0 Gg1 Gg2  h8 n0 O13 hEN) pd3 hml.symm (hb hby d1_19) e12q rfl rfl rfl rfl (by decide)
 obtain ⟨rfl, N14q, e14q⟩ := hQ14
 have N14 := Fr.app N12 N14q
 have F15_ := F_qa1_property.ext E2
 have F16_ := F15_.ext E8
 have E17_ := E_qa1.ext E2
 have E18_ := E17_.ext E8
 obtain ⟨T19, h19, X19, e19, W19, st19⟩ := putF X14 hx hZ8 ho8 (host := "") (Or.inl (w66_ hw)) Via.refl e14q F16_ E18_ (Or.inr ⟨(w67_ hw), rfl, hnm⟩) (w40_ hw) (ty := (.object "java/lang/String")) (by decide) rfl rfl (g := (mkF m 132 #[rv qa1, rv qa2, rv Gg0, .val .null, .val .null, .unset] [.ref qa2, .ref qa1])) rfl rfl (hb hby d1_132)
 have N19 := Fr.snoc X19 N14 g_qa1
 have K20 := K9.wr W19 (Or.inl (mI 0 rfl))
 have C21 : CHv Z ([] : List (String × Nat)) T8.vm h19 := CHv.wr W19 (Safe.exa hZ8.alike E18_ (by decide) (by decide)) CR8.1
 have R22 : CHr Z ([] : List (String × Nat)) s.vm h0 T8.vm h19 := R11.trans (CHr.wr W19 (Safe.exa hZ8.alike E18_ (by decide) (by decide)) CR8.1)
 have F23_ : Fld Z h19 qa1 "com/example/ratatoskr/ratatoskr/criteria/Filter$Comparison" "property" "Ljava/lang/String;" (.ref qa2) := F16_.same W19
 have F24_ := F_qa1_operator.ext E2
 have F25_ := F24_.ext E8
 have F26_ := F25_.other W19 (Or.inr (slot_ne (Or.inr (w69_ hw)) (Or.inr (w67_ hw)) (by decide) (t := (.object "com/example/ratatoskr/ratatoskr/criteria/ComparisonOperator")) (t' := (.object "java/lang/String")) (by decide) (by decide)))
 have E27_ := E18_.wr W19
 obtain ⟨T28, h28, X28, e28, W28, st28⟩ := putF X19 hx hZ8 ho8 (host := "") (Or.inl (w68_ hw)) Via.refl e19 F26_ E27_ (Or.inr ⟨(w69_ hw), rfl, hnm⟩) (w40_ hw) (ty := (.object "com/example/ratatoskr/ratatoskr/criteria/ComparisonOperator")) (by decide) rfl rfl (g := (mkF m 137 #[rv qa1, rv qa2, rv Gg0, .val .null, .val .null, .unset] [.ref Gg0, .ref qa1])) rfl rfl (hb hby d1_137)
 have N28 := Fr.snoc X28 N19 g_qa1
 have K29 := K20.wr W28 (Or.inl (mI 0 rfl))
 have C30 : CHv Z ([] : List (String × Nat)) T8.vm h28 := CHv.wr W28 (Safe.exa hZ8.alike E27_ (by decide) (by decide)) C21
 have R31 : CHr Z ([] : List (String × Nat)) s.vm h0 T8.vm h28 := R22.trans (CHr.wr W28 (Safe.exa hZ8.alike E27_ (by decide) (by decide)) C21)
 have F32_ : Fld Z h28 qa1 "com/example/ratatoskr/ratatoskr/criteria/Filter$Comparison" "operator" "Lcom/example/ratatoskr/ratatoskr/criteria/ComparisonOperator;" (.ref Gg0) := F26_.same W28
 have F33_ := F_qa1_value.ext E2
 have F34_ := F33_.ext E8
 have F35_ := F34_.other W19 (Or.inr (slot_ne (Or.inr (w71_ hw)) (Or.inr (w67_ hw)) (by decide) (t := (.object "java/lang/Object")) (t' := (.object "java/lang/String")) (by decide) (by decide)))
 have F36_ := F35_.other W28 (Or.inr (slot_ne (Or.inr (w71_ hw)) (Or.inr (w69_ hw)) (by decide) (t := (.object "java/lang/Object")) (t' := (.object "com/example/ratatoskr/ratatoskr/criteria/ComparisonOperator")) (by decide) (by decide)))
 have E37_ := E27_.wr W28
 obtain ⟨T38, h38, X38, e38, W38, st38⟩ := putF X28 hx hZ8 ho8 (host := "") (Or.inl (w70_ hw)) Via.refl e28 F36_ E37_ (Or.inr ⟨(w71_ hw), rfl, hnm⟩) (w40_ hw) (ty := (.object "java/lang/Object")) (by decide) rfl rfl (g := (mkF m 142 #[rv qa1, rv qa2, rv Gg0, .val .null, .val .null, .unset] [.null, .ref qa1])) rfl rfl (hb hby d1_142)
 have N38 := Fr.snoc X38 N28 g_qa1
 have K39 := K29.wr W38 (Or.inl (mI 0 rfl))
 have C40 : CHv Z ([] : List (String × Nat)) T8.vm h38 := CHv.wr W38 (Safe.exa hZ8.alike E37_ (by decide) (by decide)) C30
 have R41 : CHr Z ([] : List (String × Nat)) s.vm h0 T8.vm h38 := R31.trans (CHr.wr W38 (Safe.exa hZ8.alike E37_ (by decide) (by decide)) C30)
 have F42_ : Fld Z h38 qa1 "com/example/ratatoskr/ratatoskr/criteria/Filter$Comparison" "value" "Ljava/lang/Object;" .null := F36_.same W38
 have E43_ := E37_.wr W38
 have F44_ := F23_.other W28 (Or.inr (slot_ne (Or.inr (w67_ hw)) (Or.inr (w69_ hw)) (by decide) (t := (.object "java/lang/String")) (t' := (.object "com/example/ratatoskr/ratatoskr/criteria/ComparisonOperator")) (by decide) (by decide)))
 have F45_ := F44_.other W38 (Or.inr (slot_ne (Or.inr (w67_ hw)) (Or.inr (w71_ hw)) (by decide) (t := (.object "java/lang/String")) (t' := (.object "java/lang/Object")) (by decide) (by decide)))
 have F46_ := F32_.other W38 (Or.inr (slot_ne (Or.inr (w69_ hw)) (Or.inr (w71_ hw)) (by decide) (t := (.object "com/example/ratatoskr/ratatoskr/criteria/ComparisonOperator")) (t' := (.object "java/lang/Object")) (by decide) (by decide)))
 have hk47' : _ ≤ h38.size := (Nat.le_trans (Nat.le_trans (Nat.le_trans hk8 (Nat.le_of_eq W19.size.symm)) (Nat.le_of_eq W28.size.symm)) (Nat.le_of_eq W38.size.symm))
 refine own_lvW X38 Bd.notSynchronized hS8 hk47' (v := none) (fun _ => rfl) e38 hh ⟨rfl, N38, K39, E43_, F45_, F46_, F42_⟩ (R41.trans (CHv.at X38 hZ8 hEL C40)) (lE rfl) (lE rfl) (fun fs hr => pre0 _ (by
  show Sx p e below s₁ m 0 #[rv qa1, rv qa2, rv Gg0, .val .null, .unset, .unset] [] _
  refine zb X0 Bd d1_0 rfl rfl ?_
  refine st1 _ ?_
  refine zb X1 Bd d1_4 rfl rfl ?_
  refine st2 _ ?_
  refine st6 _ ?_
  refine XS.pop X6.here hx rfl (hb hby d1_10) rfl rfl ?_
  refine zb X6 Bd d1_11 rfl rfl ?_
  refine st8 _ ?_
  refine st12 _ ?_
  refine XS.pop X12.here hx rfl (hb hby d1_17) rfl rfl ?_
  refine zb X12 Bd d1_18 rfl rfl ?_
  refine st14 _ ?_
  refine XS.astore X14.here hx rfl (hb hby d1_22) rfl rfl (l' := #[rv qa1, rv qa2, rv Gg0, .val .null, .val .null, .unset]) rfl ?_
  refine za X14 Bd d1_24 rfl rfl ?_
  refine XS.ifnonnullNo X14.here hx rfl (hb hby d1_26) rfl ?_
  refine zb X14 Bd d1_29 rfl rfl ?_
  refine XS.ifnullYes X14.here hx rfl (pc0 := 30) (pc' := 50) rfl (hb hby d1_30) rfl (by decide) (by decide) ?_
  refine za X14 Bd d1_50 rfl rfl ?_
  refine XS.ifnullYes X14.here hx rfl (pc0 := 52) (pc' := 111) rfl (hb hby d1_52) rfl (by decide) (by decide) ?_
  refine zb X14 Bd d1_111 rfl rfl ?_
  refine X14.instanceofNull hx (g := (mkF m 112 #[rv qa1, rv qa2, rv Gg0, .val .null, .val .null, .unset] [.null])) rfl rfl (hb hby d1_112) _ ?_
  refine zp (pc' := 130) X14 Bd d1_115 (XT.i0_eq_t ((by decide) : (0 : Int32) = (0 : Int32))) rfl ?_
  refine zb X14 Bd d1_130 rfl rfl ?_
  refine zb X14 Bd d1_131 rfl rfl ?_
  refine st19 _ ?_
  show Sx p e below T19 m 135 #[rv qa1, rv qa2, rv Gg0, .val .null, .val .null, .unset] [] _
  refine zb X19 Bd d1_135 rfl rfl ?_
  refine zb X19 Bd d1_136 rfl rfl ?_
  refine st28 _ ?_
  refine zb X28 Bd d1_140 rfl rfl ?_
  refine zb X28 Bd d1_141 rfl rfl ?_
  refine st38 _ ?_
  exact X38.returnOut hx Bd.returns (hb hby d1_145) hr))
theorem pd4 : parseMethodDescriptor "(Ljava/lang/String;Lcom/example/ratatoskr/ratatoskr/criteria/ComparisonOperator;Ljava/lang/Object;)V" = some ⟨[(.object "java/lang/String"), (.object "com/example/ratatoskr/ratatoskr/criteria/ComparisonOperator"), (.object "java/lang/Object")], none⟩ := by decide +kernel
theorem d0_11 : decode prog_13_method_2_code 11 = .ok (.invokespecial 7, 3) := by decide +kernel
theorem d5_0 : decode prog_13_method_3_code 0 = .ok (.aload_n 0, 1) := by decide +kernel
theorem d5_1 : decode prog_13_method_3_code 1 = .ok (.invokespecial 12, 3) := by decide +kernel
theorem d5_4 : decode prog_13_method_3_code 4 = .ok (.aload_n 0, 1) := by decide +kernel
theorem d5_5 : decode prog_13_method_3_code 5 = .ok (.aload_n 1, 1) := by decide +kernel
theorem d5_6 : decode prog_13_method_3_code 6 = .ok (.putfield 17, 3) := by decide +kernel
theorem d5_9 : decode prog_13_method_3_code 9 = .ok (.aload_n 0, 1) := by decide +kernel
theorem d5_10 : decode prog_13_method_3_code 10 = .ok (.aconst_null, 1) := by decide +kernel
theorem d5_11 : decode prog_13_method_3_code 11 = .ok (.putfield 21, 3) := by decide +kernel
theorem d5_14 : decode prog_13_method_3_code 14 = .ok (.aload_n 0, 1) := by decide +kernel
theorem d5_15 : decode prog_13_method_3_code 15 = .ok (.aconst_null, 1) := by decide +kernel
theorem d5_16 : decode prog_13_method_3_code 16 = .ok (.putfield 25, 3) := by decide +kernel
theorem d5_19 : decode prog_13_method_3_code 19 = .ok (.aload_n 0, 1) := by decide +kernel
theorem d5_20 : decode prog_13_method_3_code 20 = .ok (.aconst_null, 1) := by decide +kernel
theorem d5_21 : decode prog_13_method_3_code 21 = .ok (.putfield 29, 3) := by decide +kernel
theorem d5_24 : decode prog_13_method_3_code 24 = .ok (.return_, 1) := by decide +kernel
-- com/example/ratatoskr/ratatoskr/criteria/Filter.<init>(Lcom/example/ratatoskr/ratatoskr/criteria/Filter$Comparison;)V
def Q6 (Z : State) (qa1 : Addr) (qa2 : Addr) (h0 : Heap) (n0 : Nat) (v : Option Value) (h : Heap) (L : List Loc) : Prop := v = none ∧ Fr n0 L ∧ Keep h0 h [qa1] ∧ Exa Z h qa1 "com/example/ratatoskr/ratatoskr/criteria/Filter" ∧ Fld Z h qa1 "com/example/ratatoskr/ratatoskr/criteria/Filter" "comparison" "Lcom/example/ratatoskr/ratatoskr/criteria/Filter$Comparison;" (.ref qa2) ∧ Fld Z h qa1 "com/example/ratatoskr/ratatoskr/criteria/Filter" "left" "Lcom/example/ratatoskr/ratatoskr/criteria/Filter;" .null ∧ Fld Z h qa1 "com/example/ratatoskr/ratatoskr/criteria/Filter" "junction" "Lcom/example/ratatoskr/ratatoskr/criteria/Filter$Junction;" .null ∧ Fld Z h qa1 "com/example/ratatoskr/ratatoskr/criteria/Filter" "right" "Lcom/example/ratatoskr/ratatoskr/criteria/Filter;" .null
theorem rm6 (l : Launch) (Z : State) (a0 : Array Value) (hw : HW a0 Z) (qa1 : Addr) (qa2 : Addr) (h0 : Heap) (n0 : Nat) (X00 : Old Z n0 h0) (E_qa1 : Exa Z h0 qa1 "com/example/ratatoskr/ratatoskr/criteria/Filter") (F_qa1_comparison : Fld Z h0 qa1 "com/example/ratatoskr/ratatoskr/criteria/Filter" "comparison" "Lcom/example/ratatoskr/ratatoskr/criteria/Filter$Comparison;" .null) (g_qa1 : n0 ≤ qa1) (F_qa1_left : Fld Z h0 qa1 "com/example/ratatoskr/ratatoskr/criteria/Filter" "left" "Lcom/example/ratatoskr/ratatoskr/criteria/Filter;" .null) (F_qa1_junction : Fld Z h0 qa1 "com/example/ratatoskr/ratatoskr/criteria/Filter" "junction" "Lcom/example/ratatoskr/ratatoskr/criteria/Filter$Junction;" .null) (F_qa1_right : Fld Z h0 qa1 "com/example/ratatoskr/ratatoskr/criteria/Filter" "right" "Lcom/example/ratatoskr/ratatoskr/criteria/Filter;" .null) :
    MF l Z Y4_ prog_13_method_3_code 2 none (Rm 1 0 0 12) #[.ref qa1, .ref qa2] h0 (Q6 Z qa1 qa2 h0 n0) := by
 refine own_sF pn1 rfl (fun m => ef4 m qa1 qa2) ?_
 intro p e s m below meth c s₁ Bd hZ hh hx hby hml hown hnm X0 e0 pre0
 have N0 := Fr.nil n0
 obtain ⟨T1, X1, e1, st1⟩ := initO X0 hx hZ hown (w75_ hw) (w15_ hw) (w16_ hw) e0 (g := (mkF m 1 #[rv qa1, rv qa2] [.ref qa1])) rfl hml.symm rfl (hb hby d5_1) (by decide) (W := 0) (own_hw rfl) (lE rfl)
 obtain ⟨T2, h2, X2, e2, W2, st2⟩ := putF X1 hx hZ hown (host := "") (Or.inl (w76_ hw)) Via.refl e1 F_qa1_comparison E_qa1 (Or.inr ⟨(w77_ hw), rfl, hnm⟩) (w2_ hw) (ty := (.object "com/example/ratatoskr/ratatoskr/criteria/Filter$Comparison")) (by decide) rfl rfl (g := (mkF m 6 #[rv qa1, rv qa2] [.ref qa2, .ref qa1])) rfl rfl (hb hby d5_6)
 have N2 := Fr.snoc X2 N0 g_qa1
 have K3 := (Keep.refl h0 [qa1]).wr W2 (Or.inl (mI 0 rfl))
 have F4_ : Fld Z h2 qa1 "com/example/ratatoskr/ratatoskr/criteria/Filter" "comparison" "Lcom/example/ratatoskr/ratatoskr/criteria/Filter$Comparison;" (.ref qa2) := F_qa1_comparison.same W2
 have F5_ := F_qa1_left.other W2 (Or.inr (slot_ne (Or.inr (w79_ hw)) (Or.inr (w77_ hw)) (by decide) (t := (.object "com/example/ratatoskr/ratatoskr/criteria/Filter")) (t' := (.object "com/example/ratatoskr/ratatoskr/criteria/Filter$Comparison")) (by decide) (by decide)))
 have E6_ := E_qa1.wr W2
 obtain ⟨T7, h7, X7, e7, W7, st7⟩ := putF X2 hx hZ hown (host := "") (Or.inl (w78_ hw)) Via.refl e2 F5_ E6_ (Or.inr ⟨(w79_ hw), rfl, hnm⟩) (w2_ hw) (ty := (.object "com/example/ratatoskr/ratatoskr/criteria/Filter")) (by decide) rfl rfl (g := (mkF m 11 #[rv qa1, rv qa2] [.null, .ref qa1])) rfl rfl (hb hby d5_11)
 have N7 := Fr.snoc X7 N2 g_qa1
 have K8 := K3.wr W7 (Or.inl (mI 0 rfl))
 have F9_ : Fld Z h7 qa1 "com/example/ratatoskr/ratatoskr/criteria/Filter" "left" "Lcom/example/ratatoskr/ratatoskr/criteria/Filter;" .null := F5_.same W7
 have F10_ := F_qa1_junction.other W2 (Or.inr (slot_ne (Or.inr (w81_ hw)) (Or.inr (w77_ hw)) (by decide) (t := (.object "com/example/ratatoskr/ratatoskr/criteria/Filter$Junction")) (t' := (.object "com/example/ratatoskr/ratatoskr/criteria/Filter$Comparison")) (by decide) (by decide)))
 have F11_ := F10_.other W7 (Or.inr (slot_ne (Or.inr (w81_ hw)) (Or.inr (w79_ hw)) (by decide) (t := (.object "com/example/ratatoskr/ratatoskr/criteria/Filter$Junction")) (t' := (.object "com/example/ratatoskr/ratatoskr/criteria/Filter")) (by decide) (by decide)))
 have E12_ := E6_.wr W7
 obtain ⟨T13, h13, X13, e13, W13, st13⟩ := putF X7 hx hZ hown (host := "") (Or.inl (w80_ hw)) Via.refl e7 F11_ E12_ (Or.inr ⟨(w81_ hw), rfl, hnm⟩) (w2_ hw) (ty := (.object "com/example/ratatoskr/ratatoskr/criteria/Filter$Junction")) (by decide) rfl rfl (g := (mkF m 16 #[rv qa1, rv qa2] [.null, .ref qa1])) rfl rfl (hb hby d5_16)
 have N13 := Fr.snoc X13 N7 g_qa1
 have K14 := K8.wr W13 (Or.inl (mI 0 rfl))
 have F15_ : Fld Z h13 qa1 "com/example/ratatoskr/ratatoskr/criteria/Filter" "junction" "Lcom/example/ratatoskr/ratatoskr/criteria/Filter$Junction;" .null := F11_.same W13
 have F16_ := F_qa1_right.other W2 (Or.inr (slot_ne (Or.inr (w83_ hw)) (Or.inr (w77_ hw)) (by decide) (t := (.object "com/example/ratatoskr/ratatoskr/criteria/Filter")) (t' := (.object "com/example/ratatoskr/ratatoskr/criteria/Filter$Comparison")) (by decide) (by decide)))
 have F17_ := F16_.other W7 (Or.inr (slot_ne (Or.inr (w83_ hw)) (Or.inr (w79_ hw)) (by decide) (t := (.object "com/example/ratatoskr/ratatoskr/criteria/Filter")) (t' := (.object "com/example/ratatoskr/ratatoskr/criteria/Filter")) (by decide) (by decide)))
 have F18_ := F17_.other W13 (Or.inr (slot_ne (Or.inr (w83_ hw)) (Or.inr (w81_ hw)) (by decide) (t := (.object "com/example/ratatoskr/ratatoskr/criteria/Filter")) (t' := (.object "com/example/ratatoskr/ratatoskr/criteria/Filter$Junction")) (by decide) (by decide)))
 have E19_ := E12_.wr W13
 obtain ⟨T20, h20, X20, e20, W20, st20⟩ := putF X13 hx hZ hown (host := "") (Or.inl (w82_ hw)) Via.refl e13 F18_ E19_ (Or.inr ⟨(w83_ hw), rfl, hnm⟩) (w2_ hw) (ty := (.object "com/example/ratatoskr/ratatoskr/criteria/Filter")) (by decide) rfl rfl (g := (mkF m 21 #[rv qa1, rv qa2] [.null, .ref qa1])) rfl rfl (hb hby d5_21)
 have N20 := Fr.snoc X20 N13 g_qa1
 have K21 := K14.wr W20 (Or.inl (mI 0 rfl))
 have F22_ : Fld Z h20 qa1 "com/example/ratatoskr/ratatoskr/criteria/Filter" "right" "Lcom/example/ratatoskr/ratatoskr/criteria/Filter;" .null := F18_.same W20
 have E23_ := E19_.wr W20
 have F24_ := F4_.other W7 (Or.inr (slot_ne (Or.inr (w77_ hw)) (Or.inr (w79_ hw)) (by decide) (t := (.object "com/example/ratatoskr/ratatoskr/criteria/Filter$Comparison")) (t' := (.object "com/example/ratatoskr/ratatoskr/criteria/Filter")) (by decide) (by decide)))
 have F25_ := F24_.other W13 (Or.inr (slot_ne (Or.inr (w77_ hw)) (Or.inr (w81_ hw)) (by decide) (t := (.object "com/example/ratatoskr/ratatoskr/criteria/Filter$Comparison")) (t' := (.object "com/example/ratatoskr/ratatoskr/criteria/Filter$Junction")) (by decide) (by decide)))
 have F26_ := F25_.other W20 (Or.inr (slot_ne (Or.inr (w77_ hw)) (Or.inr (w83_ hw)) (by decide) (t := (.object "com/example/ratatoskr/ratatoskr/criteria/Filter$Comparison")) (t' := (.object "com/example/ratatoskr/ratatoskr/criteria/Filter")) (by decide) (by decide)))
 have F27_ := F9_.other W13 (Or.inr (slot_ne (Or.inr (w79_ hw)) (Or.inr (w81_ hw)) (by decide) (t := (.object "com/example/ratatoskr/ratatoskr/criteria/Filter")) (t' := (.object "com/example/ratatoskr/ratatoskr/criteria/Filter$Junction")) (by decide) (by decide)))
 have F28_ := F27_.other W20 (Or.inr (slot_ne (Or.inr (w79_ hw)) (Or.inr (w83_ hw)) (by decide) (t := (.object "com/example/ratatoskr/ratatoskr/criteria/Filter")) (t' := (.object "com/example/ratatoskr/ratatoskr/criteria/Filter")) (by decide) (by decide)))
 have F29_ := F15_.other W20 (Or.inr (slot_ne (Or.inr (w81_ hw)) (Or.inr (w83_ hw)) (by decide) (t := (.object "com/example/ratatoskr/ratatoskr/criteria/Filter$Junction")) (t' := (.object "com/example/ratatoskr/ratatoskr/criteria/Filter")) (by decide) (by decide)))
 refine own_lvN X20 Bd e20 ⟨rfl, N20, K21, E23_, F26_, F28_, F29_, F22_⟩ rfl (fun fs hr => pre0 _ (by
  show Sx p e below s₁ m 0 #[rv qa1, rv qa2] [] _
  refine zb X0 Bd d5_0 rfl rfl ?_
  refine st1 _ ?_
  refine zb X1 Bd d5_4 rfl rfl ?_
  refine zb X1 Bd d5_5 rfl rfl ?_
  refine st2 _ ?_
  refine zb X2 Bd d5_9 rfl rfl ?_
  refine XS.aconstNull X2.here hx rfl (hb hby d5_10) ?_
  refine st7 _ ?_
  refine zb X7 Bd d5_14 rfl rfl ?_
  refine XS.aconstNull X7.here hx rfl (hb hby d5_15) ?_
  refine st13 _ ?_
  refine zb X13 Bd d5_19 rfl rfl ?_
  refine XS.aconstNull X13.here hx rfl (hb hby d5_20) ?_
  refine st20 _ ?_
  exact X20.returnOut hx Bd.returns (hb hby d5_24) hr))
theorem pd5 : parseMethodDescriptor "(Lcom/example/ratatoskr/ratatoskr/criteria/Filter$Comparison;)V" = some ⟨[(.object "com/example/ratatoskr/ratatoskr/criteria/Filter$Comparison")], none⟩ := by decide +kernel
theorem d0_14 : decode prog_13_method_2_code 14 = .ok (.return_, 1) := by decide +kernel
-- com/example/ratatoskr/ratatoskr/criteria/Filter.<init>(Ljava/lang/String;Lcom/example/ratatoskr/ratatoskr/criteria/ComparisonOperator;)V
def Q7 (Z : State) (Gg0 : Addr) (qa1 : Addr) (qa2 : Addr) (h0 : Heap) (n0 : Nat) (v : Option Value) (h : Heap) (L : List Loc) : Prop := ∃ b1 : Addr, v = none ∧ Fr n0 L ∧ Keep h0 h [qa1] ∧ h0.size ≤ b1 ∧ Exa Z h qa1 "com/example/ratatoskr/ratatoskr/criteria/Filter" ∧ Fld Z h qa1 "com/example/ratatoskr/ratatoskr/criteria/Filter" "comparison" "Lcom/example/ratatoskr/ratatoskr/criteria/Filter$Comparison;" (.ref b1) ∧ Fld Z h qa1 "com/example/ratatoskr/ratatoskr/criteria/Filter" "left" "Lcom/example/ratatoskr/ratatoskr/criteria/Filter;" .null ∧ Fld Z h qa1 "com/example/ratatoskr/ratatoskr/criteria/Filter" "junction" "Lcom/example/ratatoskr/ratatoskr/criteria/Filter$Junction;" .null ∧ Fld Z h qa1 "com/example/ratatoskr/ratatoskr/criteria/Filter" "right" "Lcom/example/ratatoskr/ratatoskr/criteria/Filter;" .null ∧ Exa Z h b1 "com/example/ratatoskr/ratatoskr/criteria/Filter$Comparison" ∧ Fld Z h b1 "com/example/ratatoskr/ratatoskr/criteria/Filter$Comparison" "property" "Ljava/lang/String;" (.ref qa2) ∧ Fld Z h b1 "com/example/ratatoskr/ratatoskr/criteria/Filter$Comparison" "operator" "Lcom/example/ratatoskr/ratatoskr/criteria/ComparisonOperator;" (.ref Gg0) ∧ Fld Z h b1 "com/example/ratatoskr/ratatoskr/criteria/Filter$Comparison" "value" "Ljava/lang/Object;" .null
theorem rm7 (l : Launch) (Z : State) (a0 : Array Value) (hw : HW a0 Z) (Gg0 : Addr) (Gg1 : Addr) (Gg2 : Addr) (qa1 : Addr) (qa2 : Addr) (h0 : Heap) (n0 : Nat) (X00 : Old Z n0 h0) (hEN : OwnEN Z Gg0 Gg1 Gg2) (E_qa1 : Exa Z h0 qa1 "com/example/ratatoskr/ratatoskr/criteria/Filter") (F_qa1_comparison : Fld Z h0 qa1 "com/example/ratatoskr/ratatoskr/criteria/Filter" "comparison" "Lcom/example/ratatoskr/ratatoskr/criteria/Filter$Comparison;" .null) (g_qa1 : n0 ≤ qa1) (F_qa1_left : Fld Z h0 qa1 "com/example/ratatoskr/ratatoskr/criteria/Filter" "left" "Lcom/example/ratatoskr/ratatoskr/criteria/Filter;" .null) (F_qa1_junction : Fld Z h0 qa1 "com/example/ratatoskr/ratatoskr/criteria/Filter" "junction" "Lcom/example/ratatoskr/ratatoskr/criteria/Filter$Junction;" .null) (F_qa1_right : Fld Z h0 qa1 "com/example/ratatoskr/ratatoskr/criteria/Filter" "right" "Lcom/example/ratatoskr/ratatoskr/criteria/Filter;" .null) :
    MW l Z ([] : List (String × Nat)) Y5_ prog_13_method_2_code 3 none (Rm 3 5 75 43) #[.ref qa1, .ref qa2, .ref Gg0] h0 (Q7 Z Gg0 qa1 qa2 h0 n0) := by
 refine own_sW pn1 rfl (fun m => ef1 m qa1 qa2 Gg0) ?_
 intro p e s m below meth c s₁ Bd hZ hh hx hby hml hown hnm X0 e0 pre0 hC0 hS0 hk0 hR0
 have N0 := Fr.nil n0
 have hEL := own_EW hw
 have hwS := own_wS hw
 obtain ⟨T1, h1, X1, e1, E1, A1, D1, -, st1⟩ := newO X0 hx hZ hown (w39_ hw) (w40_ hw) (w41_ hw) e0 (g := (mkF m 1 #[rv qa1, rv qa2, rv Gg0] [.ref qa1])) rfl (hb hby d0_1) (lE rfl) (lE rfl)
 obtain ⟨b1, g1⟩ : ∃ z, z = h0.size := ⟨_, rfl⟩
 rw [← g1] at A1 D1 st1
 replace X1 : Stand p l e (Rm 3 5 75 43) (s.setVm s.vm) m #[.ref qa1, .ref qa2, .ref Gg0] below meth c T1 _ 1 3 := X1
 have K2 := (Keep.refl h0 [qa1]).ext E1
 have C3 : CHv Z ([] : List (String × Nat)) s.vm h1 := CHv.ext E1 hC0
 have R4 : CHr Z ([] : List (String × Nat)) s.vm h0 s.vm h1 := hR0.trans (CHr.ext E1 hC0)
 have F5_ : Fld Z h1 b1 "com/example/ratatoskr/ratatoskr/criteria/Filter$Comparison" "property" "Ljava/lang/String;" .null := D1 (Or.inr (w67_ hw)) (ty := (.object "java/lang/String")) (by decide)
 have F6_ : Fld Z h1 b1 "com/example/ratatoskr/ratatoskr/criteria/Filter$Comparison" "operator" "Lcom/example/ratatoskr/ratatoskr/criteria/ComparisonOperator;" .null := D1 (Or.inr (w69_ hw)) (ty := (.object "com/example/ratatoskr/ratatoskr/criteria/ComparisonOperator")) (by decide)
 have F7_ : Fld Z h1 b1 "com/example/ratatoskr/ratatoskr/criteria/Filter$Comparison" "value" "Ljava/lang/Object;" .null := D1 (Or.inr (w71_ hw)) (ty := (.object "java/lang/Object")) (by decide)
 have g_b1 : n0 ≤ b1 := Nat.le_trans (Nat.le_trans (Nat.le_of_eq X00.1.symm) X00.2.1) (Nat.le_of_eq g1.symm)
 have O9 := X00.ext E1
 have hk10' : _ ≤ h1.size := (Nat.le_trans hk0 E1.1)
 obtain ⟨_, T8, L8, X8, hQ8, hS8, hZ8, ho8, CR8, st8⟩ := own_cbS 1 3 4 72 5 75 (X1.specialBackS hx (y := Y3_) rfl hown (mvT hZ (w42_ hw)) (mvT hZ (w43_ hw)) (mvT hZ (w44_ hw)) (by decide) (backOfSH (W := 2) (EL := ([] : List (String × Nat))) (s := s) (rm5 l Z a0 hw Gg0 Gg1 Gg2 b1 qa2 h1 n0 O9 hEN A1 F5_ g_b1 F6_ F7_) hZ (w44_ hw) (w41_ hw) (lE rfl) (lE rfl) hEL C3) (g := (mkF m 8 #[rv qa1, rv qa2, rv Gg0] [.null, .ref Gg0, .ref qa2, .ref b1, .ref b1, .ref qa1])) rfl hml.symm (Steps.refl _) (a := b1) (argsL := [.ref qa2, .ref Gg0, .null]) (rest := [.ref b1, .ref qa1]) (lenOf pd4 rfl) rfl (own_hw rfl) (hb hby d0_8) (fun _ _ => ⟨rfl, e1, (lE rfl : 1 + 4 ≤ _), (lE rfl : 3 + 72 ≤ _)⟩)) rfl rfl hS0 (by rw [e1]; exact hk10') hZ hown
 obtain ⟨rfl, N8q, K8q, w11, w12, w13, w14⟩ := hQ8
 have N8 := Fr.app N0 N8q
 have hk8 : T8.heap.size ≤ T8.heap.size := Nat.le_refl _
 have sz_b1 : h0.size ≤ b1 := (Nat.le_of_eq g1.symm)
 have K15 := K2.trans K8q (allS (Or.inr sz_b1) all0)
 have R17 := R4.trans CR8
 have E19_ := E_qa1.ext E1
 have E20_ := E19_.keep K8q
 have F21_ := F_qa1_comparison.ext E1
 have F22_ := F21_.keep K8q (ninS (Nat.ne_of_lt (Nat.lt_of_lt_of_le E_qa1.lt (Nat.le_of_eq g1.symm))) nin0)
 have F23_ := F_qa1_left.ext E1
 have F24_ := F23_.keep K8q (ninS (Nat.ne_of_lt (Nat.lt_of_lt_of_le E_qa1.lt (Nat.le_of_eq g1.symm))) nin0)
 have F25_ := F_qa1_junction.ext E1
 have F26_ := F25_.keep K8q (ninS (Nat.ne_of_lt (Nat.lt_of_lt_of_le E_qa1.lt (Nat.le_of_eq g1.symm))) nin0)
 have F27_ := F_qa1_right.ext E1
 have F28_ := F27_.keep K8q (ninS (Nat.ne_of_lt (Nat.lt_of_lt_of_le E_qa1.lt (Nat.le_of_eq g1.symm))) nin0)
 have O29 := O9.keep K8q (allS g_b1 all0)
 obtain ⟨_, T18, L18, X18, hQ18, st18⟩ := own_cI 5 75 [] 11 #[rv qa1, rv qa2, rv Gg0] X8 hx hZ8 ho8 (w72_ hw) (w73_ hw) (w3_ hw) (w74_ hw) (rm6 l Z a0 hw  qa1 b1 T8.heap n0 O29 E20_ F22_ g_qa1 F24_ F26_ F28_) pd5 hml.symm (hb hby d0_11) rfl rfl rfl rfl rfl rfl (by decide)
 obtain ⟨rfl, N18q, K18q, w30, w31, w32, w33, w34⟩ := hQ18
 have N18 := Fr.app N8 N18q
 have K35 := K15.trans K18q (allS (Or.inl (mI 0 rfl)) all0)
 have C36 : CHv Z ([] : List (String × Nat)) T8.vm T18.heap := CHv.keep K18q (sfS (Safe.exa hZ8.alike E20_ (by decide) (by decide)) sf0) CR8.1
 have R37 : CHr Z ([] : List (String × Nat)) s.vm h0 T8.vm T18.heap := R17.trans (CHr.keep K18q (sfS (Safe.exa hZ8.alike E20_ (by decide) (by decide)) sf0) CR8.1)
 have E38_ := E20_.keep K18q
 have E39_ := A1.keep K8q
 have E40_ := E39_.keep K18q
 have F41_ := w12.keep K18q (ninS (Ne.symm (Nat.ne_of_lt (Nat.lt_of_lt_of_le E_qa1.lt (Nat.le_of_eq g1.symm)))) nin0)
 have F42_ := w13.keep K18q (ninS (Ne.symm (Nat.ne_of_lt (Nat.lt_of_lt_of_le E_qa1.lt (Nat.le_of_eq g1.symm)))) nin0)
 have F43_ := w14.keep K18q (ninS (Ne.symm (Nat.ne_of_lt (Nat.lt_of_lt_of_le E_qa1.lt (Nat.le_of_eq g1.symm)))) nin0)
 have hk44' : _ ≤ T18.heap.size := (Nat.le_trans hk8 K18q.1)
 refine own_lvW X18 Bd.notSynchronized hS8 hk44' (v := none) (fun _ => rfl) rfl hh ⟨b1, rfl, N18, K35, sz_b1, E38_, w31, w32, w33, w34, E40_, F41_, F42_, F43_⟩ (R37.trans (CHv.at X18 hZ8 hEL C36)) (lE rfl) (lE rfl) (fun fs hr => pre0 _ (by
  show Sx p e below s₁ m 0 #[rv qa1, rv qa2, rv Gg0] [] _
  refine zb X0 Bd d0_0 rfl rfl ?_
  refine st1 _ ?_
  refine XS.dup X1.here hx rfl (hb hby d0_4) rfl rfl ?_
  refine zb X1 Bd d0_5 rfl rfl ?_
  refine zb X1 Bd d0_6 rfl rfl ?_
  refine XS.aconstNull X1.here hx rfl (hb hby d0_7) ?_
  refine st8.trans ?_
  refine st18 _ ?_
  exact X18.returnOut hx Bd.returns (hb hby d0_14) hr))
theorem pd6 : parseMethodDescriptor "(Ljava/lang/String;Lcom/example/ratatoskr/ratatoskr/criteria/ComparisonOperator;)V" = some ⟨[(.object "java/lang/String"), (.object "com/example/ratatoskr/ratatoskr/criteria/ComparisonOperator")], none⟩ := by decide +kernel
theorem d6_0 : decode prog_13_method_7_code 0 = .ok (.aload_n 0, 1) := by decide +kernel
theorem d6_1 : decode prog_13_method_7_code 1 = .ok (.getfield 17, 3) := by decide +kernel
theorem d6_4 : decode prog_13_method_7_code 4 = .ok (.areturn, 1) := by decide +kernel
-- com/example/ratatoskr/ratatoskr/criteria/Filter.comparison()Lcom/example/ratatoskr/ratatoskr/criteria/Filter$Comparison;
def Q8 (Z : State) (qa2 : Addr) (h0 : Heap) (n0 : Nat) (v : Option Value) (h : Heap) (L : List Loc) : Prop := v = some (.ref qa2) ∧ Fr n0 L ∧ h = h0
theorem rm8 (l : Launch) (Z : State) (a0 : Array Value) (hw : HW a0 Z) (qa1 : Addr) (qa2 : Addr) (h0 : Heap) (n0 : Nat) (X00 : Old Z n0 h0) (F_qa1_comparison : Fld Z h0 qa1 "com/example/ratatoskr/ratatoskr/criteria/Filter" "comparison" "Lcom/example/ratatoskr/ratatoskr/criteria/Filter$Comparison;" (.ref qa2)) :
    MF l Z Y6_ prog_13_method_7_code 1 (some (.object "com/example/ratatoskr/ratatoskr/criteria/Filter$Comparison")) (Rm 0 0 0 0) #[.ref qa1] h0 (Q8 Z qa2 h0 n0) := by
 refine own_sF pn1 rfl (fun m => ef3 m qa1) ?_
 intro p e s m below meth c s₁ Bd hZ hh hx hby hml hown hnm X0 e0 pre0
 have N0 := Fr.nil n0
 obtain ⟨T1, X1, e1, st1⟩ := getF X0 hx hZ hown (host := "") (Or.inl (w76_ hw)) Via.refl e0 F_qa1_comparison (g := (mkF m 1 #[rv qa1] [.ref qa1])) rfl rfl (hb hby d6_1)
 refine own_lvF X1 Bd (.ref qa2) e1 ⟨rfl, N0, rfl⟩ rfl (fun fs hr => pre0 _ (by
  show Sx p e below s₁ m 0 #[rv qa1] [] _
  refine zb X0 Bd d6_0 rfl rfl ?_
  refine st1 _ ?_
  exact retOut X1 hx Bd.returns rfl (Or.inr (Or.inr (Or.inr (Or.inr ⟨rfl, rfl, rfl⟩)))) (hb hby d6_4) hr))
theorem pd7 : parseMethodDescriptor "()Lcom/example/ratatoskr/ratatoskr/criteria/Filter$Comparison;" = some ⟨[], some (.object "com/example/ratatoskr/ratatoskr/criteria/Filter$Comparison")⟩ := by decide +kernel
theorem d7_0 : decode prog_13_method_8_code 0 = .ok (.aload_n 0, 1) := by decide +kernel
theorem d7_1 : decode prog_13_method_8_code 1 = .ok (.getfield 21, 3) := by decide +kernel
theorem d7_4 : decode prog_13_method_8_code 4 = .ok (.areturn, 1) := by decide +kernel
-- com/example/ratatoskr/ratatoskr/criteria/Filter.left()Lcom/example/ratatoskr/ratatoskr/criteria/Filter;
def Q9 (Z : State)  (h0 : Heap) (n0 : Nat) (v : Option Value) (h : Heap) (L : List Loc) : Prop := v = some .null ∧ Fr n0 L ∧ h = h0
theorem rm9 (l : Launch) (Z : State) (a0 : Array Value) (hw : HW a0 Z) (qa1 : Addr) (h0 : Heap) (n0 : Nat) (X00 : Old Z n0 h0) (F_qa1_left : Fld Z h0 qa1 "com/example/ratatoskr/ratatoskr/criteria/Filter" "left" "Lcom/example/ratatoskr/ratatoskr/criteria/Filter;" .null) :
    MF l Z Y7_ prog_13_method_8_code 1 (some (.object "com/example/ratatoskr/ratatoskr/criteria/Filter")) (Rm 0 0 0 0) #[.ref qa1] h0 (Q9 Z  h0 n0) := by
 refine own_sF pn1 rfl (fun m => ef3 m qa1) ?_
 intro p e s m below meth c s₁ Bd hZ hh hx hby hml hown hnm X0 e0 pre0
 have N0 := Fr.nil n0
 obtain ⟨T1, X1, e1, st1⟩ := getF X0 hx hZ hown (host := "") (Or.inl (w78_ hw)) Via.refl e0 F_qa1_left (g := (mkF m 1 #[rv qa1] [.ref qa1])) rfl rfl (hb hby d7_1)
 refine own_lvF X1 Bd .null e1 ⟨rfl, N0, rfl⟩ rfl (fun fs hr => pre0 _ (by
  show Sx p e below s₁ m 0 #[rv qa1] [] _
  refine zb X0 Bd d7_0 rfl rfl ?_
  refine st1 _ ?_
  exact retOut X1 hx Bd.returns rfl (Or.inr (Or.inr (Or.inr (Or.inr ⟨rfl, rfl, rfl⟩)))) (hb hby d7_4) hr))
theorem pd8 : parseMethodDescriptor "()Lcom/example/ratatoskr/ratatoskr/criteria/Filter;" = some ⟨[], some (.object "com/example/ratatoskr/ratatoskr/criteria/Filter")⟩ := by decide +kernel
theorem d8_0 : decode prog_13_method_9_code 0 = .ok (.aload_n 0, 1) := by decide +kernel
theorem d8_1 : decode prog_13_method_9_code 1 = .ok (.getfield 25, 3) := by decide +kernel
theorem d8_4 : decode prog_13_method_9_code 4 = .ok (.areturn, 1) := by decide +kernel
-- com/example/ratatoskr/ratatoskr/criteria/Filter.junction()Lcom/example/ratatoskr/ratatoskr/criteria/Filter$Junction;
def Q10 (Z : State)  (h0 : Heap) (n0 : Nat) (v : Option Value) (h : Heap) (L : List Loc) : Prop := v = some .null ∧ Fr n0 L ∧ h = h0
theorem rm10 (l : Launch) (Z : State) (a0 : Array Value) (hw : HW a0 Z) (qa1 : Addr) (h0 : Heap) (n0 : Nat) (X00 : Old Z n0 h0) (F_qa1_junction : Fld Z h0 qa1 "com/example/ratatoskr/ratatoskr/criteria/Filter" "junction" "Lcom/example/ratatoskr/ratatoskr/criteria/Filter$Junction;" .null) :
    MF l Z Y8_ prog_13_method_9_code 1 (some (.object "com/example/ratatoskr/ratatoskr/criteria/Filter$Junction")) (Rm 0 0 0 0) #[.ref qa1] h0 (Q10 Z  h0 n0) := by
 refine own_sF pn1 rfl (fun m => ef3 m qa1) ?_
 intro p e s m below meth c s₁ Bd hZ hh hx hby hml hown hnm X0 e0 pre0
 have N0 := Fr.nil n0
 obtain ⟨T1, X1, e1, st1⟩ := getF X0 hx hZ hown (host := "") (Or.inl (w80_ hw)) Via.refl e0 F_qa1_junction (g := (mkF m 1 #[rv qa1] [.ref qa1])) rfl rfl (hb hby d8_1)
 refine own_lvF X1 Bd .null e1 ⟨rfl, N0, rfl⟩ rfl (fun fs hr => pre0 _ (by
  show Sx p e below s₁ m 0 #[rv qa1] [] _
  refine zb X0 Bd d8_0 rfl rfl ?_
  refine st1 _ ?_
  exact retOut X1 hx Bd.returns rfl (Or.inr (Or.inr (Or.inr (Or.inr ⟨rfl, rfl, rfl⟩)))) (hb hby d8_4) hr))
theorem pd9 : parseMethodDescriptor "()Lcom/example/ratatoskr/ratatoskr/criteria/Filter$Junction;" = some ⟨[], some (.object "com/example/ratatoskr/ratatoskr/criteria/Filter$Junction")⟩ := by decide +kernel
theorem d9_0 : decode prog_13_method_10_code 0 = .ok (.aload_n 0, 1) := by decide +kernel
theorem d9_1 : decode prog_13_method_10_code 1 = .ok (.getfield 29, 3) := by decide +kernel
theorem d9_4 : decode prog_13_method_10_code 4 = .ok (.areturn, 1) := by decide +kernel
-- com/example/ratatoskr/ratatoskr/criteria/Filter.right()Lcom/example/ratatoskr/ratatoskr/criteria/Filter;
def Q11 (Z : State)  (h0 : Heap) (n0 : Nat) (v : Option Value) (h : Heap) (L : List Loc) : Prop := v = some .null ∧ Fr n0 L ∧ h = h0
theorem rm11 (l : Launch) (Z : State) (a0 : Array Value) (hw : HW a0 Z) (qa1 : Addr) (h0 : Heap) (n0 : Nat) (X00 : Old Z n0 h0) (F_qa1_right : Fld Z h0 qa1 "com/example/ratatoskr/ratatoskr/criteria/Filter" "right" "Lcom/example/ratatoskr/ratatoskr/criteria/Filter;" .null) :
    MF l Z Y9_ prog_13_method_10_code 1 (some (.object "com/example/ratatoskr/ratatoskr/criteria/Filter")) (Rm 0 0 0 0) #[.ref qa1] h0 (Q11 Z  h0 n0) := by
 refine own_sF pn1 rfl (fun m => ef3 m qa1) ?_
 intro p e s m below meth c s₁ Bd hZ hh hx hby hml hown hnm X0 e0 pre0
 have N0 := Fr.nil n0
 obtain ⟨T1, X1, e1, st1⟩ := getF X0 hx hZ hown (host := "") (Or.inl (w82_ hw)) Via.refl e0 F_qa1_right (g := (mkF m 1 #[rv qa1] [.ref qa1])) rfl rfl (hb hby d9_1)
 refine own_lvF X1 Bd .null e1 ⟨rfl, N0, rfl⟩ rfl (fun fs hr => pre0 _ (by
  show Sx p e below s₁ m 0 #[rv qa1] [] _
  refine zb X0 Bd d9_0 rfl rfl ?_
  refine st1 _ ?_
  exact retOut X1 hx Bd.returns rfl (Or.inr (Or.inr (Or.inr (Or.inr ⟨rfl, rfl, rfl⟩)))) (hb hby d9_4) hr))
theorem d10_0 : decode prog_13_method_6_code 0 = .ok (.new 8, 3) := by decide +kernel
theorem d10_3 : decode prog_13_method_6_code 3 = .ok (.dup, 1) := by decide +kernel
theorem d10_4 : decode prog_13_method_6_code 4 = .ok (.aload_n 0, 1) := by decide +kernel
theorem d10_5 : decode prog_13_method_6_code 5 = .ok (.getstatic 48, 3) := by decide +kernel
theorem d10_8 : decode prog_13_method_6_code 8 = .ok (.aload_n 1, 1) := by decide +kernel
theorem d10_9 : decode prog_13_method_6_code 9 = .ok (.invokespecial 45, 3) := by decide +kernel
theorem ef5 (m : MethodId) (x0 : Addr) (x1 : Addr) (x2 : Addr) (x3 : Addr) : entryFrame m #[.ref x0, .ref x1, .ref x2, .ref x3] 4 = mkF m 0 #[.val (.ref x0), .val (.ref x1), .val (.ref x2), .val (.ref x3)] [] := by first | (simp [entryFrame, mkF, argsToLocals, Value.category]; done) | rfl
theorem d11_0 : decode prog_13_method_4_code 0 = .ok (.aload_n 0, 1) := by decide +kernel
theorem d11_1 : decode prog_13_method_4_code 1 = .ok (.invokespecial 12, 3) := by decide +kernel
theorem d11_4 : decode prog_13_method_4_code 4 = .ok (.aload_n 0, 1) := by decide +kernel
theorem d11_5 : decode prog_13_method_4_code 5 = .ok (.aconst_null, 1) := by decide +kernel
theorem d11_6 : decode prog_13_method_4_code 6 = .ok (.putfield 17, 3) := by decide +kernel
theorem d11_9 : decode prog_13_method_4_code 9 = .ok (.aload_n 0, 1) := by decide +kernel
theorem d11_10 : decode prog_13_method_4_code 10 = .ok (.aload_n 1, 1) := by decide +kernel
theorem d11_11 : decode prog_13_method_4_code 11 = .ok (.putfield 21, 3) := by decide +kernel
theorem d11_14 : decode prog_13_method_4_code 14 = .ok (.aload_n 0, 1) := by decide +kernel
theorem d11_15 : decode prog_13_method_4_code 15 = .ok (.aload_n 2, 1) := by decide +kernel
theorem d11_16 : decode prog_13_method_4_code 16 = .ok (.putfield 25, 3) := by decide +kernel
theorem d11_19 : decode prog_13_method_4_code 19 = .ok (.aload_n 0, 1) := by decide +kernel
theorem d11_20 : decode prog_13_method_4_code 20 = .ok (.aload_n 3, 1) := by decide +kernel
theorem d11_21 : decode prog_13_method_4_code 21 = .ok (.ldc 32, 2) := by decide +kernel
theorem d11_23 : decode prog_13_method_4_code 23 = .ok (.invokestatic 34, 3) := by decide +kernel
theorem d11_26 : decode prog_13_method_4_code 26 = .ok (.checkcast 8, 3) := by decide +kernel
theorem d11_29 : decode prog_13_method_4_code 29 = .ok (.putfield 29, 3) := by decide +kernel
theorem d11_32 : decode prog_13_method_4_code 32 = .ok (.return_, 1) := by decide +kernel
-- com/example/ratatoskr/ratatoskr/criteria/Filter.<init>(Lcom/example/ratatoskr/ratatoskr/criteria/Filter;Lcom/example/ratatoskr/ratatoskr/criteria/Filter$Junction;Lcom/example/ratatoskr/ratatoskr/criteria/Filter;)V
def Q12 (Z : State) (Gg1 : Addr) (qa1 : Addr) (qa2 : Addr) (qa3 : Addr) (h0 : Heap) (n0 : Nat) (v : Option Value) (h : Heap) (L : List Loc) : Prop := v = none ∧ Fr n0 L ∧ Keep h0 h [qa1] ∧ Exa Z h qa1 "com/example/ratatoskr/ratatoskr/criteria/Filter" ∧ Fld Z h qa1 "com/example/ratatoskr/ratatoskr/criteria/Filter" "comparison" "Lcom/example/ratatoskr/ratatoskr/criteria/Filter$Comparison;" .null ∧ Fld Z h qa1 "com/example/ratatoskr/ratatoskr/criteria/Filter" "left" "Lcom/example/ratatoskr/ratatoskr/criteria/Filter;" (.ref qa2) ∧ Fld Z h qa1 "com/example/ratatoskr/ratatoskr/criteria/Filter" "junction" "Lcom/example/ratatoskr/ratatoskr/criteria/Filter$Junction;" (.ref Gg1) ∧ Fld Z h qa1 "com/example/ratatoskr/ratatoskr/criteria/Filter" "right" "Lcom/example/ratatoskr/ratatoskr/criteria/Filter;" (.ref qa3)
theorem rm12 (l : Launch) (Z : State) (a0 : Array Value) (hw : HW a0 Z) (Gg0 : Addr) (Gg1 : Addr) (Gg2 : Addr) (qa1 : Addr) (qa2 : Addr) (qa3 : Addr) (h0 : Heap) (n0 : Nat) (X00 : Old Z n0 h0) (hEN : OwnEN Z Gg0 Gg1 Gg2) (E_qa1 : Exa Z h0 qa1 "com/example/ratatoskr/ratatoskr/criteria/Filter") (F_qa1_comparison : Fld Z h0 qa1 "com/example/ratatoskr/ratatoskr/criteria/Filter" "comparison" "Lcom/example/ratatoskr/ratatoskr/criteria/Filter$Comparison;" .null) (g_qa1 : n0 ≤ qa1) (F_qa1_left : Fld Z h0 qa1 "com/example/ratatoskr/ratatoskr/criteria/Filter" "left" "Lcom/example/ratatoskr/ratatoskr/criteria/Filter;" .null) (F_qa1_junction : Fld Z h0 qa1 "com/example/ratatoskr/ratatoskr/criteria/Filter" "junction" "Lcom/example/ratatoskr/ratatoskr/criteria/Filter$Junction;" .null) (E_qa3 : Exa Z h0 qa3 "com/example/ratatoskr/ratatoskr/criteria/Filter") (F_qa1_right : Fld Z h0 qa1 "com/example/ratatoskr/ratatoskr/criteria/Filter" "right" "Lcom/example/ratatoskr/ratatoskr/criteria/Filter;" .null) :
    MW l Z ([] : List (String × Nat)) Y10_ prog_13_method_4_code 4 none (Rm 1 2 28 14) #[.ref qa1, .ref qa2, .ref Gg1, .ref qa3] h0 (Q12 Z Gg1 qa1 qa2 qa3 h0 n0) := by
 refine own_sW pn1 rfl (fun m => ef5 m qa1 qa2 Gg1 qa3) ?_
 intro p e s m below meth c s₁ Bd hZ hh hx hby hml hown hnm X0 e0 pre0 hC0 hS0 hk0 hR0
 have N0 := Fr.nil n0
 have hEL := own_EW hw
 have hwS := own_wS hw
 obtain ⟨T1, X1, e1, st1⟩ := initO X0 hx hZ hown (w75_ hw) (w15_ hw) (w16_ hw) e0 (g := (mkF m 1 #[rv qa1, rv qa2, rv Gg1, rv qa3] [.ref qa1])) rfl hml.symm rfl (hb hby d11_1) (by decide) (W := 0) (own_hw rfl) (lE rfl)
 obtain ⟨T2, h2, X2, e2, W2, st2⟩ := putF X1 hx hZ hown (host := "") (Or.inl (w76_ hw)) Via.refl e1 F_qa1_comparison E_qa1 (Or.inr ⟨(w77_ hw), rfl, hnm⟩) (w2_ hw) (ty := (.object "com/example/ratatoskr/ratatoskr/criteria/Filter$Comparison")) (by decide) rfl rfl (g := (mkF m 6 #[rv qa1, rv qa2, rv Gg1, rv qa3] [.null, .ref qa1])) rfl rfl (hb hby d11_6)
 have N2 := Fr.snoc X2 N0 g_qa1
 have K3 := (Keep.refl h0 [qa1]).wr W2 (Or.inl (mI 0 rfl))
 have C4 : CHv Z ([] : List (String × Nat)) s.vm h2 := CHv.wr W2 (Safe.exa hZ.alike E_qa1 (by decide) (by decide)) hC0
 have R5 : CHr Z ([] : List (String × Nat)) s.vm h0 s.vm h2 := hR0.trans (CHr.wr W2 (Safe.exa hZ.alike E_qa1 (by decide) (by decide)) hC0)
 have F6_ : Fld Z h2 qa1 "com/example/ratatoskr/ratatoskr/criteria/Filter" "comparison" "Lcom/example/ratatoskr/ratatoskr/criteria/Filter$Comparison;" .null := F_qa1_comparison.same W2
 have F7_ := F_qa1_left.other W2 (Or.inr (slot_ne (Or.inr (w79_ hw)) (Or.inr (w77_ hw)) (by decide) (t := (.object "com/example/ratatoskr/ratatoskr/criteria/Filter")) (t' := (.object "com/example/ratatoskr/ratatoskr/criteria/Filter$Comparison")) (by decide) (by decide)))
 have E8_ := E_qa1.wr W2
 obtain ⟨T9, h9, X9, e9, W9, st9⟩ := putF X2 hx hZ hown (host := "") (Or.inl (w78_ hw)) Via.refl e2 F7_ E8_ (Or.inr ⟨(w79_ hw), rfl, hnm⟩) (w2_ hw) (ty := (.object "com/example/ratatoskr/ratatoskr/criteria/Filter")) (by decide) rfl rfl (g := (mkF m 11 #[rv qa1, rv qa2, rv Gg1, rv qa3] [.ref qa2, .ref qa1])) rfl rfl (hb hby d11_11)
 have N9 := Fr.snoc X9 N2 g_qa1
 have K10 := K3.wr W9 (Or.inl (mI 0 rfl))
 have C11 : CHv Z ([] : List (String × Nat)) s.vm h9 := CHv.wr W9 (Safe.exa hZ.alike E8_ (by decide) (by decide)) C4
 have R12 : CHr Z ([] : List (String × Nat)) s.vm h0 s.vm h9 := R5.trans (CHr.wr W9 (Safe.exa hZ.alike E8_ (by decide) (by decide)) C4)
 have F13_ : Fld Z h9 qa1 "com/example/ratatoskr/ratatoskr/criteria/Filter" "left" "Lcom/example/ratatoskr/ratatoskr/criteria/Filter;" (.ref qa2) := F7_.same W9
 have F14_ := F_qa1_junction.other W2 (Or.inr (slot_ne (Or.inr (w81_ hw)) (Or.inr (w77_ hw)) (by decide) (t := (.object "com/example/ratatoskr/ratatoskr/criteria/Filter$Junction")) (t' := (.object "com/example/ratatoskr/ratatoskr/criteria/Filter$Comparison")) (by decide) (by decide)))
 have F15_ := F14_.other W9 (Or.inr (slot_ne (Or.inr (w81_ hw)) (Or.inr (w79_ hw)) (by decide) (t := (.object "com/example/ratatoskr/ratatoskr/criteria/Filter$Junction")) (t' := (.object "com/example/ratatoskr/ratatoskr/criteria/Filter")) (by decide) (by decide)))
 have E16_ := E8_.wr W9
 obtain ⟨T17, h17, X17, e17, W17, st17⟩ := putF X9 hx hZ hown (host := "") (Or.inl (w80_ hw)) Via.refl e9 F15_ E16_ (Or.inr ⟨(w81_ hw), rfl, hnm⟩) (w2_ hw) (ty := (.object "com/example/ratatoskr/ratatoskr/criteria/Filter$Junction")) (by decide) rfl rfl (g := (mkF m 16 #[rv qa1, rv qa2, rv Gg1, rv qa3] [.ref Gg1, .ref qa1])) rfl rfl (hb hby d11_16)
 have N17 := Fr.snoc X17 N9 g_qa1
 have K18 := K10.wr W17 (Or.inl (mI 0 rfl))
 have C19 : CHv Z ([] : List (String × Nat)) s.vm h17 := CHv.wr W17 (Safe.exa hZ.alike E16_ (by decide) (by decide)) C11
 have R20 : CHr Z ([] : List (String × Nat)) s.vm h0 s.vm h17 := R12.trans (CHr.wr W17 (Safe.exa hZ.alike E16_ (by decide) (by decide)) C11)
 have F21_ : Fld Z h17 qa1 "com/example/ratatoskr/ratatoskr/criteria/Filter" "junction" "Lcom/example/ratatoskr/ratatoskr/criteria/Filter$Junction;" (.ref Gg1) := F15_.same W17
 have hk23' : _ ≤ h17.size := (Nat.le_trans (Nat.le_trans (Nat.le_trans hk0 (Nat.le_of_eq W2.size.symm)) (Nat.le_of_eq W9.size.symm)) (Nat.le_of_eq W17.size.symm))
 obtain ⟨b22, T22, h22, k22, X22, e22, E22, hS22, hk22, hZ22, ho22, CR22, -, st22⟩ := ldcOH (text := "filter") (EL := ([] : List (String × Nat))) X17 hx hZ hown (w116_ hw) hwS e17 hS0 hk23' hEL C19 (g := (mkF m 21 #[rv qa1, rv qa2, rv Gg1, rv qa3] [.ref qa3, .ref qa1])) rfl (hb hby d11_21) (n := 24) (by decide) (lE rfl) (lE rfl) (lE rfl)
 have K24 := K18.ext E22
 have R26 := R20.trans CR22
 replace X22 : Stand p l e (Rm 1 2 28 14) (s.setVm T22.vm) m #[.ref qa1, .ref qa2, .ref Gg1, .ref qa3] below meth c T22 _ 2 28 := X22
 have O28 := X00.wr W2 g_qa1
 have O29 := O28.wr W9 g_qa1
 have O30 := O29.wr W17 g_qa1
 have O31 := O30.ext E22
 obtain ⟨_, T27, L27, X27, hQ27, st27⟩ := own_cS 2 28 [.ref qa1] 23 #[rv qa1, rv qa2, rv Gg1, rv qa3] X22 hx hZ22 ho22 (w117_ hw) (w55_ hw) (w56_ hw) (w57_ hw) (rm2 l Z a0 hw  qa3 b22 h22 n0 O31 ) pd2 hml.symm (hb hby d11_23) e22 rfl rfl rfl rfl (by decide)
 obtain ⟨rfl, N27q, e27q⟩ := hQ27
 have N27 := Fr.app N17 N27q
 have E33_ := E_qa3.wr W2
 have E34_ := E33_.wr W9
 have E35_ := E34_.wr W17
 have E36_ := E35_.ext E22
 obtain ⟨T32, X32, e32, st32⟩ := castY X27 hx hZ22 ho22 (w109_ hw) e27q (Ins.self E36_) (g := (mkF m 26 #[rv qa1, rv qa2, rv Gg1, rv qa3] [.ref qa3, .ref qa1])) rfl rfl (hb hby d11_26)
 have F37_ := F_qa1_right.other W2 (Or.inr (slot_ne (Or.inr (w83_ hw)) (Or.inr (w77_ hw)) (by decide) (t := (.object "com/example/ratatoskr/ratatoskr/criteria/Filter")) (t' := (.object "com/example/ratatoskr/ratatoskr/criteria/Filter$Comparison")) (by decide) (by decide)))
 have F38_ := F37_.other W9 (Or.inr (slot_ne (Or.inr (w83_ hw)) (Or.inr (w79_ hw)) (by decide) (t := (.object "com/example/ratatoskr/ratatoskr/criteria/Filter")) (t' := (.object "com/example/ratatoskr/ratatoskr/criteria/Filter")) (by decide) (by decide)))
 have F39_ := F38_.other W17 (Or.inr (slot_ne (Or.inr (w83_ hw)) (Or.inr (w81_ hw)) (by decide) (t := (.object "com/example/ratatoskr/ratatoskr/criteria/Filter")) (t' := (.object "com/example/ratatoskr/ratatoskr/criteria/Filter$Junction")) (by decide) (by decide)))
 have F40_ := F39_.ext E22
 have E41_ := E16_.wr W17
 have E42_ := E41_.ext E22
 obtain ⟨T43, h43, X43, e43, W43, st43⟩ := putF X32 hx hZ22 ho22 (host := "") (Or.inl (w82_ hw)) Via.refl e32 F40_ E42_ (Or.inr ⟨(w83_ hw), rfl, hnm⟩) (w2_ hw) (ty := (.object "com/example/ratatoskr/ratatoskr/criteria/Filter")) (by decide) rfl rfl (g := (mkF m 29 #[rv qa1, rv qa2, rv Gg1, rv qa3] [.ref qa3, .ref qa1])) rfl rfl (hb hby d11_29)
 have N43 := Fr.snoc X43 N27 g_qa1
 have K44 := K24.wr W43 (Or.inl (mI 0 rfl))
 have C45 : CHv Z ([] : List (String × Nat)) T22.vm h43 := CHv.wr W43 (Safe.exa hZ22.alike E42_ (by decide) (by decide)) CR22.1
 have R46 : CHr Z ([] : List (String × Nat)) s.vm h0 T22.vm h43 := R26.trans (CHr.wr W43 (Safe.exa hZ22.alike E42_ (by decide) (by decide)) CR22.1)
 have F47_ : Fld Z h43 qa1 "com/example/ratatoskr/ratatoskr/criteria/Filter" "right" "Lcom/example/ratatoskr/ratatoskr/criteria/Filter;" (.ref qa3) := F40_.same W43
 have E48_ := E42_.wr W43
 have F49_ := F6_.other W9 (Or.inr (slot_ne (Or.inr (w77_ hw)) (Or.inr (w79_ hw)) (by decide) (t := (.object "com/example/ratatoskr/ratatoskr/criteria/Filter$Comparison")) (t' := (.object "com/example/ratatoskr/ratatoskr/criteria/Filter")) (by decide) (by decide)))
 have F50_ := F49_.other W17 (Or.inr (slot_ne (Or.inr (w77_ hw)) (Or.inr (w81_ hw)) (by decide) (t := (.object "com/example/ratatoskr/ratatoskr/criteria/Filter$Comparison")) (t' := (.object "com/example/ratatoskr/ratatoskr/criteria/Filter$Junction")) (by decide) (by decide)))
 have F51_ := F50_.ext E22
 have F52_ := F51_.other W43 (Or.inr (slot_ne (Or.inr (w77_ hw)) (Or.inr (w83_ hw)) (by decide) (t := (.object "com/example/ratatoskr/ratatoskr/criteria/Filter$Comparison")) (t' := (.object "com/example/ratatoskr/ratatoskr/criteria/Filter")) (by decide) (by decide)))
 have F53_ := F13_.other W17 (Or.inr (slot_ne (Or.inr (w79_ hw)) (Or.inr (w81_ hw)) (by decide) (t := (.object "com/example/ratatoskr/ratatoskr/criteria/Filter")) (t' := (.object "com/example/ratatoskr/ratatoskr/criteria/Filter$Junction")) (by decide) (by decide)))
 have F54_ := F53_.ext E22
 have F55_ := F54_.other W43 (Or.inr (slot_ne (Or.inr (w79_ hw)) (Or.inr (w83_ hw)) (by decide) (t := (.object "com/example/ratatoskr/ratatoskr/criteria/Filter")) (t' := (.object "com/example/ratatoskr/ratatoskr/criteria/Filter")) (by decide) (by decide)))
 have F56_ := F21_.ext E22
 have F57_ := F56_.other W43 (Or.inr (slot_ne (Or.inr (w81_ hw)) (Or.inr (w83_ hw)) (by decide) (t := (.object "com/example/ratatoskr/ratatoskr/criteria/Filter$Junction")) (t' := (.object "com/example/ratatoskr/ratatoskr/criteria/Filter")) (by decide) (by decide)))
 have hk58' : _ ≤ h43.size := (Nat.le_trans hk22 (Nat.le_of_eq W43.size.symm))
 refine own_lvW X43 Bd.notSynchronized hS22 hk58' (v := none) (fun _ => rfl) e43 hh ⟨rfl, N43, K44, E48_, F52_, F55_, F57_, F47_⟩ (R46.trans (CHv.at X43 hZ22 hEL C45)) (lE rfl) (lE rfl) (fun fs hr => pre0 _ (by
  show Sx p e below s₁ m 0 #[rv qa1, rv qa2, rv Gg1, rv qa3] [] _
  refine zb X0 Bd d11_0 rfl rfl ?_
  refine st1 _ ?_
  refine zb X1 Bd d11_4 rfl rfl ?_
  refine XS.aconstNull X1.here hx rfl (hb hby d11_5) ?_
  refine st2 _ ?_
  refine zb X2 Bd d11_9 rfl rfl ?_
  refine zb X2 Bd d11_10 rfl rfl ?_
  refine st9 _ ?_
  refine zb X9 Bd d11_14 rfl rfl ?_
  refine zb X9 Bd d11_15 rfl rfl ?_
  refine st17 _ ?_
  refine zb X17 Bd d11_19 rfl rfl ?_
  refine zb X17 Bd d11_20 rfl rfl ?_
  refine st22 _ ?_
  refine st27 _ ?_
  refine st32 _ ?_
  refine st43 _ ?_
  exact X43.returnOut hx Bd.returns (hb hby d11_32) hr))
theorem pd10 : parseMethodDescriptor "(Lcom/example/ratatoskr/ratatoskr/criteria/Filter;Lcom/example/ratatoskr/ratatoskr/criteria/Filter$Junction;Lcom/example/ratatoskr/ratatoskr/criteria/Filter;)V" = some ⟨[(.object "com/example/ratatoskr/ratatoskr/criteria/Filter"), (.object "com/example/ratatoskr/ratatoskr/criteria/Filter$Junction"), (.object "com/example/ratatoskr/ratatoskr/criteria/Filter")], none⟩ := by decide +kernel
theorem d10_12 : decode prog_13_method_6_code 12 = .ok (.areturn, 1) := by decide +kernel
-- com/example/ratatoskr/ratatoskr/criteria/Filter.or(Lcom/example/ratatoskr/ratatoskr/criteria/Filter;)Lcom/example/ratatoskr/ratatoskr/criteria/Filter;
def Q13 (Z : State) (Gg1 : Addr) (qa1 : Addr) (qa2 : Addr) (h0 : Heap) (n0 : Nat) (v : Option Value) (h : Heap) (L : List Loc) : Prop := ∃ b1 : Addr, v = some (.ref b1) ∧ Fr n0 L ∧ Keep h0 h [] ∧ h0.size ≤ b1 ∧ Exa Z h b1 "com/example/ratatoskr/ratatoskr/criteria/Filter" ∧ Fld Z h b1 "com/example/ratatoskr/ratatoskr/criteria/Filter" "comparison" "Lcom/example/ratatoskr/ratatoskr/criteria/Filter$Comparison;" .null ∧ Fld Z h b1 "com/example/ratatoskr/ratatoskr/criteria/Filter" "left" "Lcom/example/ratatoskr/ratatoskr/criteria/Filter;" (.ref qa1) ∧ Fld Z h b1 "com/example/ratatoskr/ratatoskr/criteria/Filter" "junction" "Lcom/example/ratatoskr/ratatoskr/criteria/Filter$Junction;" (.ref Gg1) ∧ Fld Z h b1 "com/example/ratatoskr/ratatoskr/criteria/Filter" "right" "Lcom/example/ratatoskr/ratatoskr/criteria/Filter;" (.ref qa2)
theorem rm13 (l : Launch) (Z : State) (a0 : Array Value) (hw : HW a0 Z) (Gg0 : Addr) (Gg1 : Addr) (Gg2 : Addr) (qa1 : Addr) (qa2 : Addr) (h0 : Heap) (n0 : Nat) (X00 : Old Z n0 h0) (hEN : OwnEN Z Gg0 Gg1 Gg2) (E_qa2 : Exa Z h0 qa2 "com/example/ratatoskr/ratatoskr/criteria/Filter") :
    MW l Z ([] : List (String × Nat)) Y11_ prog_13_method_6_code 2 (some (.object "com/example/ratatoskr/ratatoskr/criteria/Filter")) (Rm 2 3 32 30) #[.ref qa1, .ref qa2] h0 (Q13 Z Gg1 qa1 qa2 h0 n0) := by
 refine own_sW pn1 rfl (fun m => ef4 m qa1 qa2) ?_
 intro p e s m below meth c s₁ Bd hZ hh hx hby hml hown hnm X0 e0 pre0 hC0 hS0 hk0 hR0
 have N0 := Fr.nil n0
 have hEL := own_EW hw
 have hwS := own_wS hw
 obtain ⟨T1, h1, X1, e1, E1, A1, D1, -, st1⟩ := newO X0 hx hZ hown (w109_ hw) (w2_ hw) (w3_ hw) e0 (g := (mkF m 0 #[rv qa1, rv qa2] [])) rfl (hb hby d10_0) (lE rfl) (lE rfl)
 obtain ⟨b1, g1⟩ : ∃ z, z = h0.size := ⟨_, rfl⟩
 rw [← g1] at A1 D1 st1
 replace X1 : Stand p l e (Rm 2 3 32 30) (s.setVm s.vm) m #[.ref qa1, .ref qa2] below meth c T1 _ 1 4 := X1
 have K2 := (Keep.refl h0 []).ext E1
 have C3 : CHv Z ([] : List (String × Nat)) s.vm h1 := CHv.ext E1 hC0
 have R4 : CHr Z ([] : List (String × Nat)) s.vm h0 s.vm h1 := hR0.trans (CHr.ext E1 hC0)
 have F5_ : Fld Z h1 b1 "com/example/ratatoskr/ratatoskr/criteria/Filter" "comparison" "Lcom/example/ratatoskr/ratatoskr/criteria/Filter$Comparison;" .null := D1 (Or.inr (w77_ hw)) (ty := (.object "com/example/ratatoskr/ratatoskr/criteria/Filter$Comparison")) (by decide)
 have F6_ : Fld Z h1 b1 "com/example/ratatoskr/ratatoskr/criteria/Filter" "left" "Lcom/example/ratatoskr/ratatoskr/criteria/Filter;" .null := D1 (Or.inr (w79_ hw)) (ty := (.object "com/example/ratatoskr/ratatoskr/criteria/Filter")) (by decide)
 have F7_ : Fld Z h1 b1 "com/example/ratatoskr/ratatoskr/criteria/Filter" "junction" "Lcom/example/ratatoskr/ratatoskr/criteria/Filter$Junction;" .null := D1 (Or.inr (w81_ hw)) (ty := (.object "com/example/ratatoskr/ratatoskr/criteria/Filter$Junction")) (by decide)
 have F8_ : Fld Z h1 b1 "com/example/ratatoskr/ratatoskr/criteria/Filter" "right" "Lcom/example/ratatoskr/ratatoskr/criteria/Filter;" .null := D1 (Or.inr (w83_ hw)) (ty := (.object "com/example/ratatoskr/ratatoskr/criteria/Filter")) (by decide)
 have O10 := X00.ext E1
 obtain ⟨T9, X9, e9, st9⟩ := getS2 X1 hx hZ hown (host := "") (Or.inl (w110_ hw)) Via.refl e1 (hEN.2.2.1.ext O10.2) (g := (mkF m 5 #[rv qa1, rv qa2] [.ref qa1, .ref b1, .ref b1])) rfl (hb hby d10_5)
 have g_b1 : n0 ≤ b1 := Nat.le_trans (Nat.le_trans (Nat.le_of_eq X00.1.symm) X00.2.1) (Nat.le_of_eq g1.symm)
 have E12_ := E_qa2.ext E1
 have hk13' : _ ≤ h1.size := (Nat.le_trans hk0 E1.1)
 obtain ⟨_, T11, L11, X11, hQ11, hS11, hZ11, ho11, CR11, st11⟩ := own_cbS 1 4 2 28 3 32 (X9.specialBackS hx (y := Y10_) rfl hown (mvT hZ (w113_ hw)) (mvT hZ (w114_ hw)) (mvT hZ (w115_ hw)) (by decide) (backOfSH (W := 1) (EL := ([] : List (String × Nat))) (s := s) (rm12 l Z a0 hw Gg0 Gg1 Gg2 b1 qa1 qa2 h1 n0 O10 hEN A1 F5_ g_b1 F6_ F7_ E12_ F8_) hZ (w115_ hw) (w3_ hw) (lE rfl) (lE rfl) hEL C3) (g := (mkF m 9 #[rv qa1, rv qa2] [.ref qa2, .ref Gg1, .ref qa1, .ref b1, .ref b1])) rfl hml.symm (Steps.refl _) (a := b1) (argsL := [.ref qa1, .ref Gg1, .ref qa2]) (rest := [.ref b1]) (lenOf pd10 rfl) rfl (own_hw rfl) (hb hby d10_9) (fun _ _ => ⟨rfl, e9, (lE rfl : 1 + 2 ≤ _), (lE rfl : 4 + 28 ≤ _)⟩)) rfl rfl hS0 (by rw [e9]; exact hk13') hZ hown
 obtain ⟨rfl, N11q, K11q, w14, w15, w16, w17, w18⟩ := hQ11
 have N11 := Fr.app N0 N11q
 have hk11 : T11.heap.size ≤ T11.heap.size := Nat.le_refl _
 have sz_b1 : h0.size ≤ b1 := (Nat.le_of_eq g1.symm)
 have K19 := K2.trans K11q (allS (Or.inr sz_b1) all0)
 have R21 := R4.trans CR11
 have E22_ := A1.keep K11q
 refine own_lvW X11 Bd.notSynchronized hS11 hk11 (v := (some (.ref b1))) (fun h => by rw [Bd.returns] at h; cases h) rfl hh ⟨b1, rfl, N11, K19, sz_b1, E22_, w15, w16, w17, w18⟩ (R21.trans (CHv.at X11 hZ11 hEL CR11.1)) (lE rfl) (lE rfl) (fun fs hr => pre0 _ (by
  show Sx p e below s₁ m 0 #[rv qa1, rv qa2] [] _
  refine st1 _ ?_
  refine XS.dup X1.here hx rfl (hb hby d10_3) rfl rfl ?_
  refine zb X1 Bd d10_4 rfl rfl ?_
  refine st9 _ ?_
  refine zb X9 Bd d10_8 rfl rfl ?_
  refine st11.trans ?_
  exact retOut X11 hx Bd.returns rfl (Or.inr (Or.inr (Or.inr (Or.inr ⟨rfl, rfl, rfl⟩)))) (hb hby d10_12) hr))
theorem pd11 : parseMethodDescriptor "(Lcom/example/ratatoskr/ratatoskr/criteria/Filter;)Lcom/example/ratatoskr/ratatoskr/criteria/Filter;" = some ⟨[(.object "com/example/ratatoskr/ratatoskr/criteria/Filter")], some (.object "com/example/ratatoskr/ratatoskr/criteria/Filter")⟩ := by decide +kernel
-- com/example/ratatoskr/ratatoskr/criteria/Filter.comparison()Lcom/example/ratatoskr/ratatoskr/criteria/Filter$Comparison;
def Q14 (Z : State)  (h0 : Heap) (n0 : Nat) (v : Option Value) (h : Heap) (L : List Loc) : Prop := v = some .null ∧ Fr n0 L ∧ h = h0
theorem rm14 (l : Launch) (Z : State) (a0 : Array Value) (hw : HW a0 Z) (qa1 : Addr) (h0 : Heap) (n0 : Nat) (X00 : Old Z n0 h0) (F_qa1_comparison : Fld Z h0 qa1 "com/example/ratatoskr/ratatoskr/criteria/Filter" "comparison" "Lcom/example/ratatoskr/ratatoskr/criteria/Filter$Comparison;" .null) :
    MF l Z Y6_ prog_13_method_7_code 1 (some (.object "com/example/ratatoskr/ratatoskr/criteria/Filter$Comparison")) (Rm 0 0 0 0) #[.ref qa1] h0 (Q14 Z  h0 n0) := by
 refine own_sF pn1 rfl (fun m => ef3 m qa1) ?_
 intro p e s m below meth c s₁ Bd hZ hh hx hby hml hown hnm X0 e0 pre0
 have N0 := Fr.nil n0
 obtain ⟨T1, X1, e1, st1⟩ := getF X0 hx hZ hown (host := "") (Or.inl (w76_ hw)) Via.refl e0 F_qa1_comparison (g := (mkF m 1 #[rv qa1] [.ref qa1])) rfl rfl (hb hby d6_1)
 refine own_lvF X1 Bd .null e1 ⟨rfl, N0, rfl⟩ rfl (fun fs hr => pre0 _ (by
  show Sx p e below s₁ m 0 #[rv qa1] [] _
  refine zb X0 Bd d6_0 rfl rfl ?_
  refine st1 _ ?_
  exact retOut X1 hx Bd.returns rfl (Or.inr (Or.inr (Or.inr (Or.inr ⟨rfl, rfl, rfl⟩)))) (hb hby d6_4) hr))
-- com/example/ratatoskr/ratatoskr/criteria/Filter.left()Lcom/example/ratatoskr/ratatoskr/criteria/Filter;
def Q15 (Z : State) (qa2 : Addr) (h0 : Heap) (n0 : Nat) (v : Option Value) (h : Heap) (L : List Loc) : Prop := v = some (.ref qa2) ∧ Fr n0 L ∧ h = h0
theorem rm15 (l : Launch) (Z : State) (a0 : Array Value) (hw : HW a0 Z) (qa1 : Addr) (qa2 : Addr) (h0 : Heap) (n0 : Nat) (X00 : Old Z n0 h0) (F_qa1_left : Fld Z h0 qa1 "com/example/ratatoskr/ratatoskr/criteria/Filter" "left" "Lcom/example/ratatoskr/ratatoskr/criteria/Filter;" (.ref qa2)) :
    MF l Z Y7_ prog_13_method_8_code 1 (some (.object "com/example/ratatoskr/ratatoskr/criteria/Filter")) (Rm 0 0 0 0) #[.ref qa1] h0 (Q15 Z qa2 h0 n0) := by
 refine own_sF pn1 rfl (fun m => ef3 m qa1) ?_
 intro p e s m below meth c s₁ Bd hZ hh hx hby hml hown hnm X0 e0 pre0
 have N0 := Fr.nil n0
 obtain ⟨T1, X1, e1, st1⟩ := getF X0 hx hZ hown (host := "") (Or.inl (w78_ hw)) Via.refl e0 F_qa1_left (g := (mkF m 1 #[rv qa1] [.ref qa1])) rfl rfl (hb hby d7_1)
 refine own_lvF X1 Bd (.ref qa2) e1 ⟨rfl, N0, rfl⟩ rfl (fun fs hr => pre0 _ (by
  show Sx p e below s₁ m 0 #[rv qa1] [] _
  refine zb X0 Bd d7_0 rfl rfl ?_
  refine st1 _ ?_
  exact retOut X1 hx Bd.returns rfl (Or.inr (Or.inr (Or.inr (Or.inr ⟨rfl, rfl, rfl⟩)))) (hb hby d7_4) hr))
-- com/example/ratatoskr/ratatoskr/criteria/Filter.junction()Lcom/example/ratatoskr/ratatoskr/criteria/Filter$Junction;
def Q16 (Z : State) (Gg1 : Addr) (h0 : Heap) (n0 : Nat) (v : Option Value) (h : Heap) (L : List Loc) : Prop := v = some (.ref Gg1) ∧ Fr n0 L ∧ h = h0
theorem rm16 (l : Launch) (Z : State) (a0 : Array Value) (hw : HW a0 Z) (Gg0 : Addr) (Gg1 : Addr) (Gg2 : Addr) (qa1 : Addr) (h0 : Heap) (n0 : Nat) (X00 : Old Z n0 h0) (hEN : OwnEN Z Gg0 Gg1 Gg2) (F_qa1_junction : Fld Z h0 qa1 "com/example/ratatoskr/ratatoskr/criteria/Filter" "junction" "Lcom/example/ratatoskr/ratatoskr/criteria/Filter$Junction;" (.ref Gg1)) :
    MF l Z Y8_ prog_13_method_9_code 1 (some (.object "com/example/ratatoskr/ratatoskr/criteria/Filter$Junction")) (Rm 0 0 0 0) #[.ref qa1] h0 (Q16 Z Gg1 h0 n0) := by
 refine own_sF pn1 rfl (fun m => ef3 m qa1) ?_
 intro p e s m below meth c s₁ Bd hZ hh hx hby hml hown hnm X0 e0 pre0
 have N0 := Fr.nil n0
 obtain ⟨T1, X1, e1, st1⟩ := getF X0 hx hZ hown (host := "") (Or.inl (w80_ hw)) Via.refl e0 F_qa1_junction (g := (mkF m 1 #[rv qa1] [.ref qa1])) rfl rfl (hb hby d8_1)
 refine own_lvF X1 Bd (.ref Gg1) e1 ⟨rfl, N0, rfl⟩ rfl (fun fs hr => pre0 _ (by
  show Sx p e below s₁ m 0 #[rv qa1] [] _
  refine zb X0 Bd d8_0 rfl rfl ?_
  refine st1 _ ?_
  exact retOut X1 hx Bd.returns rfl (Or.inr (Or.inr (Or.inr (Or.inr ⟨rfl, rfl, rfl⟩)))) (hb hby d8_4) hr))
-- com/example/ratatoskr/ratatoskr/criteria/Filter.right()Lcom/example/ratatoskr/ratatoskr/criteria/Filter;
def Q17 (Z : State) (qa2 : Addr) (h0 : Heap) (n0 : Nat) (v : Option Value) (h : Heap) (L : List Loc) : Prop := v = some (.ref qa2) ∧ Fr n0 L ∧ h = h0
theorem rm17 (l : Launch) (Z : State) (a0 : Array Value) (hw : HW a0 Z) (qa1 : Addr) (qa2 : Addr) (h0 : Heap) (n0 : Nat) (X00 : Old Z n0 h0) (F_qa1_right : Fld Z h0 qa1 "com/example/ratatoskr/ratatoskr/criteria/Filter" "right" "Lcom/example/ratatoskr/ratatoskr/criteria/Filter;" (.ref qa2)) :
    MF l Z Y9_ prog_13_method_10_code 1 (some (.object "com/example/ratatoskr/ratatoskr/criteria/Filter")) (Rm 0 0 0 0) #[.ref qa1] h0 (Q17 Z qa2 h0 n0) := by
 refine own_sF pn1 rfl (fun m => ef3 m qa1) ?_
 intro p e s m below meth c s₁ Bd hZ hh hx hby hml hown hnm X0 e0 pre0
 have N0 := Fr.nil n0
 obtain ⟨T1, X1, e1, st1⟩ := getF X0 hx hZ hown (host := "") (Or.inl (w82_ hw)) Via.refl e0 F_qa1_right (g := (mkF m 1 #[rv qa1] [.ref qa1])) rfl rfl (hb hby d9_1)
 refine own_lvF X1 Bd (.ref qa2) e1 ⟨rfl, N0, rfl⟩ rfl (fun fs hr => pre0 _ (by
  show Sx p e below s₁ m 0 #[rv qa1] [] _
  refine zb X0 Bd d9_0 rfl rfl ?_
  refine st1 _ ?_
  exact retOut X1 hx Bd.returns rfl (Or.inr (Or.inr (Or.inr (Or.inr ⟨rfl, rfl, rfl⟩)))) (hb hby d9_4) hr))
-- com/example/ratatoskr/ratatoskr/criteria/Filter.<init>(Lcom/example/ratatoskr/ratatoskr/criteria/Filter;Lcom/example/ratatoskr/ratatoskr/criteria/Filter$Junction;Lcom/example/ratatoskr/ratatoskr/criteria/Filter;)V
def Q18 (Z : State) (Gg1 : Addr) (qa1 : Addr) (qa2 : Addr) (h0 : Heap) (n0 : Nat) (v : Option Value) (h : Heap) (L : List Loc) : Prop := v = none ∧ Fr n0 L ∧ Keep h0 h [qa1] ∧ Exa Z h qa1 "com/example/ratatoskr/ratatoskr/criteria/Filter" ∧ Fld Z h qa1 "com/example/ratatoskr/ratatoskr/criteria/Filter" "comparison" "Lcom/example/ratatoskr/ratatoskr/criteria/Filter$Comparison;" .null ∧ Fld Z h qa1 "com/example/ratatoskr/ratatoskr/criteria/Filter" "left" "Lcom/example/ratatoskr/ratatoskr/criteria/Filter;" (.ref qa2) ∧ Fld Z h qa1 "com/example/ratatoskr/ratatoskr/criteria/Filter" "junction" "Lcom/example/ratatoskr/ratatoskr/criteria/Filter$Junction;" (.ref Gg1) ∧ Fld Z h qa1 "com/example/ratatoskr/ratatoskr/criteria/Filter" "right" "Lcom/example/ratatoskr/ratatoskr/criteria/Filter;" (.ref qa2)
theorem rm18 (l : Launch) (Z : State) (a0 : Array Value) (hw : HW a0 Z) (Gg0 : Addr) (Gg1 : Addr) (Gg2 : Addr) (qa1 : Addr) (qa2 : Addr) (h0 : Heap) (n0 : Nat) (X00 : Old Z n0 h0) (hEN : OwnEN Z Gg0 Gg1 Gg2) (E_qa1 : Exa Z h0 qa1 "com/example/ratatoskr/ratatoskr/criteria/Filter") (F_qa1_comparison : Fld Z h0 qa1 "com/example/ratatoskr/ratatoskr/criteria/Filter" "comparison" "Lcom/example/ratatoskr/ratatoskr/criteria/Filter$Comparison;" .null) (g_qa1 : n0 ≤ qa1) (F_qa1_left : Fld Z h0 qa1 "com/example/ratatoskr/ratatoskr/criteria/Filter" "left" "Lcom/example/ratatoskr/ratatoskr/criteria/Filter;" .null) (F_qa1_junction : Fld Z h0 qa1 "com/example/ratatoskr/ratatoskr/criteria/Filter" "junction" "Lcom/example/ratatoskr/ratatoskr/criteria/Filter$Junction;" .null) (E_qa2 : Exa Z h0 qa2 "com/example/ratatoskr/ratatoskr/criteria/Filter") (F_qa1_right : Fld Z h0 qa1 "com/example/ratatoskr/ratatoskr/criteria/Filter" "right" "Lcom/example/ratatoskr/ratatoskr/criteria/Filter;" .null) :
    MW l Z ([] : List (String × Nat)) Y10_ prog_13_method_4_code 4 none (Rm 1 2 28 14) #[.ref qa1, .ref qa2, .ref Gg1, .ref qa2] h0 (Q18 Z Gg1 qa1 qa2 h0 n0) := by
 refine own_sW pn1 rfl (fun m => ef5 m qa1 qa2 Gg1 qa2) ?_
 intro p e s m below meth c s₁ Bd hZ hh hx hby hml hown hnm X0 e0 pre0 hC0 hS0 hk0 hR0
 have N0 := Fr.nil n0
 have hEL := own_EW hw
 have hwS := own_wS hw
 obtain ⟨T1, X1, e1, st1⟩ := initO X0 hx hZ hown (w75_ hw) (w15_ hw) (w16_ hw) e0 (g := (mkF m 1 #[rv qa1, rv qa2, rv Gg1, rv qa2] [.ref qa1])) rfl hml.symm rfl (hb hby d11_1) (by decide) (W := 0) (own_hw rfl) (lE rfl)
 obtain ⟨T2, h2, X2, e2, W2, st2⟩ := putF X1 hx hZ hown (host := "") (Or.inl (w76_ hw)) Via.refl e1 F_qa1_comparison E_qa1 (Or.inr ⟨(w77_ hw), rfl, hnm⟩) (w2_ hw) (ty := (.object "com/example/ratatoskr/ratatoskr/criteria/Filter$Comparison")) (by decide) rfl rfl (g := (mkF m 6 #[rv qa1, rv qa2, rv Gg1, rv qa2] [.null, .ref qa1])) rfl rfl (hb hby d11_6)
 have N2 := Fr.snoc X2 N0 g_qa1
 have K3 := (Keep.refl h0 [qa1]).wr W2 (Or.inl (mI 0 rfl))
 have C4 : CHv Z ([] : List (String × Nat)) s.vm h2 := CHv.wr W2 (Safe.exa hZ.alike E_qa1 (by decide) (by decide)) hC0
 have R5 : CHr Z ([] : List (String × Nat)) s.vm h0 s.vm h2 := hR0.trans (CHr.wr W2 (Safe.exa hZ.alike E_qa1 (by decide) (by decide)) hC0)
 have F6_ : Fld Z h2 qa1 "com/example/ratatoskr/ratatoskr/criteria/Filter" "comparison" "Lcom/example/ratatoskr/ratatoskr/criteria/Filter$Comparison;" .null := F_qa1_comparison.same W2
 have F7_ := F_qa1_left.other W2 (Or.inr (slot_ne (Or.inr (w79_ hw)) (Or.inr (w77_ hw)) (by decide) (t := (.object "com/example/ratatoskr/ratatoskr/criteria/Filter")) (t' := (.object "com/example/ratatoskr/ratatoskr/criteria/Filter$Comparison")) (by decide) (by decide)))
 have E8_ := E_qa1.wr W2
 obtain ⟨T9, h9, X9, e9, W9, st9⟩ := putF X2 hx hZ hown (host := "") (Or.inl (w78_ hw)) Via.refl e2 F7_ E8_ (Or.inr ⟨(w79_ hw), rfl, hnm⟩) (w2_ hw) (ty := (.object "com/example/ratatoskr/ratatoskr/criteria/Filter")) (by decide) rfl rfl (g := (mkF m 11 #[rv qa1, rv qa2, rv Gg1, rv qa2] [.ref qa2, .ref qa1])) rfl rfl (hb hby d11_11)
 have N9 := Fr.snoc X9 N2 g_qa1
 have K10 := K3.wr W9 (Or.inl (mI 0 rfl))
 have C11 : CHv Z ([] : List (String × Nat)) s.vm h9 := CHv.wr W9 (Safe.exa hZ.alike E8_ (by decide) (by decide)) C4
 have R12 : CHr Z ([] : List (String × Nat)) s.vm h0 s.vm h9 := R5.trans (CHr.wr W9 (Safe.exa hZ.alike E8_ (by decide) (by decide)) C4)
 have F13_ : Fld Z h9 qa1 "com/example/ratatoskr/ratatoskr/criteria/Filter" "left" "Lcom/example/ratatoskr/ratatoskr/criteria/Filter;" (.ref qa2) := F7_.same W9
 have F14_ := F_qa1_junction.other W2 (Or.inr (slot_ne (Or.inr (w81_ hw)) (Or.inr (w77_ hw)) (by decide) (t := (.object "com/example/ratatoskr/ratatoskr/criteria/Filter$Junction")) (t' := (.object "com/example/ratatoskr/ratatoskr/criteria/Filter$Comparison")) (by decide) (by decide)))
 have F15_ := F14_.other W9 (Or.inr (slot_ne (Or.inr (w81_ hw)) (Or.inr (w79_ hw)) (by decide) (t := (.object "com/example/ratatoskr/ratatoskr/criteria/Filter$Junction")) (t' := (.object "com/example/ratatoskr/ratatoskr/criteria/Filter")) (by decide) (by decide)))
 have E16_ := E8_.wr W9
 obtain ⟨T17, h17, X17, e17, W17, st17⟩ := putF X9 hx hZ hown (host := "") (Or.inl (w80_ hw)) Via.refl e9 F15_ E16_ (Or.inr ⟨(w81_ hw), rfl, hnm⟩) (w2_ hw) (ty := (.object "com/example/ratatoskr/ratatoskr/criteria/Filter$Junction")) (by decide) rfl rfl (g := (mkF m 16 #[rv qa1, rv qa2, rv Gg1, rv qa2] [.ref Gg1, .ref qa1])) rfl rfl (hb hby d11_16)
 have N17 := Fr.snoc X17 N9 g_qa1
 have K18 := K10.wr W17 (Or.inl (mI 0 rfl))
 have C19 : CHv Z ([] : List (String × Nat)) s.vm h17 := CHv.wr W17 (Safe.exa hZ.alike E16_ (by decide) (by decide)) C11
 have R20 : CHr Z ([] : List (String × Nat)) s.vm h0 s.vm h17 := R12.trans (CHr.wr W17 (Safe.exa hZ.alike E16_ (by decide) (by decide)) C11)
 have F21_ : Fld Z h17 qa1 "com/example/ratatoskr/ratatoskr/criteria/Filter" "junction" "Lcom/example/ratatoskr/ratatoskr/criteria/Filter$Junction;" (.ref Gg1) := F15_.same W17
 have hk23' : _ ≤ h17.size := (Nat.le_trans (Nat.le_trans (Nat.le_trans hk0 (Nat.le_of_eq W2.size.symm)) (Nat.le_of_eq W9.size.symm)) (Nat.le_of_eq W17.size.symm))
 obtain ⟨b22, T22, h22, k22, X22, e22, E22, hS22, hk22, hZ22, ho22, CR22, -, st22⟩ := ldcOH (text := "filter") (EL := ([] : List (String × Nat))) X17 hx hZ hown (w116_ hw) hwS e17 hS0 hk23' hEL C19 (g := (mkF m 21 #[rv qa1, rv qa2, rv Gg1, rv qa2] [.ref qa2, .ref qa1])) rfl (hb hby d11_21) (n := 24) (by decide) (lE rfl) (lE rfl) (lE rfl)
 have K24 := K18.ext E22
 have R26 := R20.trans CR22
 replace X22 : Stand p l e (Rm 1 2 28 14) (s.setVm T22.vm) m #[.ref qa1, .ref qa2, .ref Gg1, .ref qa2] below meth c T22 _ 2 28 := X22
 have O28 := X00.wr W2 g_qa1
 have O29 := O28.wr W9 g_qa1
 have O30 := O29.wr W17 g_qa1
 have O31 := O30.ext E22
 obtain ⟨_, T27, L27, X27, hQ27, st27⟩ := own_cS 2 28 [.ref qa1] 23 #[rv qa1, rv qa2, rv Gg1, rv qa2] X22 hx hZ22 ho22 (w117_ hw) (w55_ hw) (w56_ hw) (w57_ hw) (rm2 l Z a0 hw  qa2 b22 h22 n0 O31 ) pd2 hml.symm (hb hby d11_23) e22 rfl rfl rfl rfl (by decide)
 obtain ⟨rfl, N27q, e27q⟩ := hQ27
 have N27 := Fr.app N17 N27q
 have E33_ := E_qa2.wr W2
 have E34_ := E33_.wr W9
 have E35_ := E34_.wr W17
 have E36_ := E35_.ext E22
 obtain ⟨T32, X32, e32, st32⟩ := castY X27 hx hZ22 ho22 (w109_ hw) e27q (Ins.self E36_) (g := (mkF m 26 #[rv qa1, rv qa2, rv Gg1, rv qa2] [.ref qa2, .ref qa1])) rfl rfl (hb hby d11_26)
 have F37_ := F_qa1_right.other W2 (Or.inr (slot_ne (Or.inr (w83_ hw)) (Or.inr (w77_ hw)) (by decide) (t := (.object "com/example/ratatoskr/ratatoskr/criteria/Filter")) (t' := (.object "com/example/ratatoskr/ratatoskr/criteria/Filter$Comparison")) (by decide) (by decide)))
 have F38_ := F37_.other W9 (Or.inr (slot_ne (Or.inr (w83_ hw)) (Or.inr (w79_ hw)) (by decide) (t := (.object "com/example/ratatoskr/ratatoskr/criteria/Filter")) (t' := (.object "com/example/ratatoskr/ratatoskr/criteria/Filter")) (by decide) (by decide)))
 have F39_ := F38_.other W17 (Or.inr (slot_ne (Or.inr (w83_ hw)) (Or.inr (w81_ hw)) (by decide) (t := (.object "com/example/ratatoskr/ratatoskr/criteria/Filter")) (t' := (.object "com/example/ratatoskr/ratatoskr/criteria/Filter$Junction")) (by decide) (by decide)))
 have F40_ := F39_.ext E22
 have E41_ := E16_.wr W17
 have E42_ := E41_.ext E22
 obtain ⟨T43, h43, X43, e43, W43, st43⟩ := putF X32 hx hZ22 ho22 (host := "") (Or.inl (w82_ hw)) Via.refl e32 F40_ E42_ (Or.inr ⟨(w83_ hw), rfl, hnm⟩) (w2_ hw) (ty := (.object "com/example/ratatoskr/ratatoskr/criteria/Filter")) (by decide) rfl rfl (g := (mkF m 29 #[rv qa1, rv qa2, rv Gg1, rv qa2] [.ref qa2, .ref qa1])) rfl rfl (hb hby d11_29)
 have N43 := Fr.snoc X43 N27 g_qa1
 have K44 := K24.wr W43 (Or.inl (mI 0 rfl))
 have C45 : CHv Z ([] : List (String × Nat)) T22.vm h43 := CHv.wr W43 (Safe.exa hZ22.alike E42_ (by decide) (by decide)) CR22.1
 have R46 : CHr Z ([] : List (String × Nat)) s.vm h0 T22.vm h43 := R26.trans (CHr.wr W43 (Safe.exa hZ22.alike E42_ (by decide) (by decide)) CR22.1)
 have F47_ : Fld Z h43 qa1 "com/example/ratatoskr/ratatoskr/criteria/Filter" "right" "Lcom/example/ratatoskr/ratatoskr/criteria/Filter;" (.ref qa2) := F40_.same W43
 have E48_ := E42_.wr W43
 have F49_ := F6_.other W9 (Or.inr (slot_ne (Or.inr (w77_ hw)) (Or.inr (w79_ hw)) (by decide) (t := (.object "com/example/ratatoskr/ratatoskr/criteria/Filter$Comparison")) (t' := (.object "com/example/ratatoskr/ratatoskr/criteria/Filter")) (by decide) (by decide)))
 have F50_ := F49_.other W17 (Or.inr (slot_ne (Or.inr (w77_ hw)) (Or.inr (w81_ hw)) (by decide) (t := (.object "com/example/ratatoskr/ratatoskr/criteria/Filter$Comparison")) (t' := (.object "com/example/ratatoskr/ratatoskr/criteria/Filter$Junction")) (by decide) (by decide)))
 have F51_ := F50_.ext E22
 have F52_ := F51_.other W43 (Or.inr (slot_ne (Or.inr (w77_ hw)) (Or.inr (w83_ hw)) (by decide) (t := (.object "com/example/ratatoskr/ratatoskr/criteria/Filter$Comparison")) (t' := (.object "com/example/ratatoskr/ratatoskr/criteria/Filter")) (by decide) (by decide)))
 have F53_ := F13_.other W17 (Or.inr (slot_ne (Or.inr (w79_ hw)) (Or.inr (w81_ hw)) (by decide) (t := (.object "com/example/ratatoskr/ratatoskr/criteria/Filter")) (t' := (.object "com/example/ratatoskr/ratatoskr/criteria/Filter$Junction")) (by decide) (by decide)))
 have F54_ := F53_.ext E22
 have F55_ := F54_.other W43 (Or.inr (slot_ne (Or.inr (w79_ hw)) (Or.inr (w83_ hw)) (by decide) (t := (.object "com/example/ratatoskr/ratatoskr/criteria/Filter")) (t' := (.object "com/example/ratatoskr/ratatoskr/criteria/Filter")) (by decide) (by decide)))
 have F56_ := F21_.ext E22
 have F57_ := F56_.other W43 (Or.inr (slot_ne (Or.inr (w81_ hw)) (Or.inr (w83_ hw)) (by decide) (t := (.object "com/example/ratatoskr/ratatoskr/criteria/Filter$Junction")) (t' := (.object "com/example/ratatoskr/ratatoskr/criteria/Filter")) (by decide) (by decide)))
 have hk58' : _ ≤ h43.size := (Nat.le_trans hk22 (Nat.le_of_eq W43.size.symm))
 refine own_lvW X43 Bd.notSynchronized hS22 hk58' (v := none) (fun _ => rfl) e43 hh ⟨rfl, N43, K44, E48_, F52_, F55_, F57_, F47_⟩ (R46.trans (CHv.at X43 hZ22 hEL C45)) (lE rfl) (lE rfl) (fun fs hr => pre0 _ (by
  show Sx p e below s₁ m 0 #[rv qa1, rv qa2, rv Gg1, rv qa2] [] _
  refine zb X0 Bd d11_0 rfl rfl ?_
  refine st1 _ ?_
  refine zb X1 Bd d11_4 rfl rfl ?_
  refine XS.aconstNull X1.here hx rfl (hb hby d11_5) ?_
  refine st2 _ ?_
  refine zb X2 Bd d11_9 rfl rfl ?_
  refine zb X2 Bd d11_10 rfl rfl ?_
  refine st9 _ ?_
  refine zb X9 Bd d11_14 rfl rfl ?_
  refine zb X9 Bd d11_15 rfl rfl ?_
  refine st17 _ ?_
  refine zb X17 Bd d11_19 rfl rfl ?_
  refine zb X17 Bd d11_20 rfl rfl ?_
  refine st22 _ ?_
  refine st27 _ ?_
  refine st32 _ ?_
  refine st43 _ ?_
  exact X43.returnOut hx Bd.returns (hb hby d11_32) hr))
-- com/example/ratatoskr/ratatoskr/criteria/Filter.or(Lcom/example/ratatoskr/ratatoskr/criteria/Filter;)Lcom/example/ratatoskr/ratatoskr/criteria/Filter;
def Q19 (Z : State) (Gg1 : Addr) (qa1 : Addr) (h0 : Heap) (n0 : Nat) (v : Option Value) (h : Heap) (L : List Loc) : Prop := ∃ b1 : Addr, v = some (.ref b1) ∧ Fr n0 L ∧ Keep h0 h [] ∧ h0.size ≤ b1 ∧ Exa Z h b1 "com/example/ratatoskr/ratatoskr/criteria/Filter" ∧ Fld Z h b1 "com/example/ratatoskr/ratatoskr/criteria/Filter" "comparison" "Lcom/example/ratatoskr/ratatoskr/criteria/Filter$Comparison;" .null ∧ Fld Z h b1 "com/example/ratatoskr/ratatoskr/criteria/Filter" "left" "Lcom/example/ratatoskr/ratatoskr/criteria/Filter;" (.ref qa1) ∧ Fld Z h b1 "com/example/ratatoskr/ratatoskr/criteria/Filter" "junction" "Lcom/example/ratatoskr/ratatoskr/criteria/Filter$Junction;" (.ref Gg1) ∧ Fld Z h b1 "com/example/ratatoskr/ratatoskr/criteria/Filter" "right" "Lcom/example/ratatoskr/ratatoskr/criteria/Filter;" (.ref qa1)
theorem rm19 (l : Launch) (Z : State) (a0 : Array Value) (hw : HW a0 Z) (Gg0 : Addr) (Gg1 : Addr) (Gg2 : Addr) (qa1 : Addr) (h0 : Heap) (n0 : Nat) (X00 : Old Z n0 h0) (hEN : OwnEN Z Gg0 Gg1 Gg2) (E_qa1 : Exa Z h0 qa1 "com/example/ratatoskr/ratatoskr/criteria/Filter") :
    MW l Z ([] : List (String × Nat)) Y11_ prog_13_method_6_code 2 (some (.object "com/example/ratatoskr/ratatoskr/criteria/Filter")) (Rm 2 3 32 30) #[.ref qa1, .ref qa1] h0 (Q19 Z Gg1 qa1 h0 n0) := by
 refine own_sW pn1 rfl (fun m => ef4 m qa1 qa1) ?_
 intro p e s m below meth c s₁ Bd hZ hh hx hby hml hown hnm X0 e0 pre0 hC0 hS0 hk0 hR0
 have N0 := Fr.nil n0
 have hEL := own_EW hw
 have hwS := own_wS hw
 obtain ⟨T1, h1, X1, e1, E1, A1, D1, -, st1⟩ := newO X0 hx hZ hown (w109_ hw) (w2_ hw) (w3_ hw) e0 (g := (mkF m 0 #[rv qa1, rv qa1] [])) rfl (hb hby d10_0) (lE rfl) (lE rfl)
 obtain ⟨b1, g1⟩ : ∃ z, z = h0.size := ⟨_, rfl⟩
 rw [← g1] at A1 D1 st1
 replace X1 : Stand p l e (Rm 2 3 32 30) (s.setVm s.vm) m #[.ref qa1, .ref qa1] below meth c T1 _ 1 4 := X1
 have K2 := (Keep.refl h0 []).ext E1
 have C3 : CHv Z ([] : List (String × Nat)) s.vm h1 := CHv.ext E1 hC0
 have R4 : CHr Z ([] : List (String × Nat)) s.vm h0 s.vm h1 := hR0.trans (CHr.ext E1 hC0)
 have F5_ : Fld Z h1 b1 "com/example/ratatoskr/ratatoskr/criteria/Filter" "comparison" "Lcom/example/ratatoskr/ratatoskr/criteria/Filter$Comparison;" .null := D1 (Or.inr (w77_ hw)) (ty := (.object "com/example/ratatoskr/ratatoskr/criteria/Filter$Comparison")) (by decide)
 have F6_ : Fld Z h1 b1 "com/example/ratatoskr/ratatoskr/criteria/Filter" "left" "Lcom/example/ratatoskr/ratatoskr/criteria/Filter;" .null := D1 (Or.inr (w79_ hw)) (ty := (.object "com/example/ratatoskr/ratatoskr/criteria/Filter")) (by decide)
 have F7_ : Fld Z h1 b1 "com/example/ratatoskr/ratatoskr/criteria/Filter" "junction" "Lcom/example/ratatoskr/ratatoskr/criteria/Filter$Junction;" .null := D1 (Or.inr (w81_ hw)) (ty := (.object "com/example/ratatoskr/ratatoskr/criteria/Filter$Junction")) (by decide)
 have F8_ : Fld Z h1 b1 "com/example/ratatoskr/ratatoskr/criteria/Filter" "right" "Lcom/example/ratatoskr/ratatoskr/criteria/Filter;" .null := D1 (Or.inr (w83_ hw)) (ty := (.object "com/example/ratatoskr/ratatoskr/criteria/Filter")) (by decide)
 have O10 := X00.ext E1
 obtain ⟨T9, X9, e9, st9⟩ := getS2 X1 hx hZ hown (host := "") (Or.inl (w110_ hw)) Via.refl e1 (hEN.2.2.1.ext O10.2) (g := (mkF m 5 #[rv qa1, rv qa1] [.ref qa1, .ref b1, .ref b1])) rfl (hb hby d10_5)
 have g_b1 : n0 ≤ b1 := Nat.le_trans (Nat.le_trans (Nat.le_of_eq X00.1.symm) X00.2.1) (Nat.le_of_eq g1.symm)
 have E12_ := E_qa1.ext E1
 have hk13' : _ ≤ h1.size := (Nat.le_trans hk0 E1.1)
 obtain ⟨_, T11, L11, X11, hQ11, hS11, hZ11, ho11, CR11, st11⟩ := own_cbS 1 4 2 28 3 32 (X9.specialBackS hx (y := Y10_) rfl hown (mvT hZ (w113_ hw)) (mvT hZ (w114_ hw)) (mvT hZ (w115_ hw)) (by decide) (backOfSH (W := 1) (EL := ([] : List (String × Nat))) (s := s) (rm18 l Z a0 hw Gg0 Gg1 Gg2 b1 qa1 h1 n0 O10 hEN A1 F5_ g_b1 F6_ F7_ E12_ F8_) hZ (w115_ hw) (w3_ hw) (lE rfl) (lE rfl) hEL C3) (g := (mkF m 9 #[rv qa1, rv qa1] [.ref qa1, .ref Gg1, .ref qa1, .ref b1, .ref b1])) rfl hml.symm (Steps.refl _) (a := b1) (argsL := [.ref qa1, .ref Gg1, .ref qa1]) (rest := [.ref b1]) (lenOf pd10 rfl) rfl (own_hw rfl) (hb hby d10_9) (fun _ _ => ⟨rfl, e9, (lE rfl : 1 + 2 ≤ _), (lE rfl : 4 + 28 ≤ _)⟩)) rfl rfl hS0 (by rw [e9]; exact hk13') hZ hown
 obtain ⟨rfl, N11q, K11q, w14, w15, w16, w17, w18⟩ := hQ11
 have N11 := Fr.app N0 N11q
 have hk11 : T11.heap.size ≤ T11.heap.size := Nat.le_refl _
 have sz_b1 : h0.size ≤ b1 := (Nat.le_of_eq g1.symm)
 have K19 := K2.trans K11q (allS (Or.inr sz_b1) all0)
 have R21 := R4.trans CR11
 have E22_ := A1.keep K11q
 refine own_lvW X11 Bd.notSynchronized hS11 hk11 (v := (some (.ref b1))) (fun h => by rw [Bd.returns] at h; cases h) rfl hh ⟨b1, rfl, N11, K19, sz_b1, E22_, w15, w16, w17, w18⟩ (R21.trans (CHv.at X11 hZ11 hEL CR11.1)) (lE rfl) (lE rfl) (fun fs hr => pre0 _ (by
  show Sx p e below s₁ m 0 #[rv qa1, rv qa1] [] _
  refine st1 _ ?_
  refine XS.dup X1.here hx rfl (hb hby d10_3) rfl rfl ?_
  refine zb X1 Bd d10_4 rfl rfl ?_
  refine st9 _ ?_
  refine zb X9 Bd d10_8 rfl rfl ?_
  refine st11.trans ?_
  exact retOut X11 hx Bd.returns rfl (Or.inr (Or.inr (Or.inr (Or.inr ⟨rfl, rfl, rfl⟩)))) (hb hby d10_12) hr))
theorem d12_0 : decode prog_13_method_5_code 0 = .ok (.new 8, 3) := by decide +kernel
theorem d12_3 : decode prog_13_method_5_code 3 = .ok (.dup, 1) := by decide +kernel
theorem d12_4 : decode prog_13_method_5_code 4 = .ok (.aload_n 0, 1) := by decide +kernel
theorem d12_5 : decode prog_13_method_5_code 5 = .ok (.getstatic 40, 3) := by decide +kernel
theorem d12_8 : decode prog_13_method_5_code 8 = .ok (.aload_n 1, 1) := by decide +kernel
theorem d12_9 : decode prog_13_method_5_code 9 = .ok (.invokespecial 45, 3) := by decide +kernel
-- com/example/ratatoskr/ratatoskr/criteria/Filter.<init>(Lcom/example/ratatoskr/ratatoskr/criteria/Filter;Lcom/example/ratatoskr/ratatoskr/criteria/Filter$Junction;Lcom/example/ratatoskr/ratatoskr/criteria/Filter;)V
def Q20 (Z : State) (Gg2 : Addr) (qa1 : Addr) (qa2 : Addr) (qa3 : Addr) (h0 : Heap) (n0 : Nat) (v : Option Value) (h : Heap) (L : List Loc) : Prop := v = none ∧ Fr n0 L ∧ Keep h0 h [qa1] ∧ Exa Z h qa1 "com/example/ratatoskr/ratatoskr/criteria/Filter" ∧ Fld Z h qa1 "com/example/ratatoskr/ratatoskr/criteria/Filter" "comparison" "Lcom/example/ratatoskr/ratatoskr/criteria/Filter$Comparison;" .null ∧ Fld Z h qa1 "com/example/ratatoskr/ratatoskr/criteria/Filter" "left" "Lcom/example/ratatoskr/ratatoskr/criteria/Filter;" (.ref qa2) ∧ Fld Z h qa1 "com/example/ratatoskr/ratatoskr/criteria/Filter" "junction" "Lcom/example/ratatoskr/ratatoskr/criteria/Filter$Junction;" (.ref Gg2) ∧ Fld Z h qa1 "com/example/ratatoskr/ratatoskr/criteria/Filter" "right" "Lcom/example/ratatoskr/ratatoskr/criteria/Filter;" (.ref qa3)
theorem rm20 (l : Launch) (Z : State) (a0 : Array Value) (hw : HW a0 Z) (Gg0 : Addr) (Gg1 : Addr) (Gg2 : Addr) (qa1 : Addr) (qa2 : Addr) (qa3 : Addr) (h0 : Heap) (n0 : Nat) (X00 : Old Z n0 h0) (hEN : OwnEN Z Gg0 Gg1 Gg2) (E_qa1 : Exa Z h0 qa1 "com/example/ratatoskr/ratatoskr/criteria/Filter") (F_qa1_comparison : Fld Z h0 qa1 "com/example/ratatoskr/ratatoskr/criteria/Filter" "comparison" "Lcom/example/ratatoskr/ratatoskr/criteria/Filter$Comparison;" .null) (g_qa1 : n0 ≤ qa1) (F_qa1_left : Fld Z h0 qa1 "com/example/ratatoskr/ratatoskr/criteria/Filter" "left" "Lcom/example/ratatoskr/ratatoskr/criteria/Filter;" .null) (F_qa1_junction : Fld Z h0 qa1 "com/example/ratatoskr/ratatoskr/criteria/Filter" "junction" "Lcom/example/ratatoskr/ratatoskr/criteria/Filter$Junction;" .null) (E_qa3 : Exa Z h0 qa3 "com/example/ratatoskr/ratatoskr/criteria/Filter") (F_qa1_right : Fld Z h0 qa1 "com/example/ratatoskr/ratatoskr/criteria/Filter" "right" "Lcom/example/ratatoskr/ratatoskr/criteria/Filter;" .null) :
    MW l Z ([] : List (String × Nat)) Y10_ prog_13_method_4_code 4 none (Rm 1 2 28 14) #[.ref qa1, .ref qa2, .ref Gg2, .ref qa3] h0 (Q20 Z Gg2 qa1 qa2 qa3 h0 n0) := by
 refine own_sW pn1 rfl (fun m => ef5 m qa1 qa2 Gg2 qa3) ?_
 intro p e s m below meth c s₁ Bd hZ hh hx hby hml hown hnm X0 e0 pre0 hC0 hS0 hk0 hR0
 have N0 := Fr.nil n0
 have hEL := own_EW hw
 have hwS := own_wS hw
 obtain ⟨T1, X1, e1, st1⟩ := initO X0 hx hZ hown (w75_ hw) (w15_ hw) (w16_ hw) e0 (g := (mkF m 1 #[rv qa1, rv qa2, rv Gg2, rv qa3] [.ref qa1])) rfl hml.symm rfl (hb hby d11_1) (by decide) (W := 0) (own_hw rfl) (lE rfl)
 obtain ⟨T2, h2, X2, e2, W2, st2⟩ := putF X1 hx hZ hown (host := "") (Or.inl (w76_ hw)) Via.refl e1 F_qa1_comparison E_qa1 (Or.inr ⟨(w77_ hw), rfl, hnm⟩) (w2_ hw) (ty := (.object "com/example/ratatoskr/ratatoskr/criteria/Filter$Comparison")) (by decide) rfl rfl (g := (mkF m 6 #[rv qa1, rv qa2, rv Gg2, rv qa3] [.null, .ref qa1])) rfl rfl (hb hby d11_6)
 have N2 := Fr.snoc X2 N0 g_qa1
 have K3 := (Keep.refl h0 [qa1]).wr W2 (Or.inl (mI 0 rfl))
 have C4 : CHv Z ([] : List (String × Nat)) s.vm h2 := CHv.wr W2 (Safe.exa hZ.alike E_qa1 (by decide) (by decide)) hC0
 have R5 : CHr Z ([] : List (String × Nat)) s.vm h0 s.vm h2 := hR0.trans (CHr.wr W2 (Safe.exa hZ.alike E_qa1 (by decide) (by decide)) hC0)
 have F6_ : Fld Z h2 qa1 "com/example/ratatoskr/ratatoskr/criteria/Filter" "comparison" "Lcom/example/ratatoskr/ratatoskr/criteria/Filter$Comparison;" .null := F_qa1_comparison.same W2
 have F7_ := F_qa1_left.other W2 (Or.inr (slot_ne (Or.inr (w79_ hw)) (Or.inr (w77_ hw)) (by decide) (t := (.object "com/example/ratatoskr/ratatoskr/criteria/Filter")) (t' := (.object "com/example/ratatoskr/ratatoskr/criteria/Filter$Comparison")) (by decide) (by decide)))
 have E8_ := E_qa1.wr W2
 obtain ⟨T9, h9, X9, e9, W9, st9⟩ := putF X2 hx hZ hown (host := "") (Or.inl (w78_ hw)) Via.refl e2 F7_ E8_ (Or.inr ⟨(w79_ hw), rfl, hnm⟩) (w2_ hw) (ty := (.object "com/example/ratatoskr/ratatoskr/criteria/Filter")) (by decide) rfl rfl (g := (mkF m 11 #[rv qa1, rv qa2, rv Gg2, rv qa3] [.ref qa2, .ref qa1])) rfl rfl (hb hby d11_11)
 have N9 := Fr.snoc X9 N2 g_qa1
 have K10 := K3.wr W9 (Or.inl (mI 0 rfl))
 have C11 : CHv Z ([] : List (String × Nat)) s.vm h9 := CHv.wr W9 (Safe.exa hZ.alike E8_ (by decide) (by decide)) C4
 have R12 : CHr Z ([] : List (String × Nat)) s.vm h0 s.vm h9 := R5.trans (CHr.wr W9 (Safe.exa hZ.alike E8_ (by decide) (by decide)) C4)
 have F13_ : Fld Z h9 qa1 "com/example/ratatoskr/ratatoskr/criteria/Filter" "left" "Lcom/example/ratatoskr/ratatoskr/criteria/Filter;" (.ref qa2) := F7_.same W9
 have F14_ := F_qa1_junction.other W2 (Or.inr (slot_ne (Or.inr (w81_ hw)) (Or.inr (w77_ hw)) (by decide) (t := (.object "com/example/ratatoskr/ratatoskr/criteria/Filter$Junction")) (t' := (.object "com/example/ratatoskr/ratatoskr/criteria/Filter$Comparison")) (by decide) (by decide)))
 have F15_ := F14_.other W9 (Or.inr (slot_ne (Or.inr (w81_ hw)) (Or.inr (w79_ hw)) (by decide) (t := (.object "com/example/ratatoskr/ratatoskr/criteria/Filter$Junction")) (t' := (.object "com/example/ratatoskr/ratatoskr/criteria/Filter")) (by decide) (by decide)))
 have E16_ := E8_.wr W9
 obtain ⟨T17, h17, X17, e17, W17, st17⟩ := putF X9 hx hZ hown (host := "") (Or.inl (w80_ hw)) Via.refl e9 F15_ E16_ (Or.inr ⟨(w81_ hw), rfl, hnm⟩) (w2_ hw) (ty := (.object "com/example/ratatoskr/ratatoskr/criteria/Filter$Junction")) (by decide) rfl rfl (g := (mkF m 16 #[rv qa1, rv qa2, rv Gg2, rv qa3] [.ref Gg2, .ref qa1])) rfl rfl (hb hby d11_16)
 have N17 := Fr.snoc X17 N9 g_qa1
 have K18 := K10.wr W17 (Or.inl (mI 0 rfl))
 have C19 : CHv Z ([] : List (String × Nat)) s.vm h17 := CHv.wr W17 (Safe.exa hZ.alike E16_ (by decide) (by decide)) C11
 have R20 : CHr Z ([] : List (String × Nat)) s.vm h0 s.vm h17 := R12.trans (CHr.wr W17 (Safe.exa hZ.alike E16_ (by decide) (by decide)) C11)
 have F21_ : Fld Z h17 qa1 "com/example/ratatoskr/ratatoskr/criteria/Filter" "junction" "Lcom/example/ratatoskr/ratatoskr/criteria/Filter$Junction;" (.ref Gg2) := F15_.same W17
 have hk23' : _ ≤ h17.size := (Nat.le_trans (Nat.le_trans (Nat.le_trans hk0 (Nat.le_of_eq W2.size.symm)) (Nat.le_of_eq W9.size.symm)) (Nat.le_of_eq W17.size.symm))
 obtain ⟨b22, T22, h22, k22, X22, e22, E22, hS22, hk22, hZ22, ho22, CR22, -, st22⟩ := ldcOH (text := "filter") (EL := ([] : List (String × Nat))) X17 hx hZ hown (w116_ hw) hwS e17 hS0 hk23' hEL C19 (g := (mkF m 21 #[rv qa1, rv qa2, rv Gg2, rv qa3] [.ref qa3, .ref qa1])) rfl (hb hby d11_21) (n := 24) (by decide) (lE rfl) (lE rfl) (lE rfl)
 have K24 := K18.ext E22
 have R26 := R20.trans CR22
 replace X22 : Stand p l e (Rm 1 2 28 14) (s.setVm T22.vm) m #[.ref qa1, .ref qa2, .ref Gg2, .ref qa3] below meth c T22 _ 2 28 := X22
 have O28 := X00.wr W2 g_qa1
 have O29 := O28.wr W9 g_qa1
 have O30 := O29.wr W17 g_qa1
 have O31 := O30.ext E22
 obtain ⟨_, T27, L27, X27, hQ27, st27⟩ := own_cS 2 28 [.ref qa1] 23 #[rv qa1, rv qa2, rv Gg2, rv qa3] X22 hx hZ22 ho22 (w117_ hw) (w55_ hw) (w56_ hw) (w57_ hw) (rm2 l Z a0 hw  qa3 b22 h22 n0 O31 ) pd2 hml.symm (hb hby d11_23) e22 rfl rfl rfl rfl (by decide)
 obtain ⟨rfl, N27q, e27q⟩ := hQ27
 have N27 := Fr.app N17 N27q
 have E33_ := E_qa3.wr W2
 have E34_ := E33_.wr W9
 have E35_ := E34_.wr W17
 have E36_ := E35_.ext E22
 obtain ⟨T32, X32, e32, st32⟩ := castY X27 hx hZ22 ho22 (w109_ hw) e27q (Ins.self E36_) (g := (mkF m 26 #[rv qa1, rv qa2, rv Gg2, rv qa3] [.ref qa3, .ref qa1])) rfl rfl (hb hby d11_26)
 have F37_ := F_qa1_right.other W2 (Or.inr (slot_ne (Or.inr (w83_ hw)) (Or.inr (w77_ hw)) (by decide) (t := (.object "com/example/ratatoskr/ratatoskr/criteria/Filter")) (t' := (.object "com/example/ratatoskr/ratatoskr/criteria/Filter$Comparison")) (by decide) (by decide)))
 have F38_ := F37_.other W9 (Or.inr (slot_ne (Or.inr (w83_ hw)) (Or.inr (w79_ hw)) (by decide) (t := (.object "com/example/ratatoskr/ratatoskr/criteria/Filter")) (t' := (.object "com/example/ratatoskr/ratatoskr/criteria/Filter")) (by decide) (by decide)))
 have F39_ := F38_.other W17 (Or.inr (slot_ne (Or.inr (w83_ hw)) (Or.inr (w81_ hw)) (by decide) (t := (.object "com/example/ratatoskr/ratatoskr/criteria/Filter")) (t' := (.object "com/example/ratatoskr/ratatoskr/criteria/Filter$Junction")) (by decide) (by decide)))
 have F40_ := F39_.ext E22
 have E41_ := E16_.wr W17
 have E42_ := E41_.ext E22
 obtain ⟨T43, h43, X43, e43, W43, st43⟩ := putF X32 hx hZ22 ho22 (host := "") (Or.inl (w82_ hw)) Via.refl e32 F40_ E42_ (Or.inr ⟨(w83_ hw), rfl, hnm⟩) (w2_ hw) (ty := (.object "com/example/ratatoskr/ratatoskr/criteria/Filter")) (by decide) rfl rfl (g := (mkF m 29 #[rv qa1, rv qa2, rv Gg2, rv qa3] [.ref qa3, .ref qa1])) rfl rfl (hb hby d11_29)
 have N43 := Fr.snoc X43 N27 g_qa1
 have K44 := K24.wr W43 (Or.inl (mI 0 rfl))
 have C45 : CHv Z ([] : List (String × Nat)) T22.vm h43 := CHv.wr W43 (Safe.exa hZ22.alike E42_ (by decide) (by decide)) CR22.1
 have R46 : CHr Z ([] : List (String × Nat)) s.vm h0 T22.vm h43 := R26.trans (CHr.wr W43 (Safe.exa hZ22.alike E42_ (by decide) (by decide)) CR22.1)
 have F47_ : Fld Z h43 qa1 "com/example/ratatoskr/ratatoskr/criteria/Filter" "right" "Lcom/example/ratatoskr/ratatoskr/criteria/Filter;" (.ref qa3) := F40_.same W43
 have E48_ := E42_.wr W43
 have F49_ := F6_.other W9 (Or.inr (slot_ne (Or.inr (w77_ hw)) (Or.inr (w79_ hw)) (by decide) (t := (.object "com/example/ratatoskr/ratatoskr/criteria/Filter$Comparison")) (t' := (.object "com/example/ratatoskr/ratatoskr/criteria/Filter")) (by decide) (by decide)))
 have F50_ := F49_.other W17 (Or.inr (slot_ne (Or.inr (w77_ hw)) (Or.inr (w81_ hw)) (by decide) (t := (.object "com/example/ratatoskr/ratatoskr/criteria/Filter$Comparison")) (t' := (.object "com/example/ratatoskr/ratatoskr/criteria/Filter$Junction")) (by decide) (by decide)))
 have F51_ := F50_.ext E22
 have F52_ := F51_.other W43 (Or.inr (slot_ne (Or.inr (w77_ hw)) (Or.inr (w83_ hw)) (by decide) (t := (.object "com/example/ratatoskr/ratatoskr/criteria/Filter$Comparison")) (t' := (.object "com/example/ratatoskr/ratatoskr/criteria/Filter")) (by decide) (by decide)))
 have F53_ := F13_.other W17 (Or.inr (slot_ne (Or.inr (w79_ hw)) (Or.inr (w81_ hw)) (by decide) (t := (.object "com/example/ratatoskr/ratatoskr/criteria/Filter")) (t' := (.object "com/example/ratatoskr/ratatoskr/criteria/Filter$Junction")) (by decide) (by decide)))
 have F54_ := F53_.ext E22
 have F55_ := F54_.other W43 (Or.inr (slot_ne (Or.inr (w79_ hw)) (Or.inr (w83_ hw)) (by decide) (t := (.object "com/example/ratatoskr/ratatoskr/criteria/Filter")) (t' := (.object "com/example/ratatoskr/ratatoskr/criteria/Filter")) (by decide) (by decide)))
 have F56_ := F21_.ext E22
 have F57_ := F56_.other W43 (Or.inr (slot_ne (Or.inr (w81_ hw)) (Or.inr (w83_ hw)) (by decide) (t := (.object "com/example/ratatoskr/ratatoskr/criteria/Filter$Junction")) (t' := (.object "com/example/ratatoskr/ratatoskr/criteria/Filter")) (by decide) (by decide)))
 have hk58' : _ ≤ h43.size := (Nat.le_trans hk22 (Nat.le_of_eq W43.size.symm))
 refine own_lvW X43 Bd.notSynchronized hS22 hk58' (v := none) (fun _ => rfl) e43 hh ⟨rfl, N43, K44, E48_, F52_, F55_, F57_, F47_⟩ (R46.trans (CHv.at X43 hZ22 hEL C45)) (lE rfl) (lE rfl) (fun fs hr => pre0 _ (by
  show Sx p e below s₁ m 0 #[rv qa1, rv qa2, rv Gg2, rv qa3] [] _
  refine zb X0 Bd d11_0 rfl rfl ?_
  refine st1 _ ?_
  refine zb X1 Bd d11_4 rfl rfl ?_
  refine XS.aconstNull X1.here hx rfl (hb hby d11_5) ?_
  refine st2 _ ?_
  refine zb X2 Bd d11_9 rfl rfl ?_
  refine zb X2 Bd d11_10 rfl rfl ?_
  refine st9 _ ?_
  refine zb X9 Bd d11_14 rfl rfl ?_
  refine zb X9 Bd d11_15 rfl rfl ?_
  refine st17 _ ?_
  refine zb X17 Bd d11_19 rfl rfl ?_
  refine zb X17 Bd d11_20 rfl rfl ?_
  refine st22 _ ?_
  refine st27 _ ?_
  refine st32 _ ?_
  refine st43 _ ?_
  exact X43.returnOut hx Bd.returns (hb hby d11_32) hr))
theorem d12_12 : decode prog_13_method_5_code 12 = .ok (.areturn, 1) := by decide +kernel
-- com/example/ratatoskr/ratatoskr/criteria/Filter.and(Lcom/example/ratatoskr/ratatoskr/criteria/Filter;)Lcom/example/ratatoskr/ratatoskr/criteria/Filter;
def Q21 (Z : State) (Gg2 : Addr) (qa1 : Addr) (qa2 : Addr) (h0 : Heap) (n0 : Nat) (v : Option Value) (h : Heap) (L : List Loc) : Prop := ∃ b1 : Addr, v = some (.ref b1) ∧ Fr n0 L ∧ Keep h0 h [] ∧ h0.size ≤ b1 ∧ Exa Z h b1 "com/example/ratatoskr/ratatoskr/criteria/Filter" ∧ Fld Z h b1 "com/example/ratatoskr/ratatoskr/criteria/Filter" "comparison" "Lcom/example/ratatoskr/ratatoskr/criteria/Filter$Comparison;" .null ∧ Fld Z h b1 "com/example/ratatoskr/ratatoskr/criteria/Filter" "left" "Lcom/example/ratatoskr/ratatoskr/criteria/Filter;" (.ref qa1) ∧ Fld Z h b1 "com/example/ratatoskr/ratatoskr/criteria/Filter" "junction" "Lcom/example/ratatoskr/ratatoskr/criteria/Filter$Junction;" (.ref Gg2) ∧ Fld Z h b1 "com/example/ratatoskr/ratatoskr/criteria/Filter" "right" "Lcom/example/ratatoskr/ratatoskr/criteria/Filter;" (.ref qa2)
theorem rm21 (l : Launch) (Z : State) (a0 : Array Value) (hw : HW a0 Z) (Gg0 : Addr) (Gg1 : Addr) (Gg2 : Addr) (qa1 : Addr) (qa2 : Addr) (h0 : Heap) (n0 : Nat) (X00 : Old Z n0 h0) (hEN : OwnEN Z Gg0 Gg1 Gg2) (E_qa2 : Exa Z h0 qa2 "com/example/ratatoskr/ratatoskr/criteria/Filter") :
    MW l Z ([] : List (String × Nat)) Y12_ prog_13_method_5_code 2 (some (.object "com/example/ratatoskr/ratatoskr/criteria/Filter")) (Rm 2 3 32 30) #[.ref qa1, .ref qa2] h0 (Q21 Z Gg2 qa1 qa2 h0 n0) := by
 refine own_sW pn1 rfl (fun m => ef4 m qa1 qa2) ?_
 intro p e s m below meth c s₁ Bd hZ hh hx hby hml hown hnm X0 e0 pre0 hC0 hS0 hk0 hR0
 have N0 := Fr.nil n0
 have hEL := own_EW hw
 have hwS := own_wS hw
 obtain ⟨T1, h1, X1, e1, E1, A1, D1, -, st1⟩ := newO X0 hx hZ hown (w109_ hw) (w2_ hw) (w3_ hw) e0 (g := (mkF m 0 #[rv qa1, rv qa2] [])) rfl (hb hby d12_0) (lE rfl) (lE rfl)
 obtain ⟨b1, g1⟩ : ∃ z, z = h0.size := ⟨_, rfl⟩
 rw [← g1] at A1 D1 st1
 replace X1 : Stand p l e (Rm 2 3 32 30) (s.setVm s.vm) m #[.ref qa1, .ref qa2] below meth c T1 _ 1 4 := X1
 have K2 := (Keep.refl h0 []).ext E1
 have C3 : CHv Z ([] : List (String × Nat)) s.vm h1 := CHv.ext E1 hC0
 have R4 : CHr Z ([] : List (String × Nat)) s.vm h0 s.vm h1 := hR0.trans (CHr.ext E1 hC0)
 have F5_ : Fld Z h1 b1 "com/example/ratatoskr/ratatoskr/criteria/Filter" "comparison" "Lcom/example/ratatoskr/ratatoskr/criteria/Filter$Comparison;" .null := D1 (Or.inr (w77_ hw)) (ty := (.object "com/example/ratatoskr/ratatoskr/criteria/Filter$Comparison")) (by decide)
 have F6_ : Fld Z h1 b1 "com/example/ratatoskr/ratatoskr/criteria/Filter" "left" "Lcom/example/ratatoskr/ratatoskr/criteria/Filter;" .null := D1 (Or.inr (w79_ hw)) (ty := (.object "com/example/ratatoskr/ratatoskr/criteria/Filter")) (by decide)
 have F7_ : Fld Z h1 b1 "com/example/ratatoskr/ratatoskr/criteria/Filter" "junction" "Lcom/example/ratatoskr/ratatoskr/criteria/Filter$Junction;" .null := D1 (Or.inr (w81_ hw)) (ty := (.object "com/example/ratatoskr/ratatoskr/criteria/Filter$Junction")) (by decide)
 have F8_ : Fld Z h1 b1 "com/example/ratatoskr/ratatoskr/criteria/Filter" "right" "Lcom/example/ratatoskr/ratatoskr/criteria/Filter;" .null := D1 (Or.inr (w83_ hw)) (ty := (.object "com/example/ratatoskr/ratatoskr/criteria/Filter")) (by decide)
 have O10 := X00.ext E1
 obtain ⟨T9, X9, e9, st9⟩ := getS2 X1 hx hZ hown (host := "") (Or.inl (w125_ hw)) Via.refl e1 (hEN.2.2.2.2.1.ext O10.2) (g := (mkF m 5 #[rv qa1, rv qa2] [.ref qa1, .ref b1, .ref b1])) rfl (hb hby d12_5)
 have g_b1 : n0 ≤ b1 := Nat.le_trans (Nat.le_trans (Nat.le_of_eq X00.1.symm) X00.2.1) (Nat.le_of_eq g1.symm)
 have E12_ := E_qa2.ext E1
 have hk13' : _ ≤ h1.size := (Nat.le_trans hk0 E1.1)
 obtain ⟨_, T11, L11, X11, hQ11, hS11, hZ11, ho11, CR11, st11⟩ := own_cbS 1 4 2 28 3 32 (X9.specialBackS hx (y := Y10_) rfl hown (mvT hZ (w113_ hw)) (mvT hZ (w114_ hw)) (mvT hZ (w115_ hw)) (by decide) (backOfSH (W := 1) (EL := ([] : List (String × Nat))) (s := s) (rm20 l Z a0 hw Gg0 Gg1 Gg2 b1 qa1 qa2 h1 n0 O10 hEN A1 F5_ g_b1 F6_ F7_ E12_ F8_) hZ (w115_ hw) (w3_ hw) (lE rfl) (lE rfl) hEL C3) (g := (mkF m 9 #[rv qa1, rv qa2] [.ref qa2, .ref Gg2, .ref qa1, .ref b1, .ref b1])) rfl hml.symm (Steps.refl _) (a := b1) (argsL := [.ref qa1, .ref Gg2, .ref qa2]) (rest := [.ref b1]) (lenOf pd10 rfl) rfl (own_hw rfl) (hb hby d12_9) (fun _ _ => ⟨rfl, e9, (lE rfl : 1 + 2 ≤ _), (lE rfl : 4 + 28 ≤ _)⟩)) rfl rfl hS0 (by rw [e9]; exact hk13') hZ hown
 obtain ⟨rfl, N11q, K11q, w14, w15, w16, w17, w18⟩ := hQ11
 have N11 := Fr.app N0 N11q
 have hk11 : T11.heap.size ≤ T11.heap.size := Nat.le_refl _
 have sz_b1 : h0.size ≤ b1 := (Nat.le_of_eq g1.symm)
 have K19 := K2.trans K11q (allS (Or.inr sz_b1) all0)
 have R21 := R4.trans CR11
 have E22_ := A1.keep K11q
 refine own_lvW X11 Bd.notSynchronized hS11 hk11 (v := (some (.ref b1))) (fun h => by rw [Bd.returns] at h; cases h) rfl hh ⟨b1, rfl, N11, K19, sz_b1, E22_, w15, w16, w17, w18⟩ (R21.trans (CHv.at X11 hZ11 hEL CR11.1)) (lE rfl) (lE rfl) (fun fs hr => pre0 _ (by
  show Sx p e below s₁ m 0 #[rv qa1, rv qa2] [] _
  refine st1 _ ?_
  refine XS.dup X1.here hx rfl (hb hby d12_3) rfl rfl ?_
  refine zb X1 Bd d12_4 rfl rfl ?_
  refine st9 _ ?_
  refine zb X9 Bd d12_8 rfl rfl ?_
  refine st11.trans ?_
  exact retOut X11 hx Bd.returns rfl (Or.inr (Or.inr (Or.inr (Or.inr ⟨rfl, rfl, rfl⟩)))) (hb hby d12_12) hr))
-- com/example/ratatoskr/ratatoskr/criteria/Filter.junction()Lcom/example/ratatoskr/ratatoskr/criteria/Filter$Junction;
def Q22 (Z : State) (Gg2 : Addr) (h0 : Heap) (n0 : Nat) (v : Option Value) (h : Heap) (L : List Loc) : Prop := v = some (.ref Gg2) ∧ Fr n0 L ∧ h = h0
theorem rm22 (l : Launch) (Z : State) (a0 : Array Value) (hw : HW a0 Z) (Gg0 : Addr) (Gg1 : Addr) (Gg2 : Addr) (qa1 : Addr) (h0 : Heap) (n0 : Nat) (X00 : Old Z n0 h0) (hEN : OwnEN Z Gg0 Gg1 Gg2) (F_qa1_junction : Fld Z h0 qa1 "com/example/ratatoskr/ratatoskr/criteria/Filter" "junction" "Lcom/example/ratatoskr/ratatoskr/criteria/Filter$Junction;" (.ref Gg2)) :
    MF l Z Y8_ prog_13_method_9_code 1 (some (.object "com/example/ratatoskr/ratatoskr/criteria/Filter$Junction")) (Rm 0 0 0 0) #[.ref qa1] h0 (Q22 Z Gg2 h0 n0) := by
 refine own_sF pn1 rfl (fun m => ef3 m qa1) ?_
 intro p e s m below meth c s₁ Bd hZ hh hx hby hml hown hnm X0 e0 pre0
 have N0 := Fr.nil n0
 obtain ⟨T1, X1, e1, st1⟩ := getF X0 hx hZ hown (host := "") (Or.inl (w80_ hw)) Via.refl e0 F_qa1_junction (g := (mkF m 1 #[rv qa1] [.ref qa1])) rfl rfl (hb hby d8_1)
 refine own_lvF X1 Bd (.ref Gg2) e1 ⟨rfl, N0, rfl⟩ rfl (fun fs hr => pre0 _ (by
  show Sx p e below s₁ m 0 #[rv qa1] [] _
  refine zb X0 Bd d8_0 rfl rfl ?_
  refine st1 _ ?_
  exact retOut X1 hx Bd.returns rfl (Or.inr (Or.inr (Or.inr (Or.inr ⟨rfl, rfl, rfl⟩)))) (hb hby d8_4) hr))
def Q0 (n0 : Nat) (v : Option Value) (h : Heap) (L : List Loc) : Prop := v = some (.int 1) ∧ Fr n0 L
theorem rm0 (l : Launch) (Z : State) (a0 : Array Value) (hw : ∀ d ∈ tables_1, d.before a0 Z = true) (ws : List Jvm.Cond) (G1 : Int32) (Gg0 : Addr) (Gg1 : Addr) (Gg2 : Addr) (p1 : Int32) (p2 : Int32) (p3 : Int32) (p4 : Int32) (h0 : Heap) (n0 : Nat) (X00 : Old Z n0 h0) (O2 : Sta Z Z.heap "java/lang/String" "COMPACT_STRINGS" "Z" (.int G1)) (P5 : ¬ (G1 = (0 : Int32))) (hEN : OwnEN Z Gg0 Gg1 Gg2) :
    MetFree l x (head1 (Jvm.Cond.code x code maxLocals ret :: ws) room_1) (fun a U => a = #[.int p1, .int p2, .int p3, .int p4] ∧ Z.Warmed39 U.vm ∧ U.heap = h0 ∧ CHv Z ([] : List (String × Nat)) U.vm h0) (fun _ _ _ _ _ => True) (fun _ U o U' => ∃ v L, o = .returned v ∧ Q0 n0 v U'.heap L ∧ CHr Z ([] : List (String × Nat)) U.vm U.heap U'.vm U'.heap ∧ ReturnedEndW U o U' L room_1.cells room_1.slots) := by
 refine MetFree.of_bodySF (plainFor_of_name pn0) hisR ?_
 intro p e s m args below meth c s₁ Bd hml0 hP hK
 obtain ⟨rfl, hZ, hh, hC0⟩ := hP
 have hx := Bd.exec
 have hby := Bd.bytes
 have hml : c.maxLocals = 20 := hml0
 have hown : s.vm.findClass "com/example/ratatoskr/ratatoskr/criteria/FilterOrPinLaw" = some m.cls := findClass_of_methodNamed Bd.named
 have hnm := (name_of_methodNamed Bd.named Bd.method).1
 have X0 : Stand p l e room_1 (s.setVm s.vm) m #[.int p1, .int p2, .int p3, .int p4] below meth c s₁ [] 0 0 := Stand.of_body Bd
 have e0 : s₁.heap = h0 := by rw [← hh, Bd.state]; rfl
 have N0 := Fr.nil n0
 have pre0 : ∀ t, Steps p.tables e below (s₁.setTop (mkF m 0 #[iv p1, iv p2, iv p3, iv p4, .unset, .unset, .unset, .unset, .unset, .unset, .unset, .unset, .unset, .unset, .unset, .unset, .unset, .unset, .unset, .unset] [])) t → Steps p.tables e below (s₁.setTop (entryFrame m #[.int p1, .int p2, .int p3, .int p4] maxLocals)) t := fun t k => castTop (ef0 m p1 p2 p3 p4) k
 obtain ⟨en, hen⟩ : ∃ f, f = (entryFrame m #[.int p1, .int p2, .int p3, .int p4] maxLocals) := ⟨_, rfl⟩
 rw [← hen] at pre0 ⊢
 have hS0 : s.Since s.vm h0.size := (State.WarmedH.refl s).since _
 have hk0 : h0.size ≤ h0.size := Nat.le_refl _
 have hR0 : CHr Z ([] : List (String × Nat)) s.vm h0 s.vm h0 := CHr.refl hC0
 have hEL := own_EW hw
 have hwS := own_wS hw
 obtain ⟨T1, h1, c1, X1, e1, E1, A1, st1⟩ := newP (aty := .char) X0 hx hZ (w0_ hw) e0 (g := (mkF m 1 #[iv p1, iv p2, iv p3, iv p4, .unset, .unset, .unset, .unset, .unset, .unset, .unset, .unset, .unset, .unset, .unset, .unset, .unset, .unset, .unset, .unset] [.int 2])) rfl (hb hby at_1) rfl (by decide) (cap := 2) (by decide) (lE rfl) (lE rfl) (lE rfl)
 obtain ⟨b1, g1⟩ : ∃ z, z = h0.size := ⟨_, rfl⟩
 rw [← g1] at A1 st1
 replace X1 : Stand p l e room_1 (s.setVm s.vm) m #[.int p1, .int p2, .int p3, .int p4] below meth c T1 _ 1 2 := X1
 have K2 := (Keep.refl h0 []).ext E1
 have C3 : CHv Z ([] : List (String × Nat)) s.vm h1 := CHv.ext E1 hC0
 have R4 : CHr Z ([] : List (String × Nat)) s.vm h0 s.vm h1 := hR0.trans (CHr.ext E1 hC0)
 have A5_ : Arv Z h1 b1 c1 .char (2 : Int32) [.int 0, .int 0] (.int 0) := (Arv.new A1 (by decide)).pad (pad_rep [] (.int 0) 2)
 have av6 := A5_
 obtain ⟨cl6, Ar6, q6, S6, N6, H6, Gf6⟩ := av6
 have hin7 : ¬ ((0 : Int32) < 0 ∨ cl6.slots.size ≤ ((0 : Int32) : Int32).toNatClampNeg) := inb_of S6 (by decide)
 obtain ⟨T7, h7, X7, e7, W7, st7⟩ := stC X1 hx hZ e1 Ar6 (j := (0 : Int32)) hin7 (g := (mkF m 11 #[iv p1, iv p2, iv p3, iv p4, .unset, .unset, .unset, .unset, .unset, .unset, .unset, .unset, .unset, .unset, .unset, .unset, .unset, .unset, .unset, .unset] [(.int (((p1 &&& (255 : Int32))).toUInt32.toUInt16.toUInt32.toInt32)), .int 0, .ref b1, .ref b1])) rfl rfl (hb hby at_11)
 have g_b1 : n0 ≤ b1 := Nat.le_trans (Nat.le_trans (Nat.le_of_eq X00.1.symm) X00.2.1) (Nat.le_of_eq g1.symm)
 have N7_ := Fr.snoc X7 N0 g_b1
 have sz_b1 : h0.size ≤ b1 := (Nat.le_of_eq g1.symm)
 have K8 := K2.wr W7 (Or.inr sz_b1)
 have C9 : CHv Z ([] : List (String × Nat)) s.vm h7 := CHv.wr W7 (Safe.arv hZ.alike A5_ (by simp)) C3
 have R10 : CHr Z ([] : List (String × Nat)) s.vm h0 s.vm h7 := R4.trans (CHr.wr W7 (Safe.arv hZ.alike A5_ (by simp)) C3)
 have A11_ : Arv Z h7 b1 c1 .char (2 : Int32) [(.int (((p1 &&& (255 : Int32))).toUInt32.toUInt16.toUInt32.toInt32)), .int 0] (.int 0) := by have q := Arv.set (v := .int (nar .char (((p1 &&& (255 : Int32))).toUInt32.toUInt16.toUInt32.toInt32))) Ar6 q6 S6 N6 H6 Gf6 (fits_nar_char _) W7 0 (by decide) (lE rfl); rw [((own_nar_i2c _) : nar .char (((p1 &&& (255 : Int32))).toUInt32.toUInt16.toUInt32.toInt32) = (((p1 &&& (255 : Int32))).toUInt32.toUInt16.toUInt32.toInt32))] at q; exact q
 have av12 := A11_
 obtain ⟨cl12, Ar12, q12, S12, N12, H12, Gf12⟩ := av12
 have hin13 : ¬ ((1 : Int32) < 0 ∨ cl12.slots.size ≤ ((1 : Int32) : Int32).toNatClampNeg) := inb_of S12 (by decide)
 obtain ⟨T13, h13, X13, e13, W13, st13⟩ := stC X7 hx hZ e7 Ar12 (j := (1 : Int32)) hin13 (g := (mkF m 20 #[iv p1, iv p2, iv p3, iv p4, .unset, .unset, .unset, .unset, .unset, .unset, .unset, .unset, .unset, .unset, .unset, .unset, .unset, .unset, .unset, .unset] [(.int (((p2 &&& (255 : Int32))).toUInt32.toUInt16.toUInt32.toInt32)), .int 1, .ref b1, .ref b1])) rfl rfl (hb hby at_20)
 have N13_ := Fr.snoc X13 N7_ g_b1
 have K14 := K8.wr W13 (Or.inr sz_b1)
 have C15 : CHv Z ([] : List (String × Nat)) s.vm h13 := CHv.wr W13 (Safe.arv hZ.alike A11_ (by simp)) C9
 have R16 : CHr Z ([] : List (String × Nat)) s.vm h0 s.vm h13 := R10.trans (CHr.wr W13 (Safe.arv hZ.alike A11_ (by simp)) C9)
 have A17_ : Arv Z h13 b1 c1 .char (2 : Int32) [(.int (((p1 &&& (255 : Int32))).toUInt32.toUInt16.toUInt32.toInt32)), (.int (((p2 &&& (255 : Int32))).toUInt32.toUInt16.toUInt32.toInt32))] (.int 0) := by have q := Arv.set (v := .int (nar .char (((p2 &&& (255 : Int32))).toUInt32.toUInt16.toUInt32.toInt32))) Ar12 q12 S12 N12 H12 Gf12 (fits_nar_char _) W13 1 (by decide) (lE rfl); rw [((own_nar_i2c _) : nar .char (((p2 &&& (255 : Int32))).toUInt32.toUInt16.toUInt32.toInt32) = (((p2 &&& (255 : Int32))).toUInt32.toUInt16.toUInt32.toInt32))] at q; exact q
 obtain ⟨T18, h18, c18, X18, e18, E18, A18, st18⟩ := newP (aty := .char) X13 hx hZ (w0_ hw) e13 (g := (mkF m 24 #[iv p1, iv p2, iv p3, iv p4, rv b1, .unset, .unset, .unset, .unset, .unset, .unset, .unset, .unset, .unset, .unset, .unset, .unset, .unset, .unset, .unset] [.int 1])) rfl (hb hby at_24) rfl (by decide) (cap := 1) (by decide) (lE rfl) (lE rfl) (lE rfl)
 obtain ⟨b18, g18⟩ : ∃ z, z = h13.size := ⟨_, rfl⟩
 rw [← g18] at A18 st18
 replace X18 : Stand p l e room_1 (s.setVm s.vm) m #[.int p1, .int p2, .int p3, .int p4] below meth c T18 _ 2 3 := X18
 have K19 := K14.ext E18
 have C20 : CHv Z ([] : List (String × Nat)) s.vm h18 := CHv.ext E18 C15
 have R21 : CHr Z ([] : List (String × Nat)) s.vm h0 s.vm h18 := R16.trans (CHr.ext E18 C15)
 have A22_ : Arv Z h18 b18 c18 .char (1 : Int32) [.int 0] (.int 0) := (Arv.new A18 (by decide)).pad (pad_rep [] (.int 0) 1)
 have av23 := A22_
 obtain ⟨cl23, Ar23, q23, S23, N23, H23, Gf23⟩ := av23
 have hin24 : ¬ ((0 : Int32) < 0 ∨ cl23.slots.size ≤ ((0 : Int32) : Int32).toNatClampNeg) := inb_of S23 (by decide)
 obtain ⟨T24, h24, X24, e24, W24, st24⟩ := stC X18 hx hZ e18 Ar23 (j := (0 : Int32)) hin24 (g := (mkF m 34 #[iv p1, iv p2, iv p3, iv p4, rv b1, .unset, .unset, .unset, .unset, .unset, .unset, .unset, .unset, .unset, .unset, .unset, .unset, .unset, .unset, .unset] [(.int (((p3 &&& (255 : Int32))).toUInt32.toUInt16.toUInt32.toInt32)), .int 0, .ref b18, .ref b18])) rfl rfl (hb hby at_34)
 have O25 := X00.ext E1
 have O26 := O25.wr W7 g_b1
 have O27 := O26.wr W13 g_b1
 have g_b18 : n0 ≤ b18 := Nat.le_trans (Nat.le_trans (Nat.le_of_eq O27.1.symm) O27.2.1) (Nat.le_of_eq g18.symm)
 have N24_ := Fr.snoc X24 N13_ g_b18
 have sz_b18 : h0.size ≤ b18 := Nat.le_trans K14.1 (Nat.le_of_eq g18.symm)
 have K28 := K19.wr W24 (Or.inr sz_b18)
 have C29 : CHv Z ([] : List (String × Nat)) s.vm h24 := CHv.wr W24 (Safe.arv hZ.alike A22_ (by simp)) C20
 have R30 : CHr Z ([] : List (String × Nat)) s.vm h0 s.vm h24 := R21.trans (CHr.wr W24 (Safe.arv hZ.alike A22_ (by simp)) C20)
 have A31_ : Arv Z h24 b18 c18 .char (1 : Int32) [(.int (((p3 &&& (255 : Int32))).toUInt32.toUInt16.toUInt32.toInt32))] (.int 0) := by have q := Arv.set (v := .int (nar .char (((p3 &&& (255 : Int32))).toUInt32.toUInt16.toUInt32.toInt32))) Ar23 q23 S23 N23 H23 Gf23 (fits_nar_char _) W24 0 (by decide) (lE rfl); rw [((own_nar_i2c _) : nar .char (((p3 &&& (255 : Int32))).toUInt32.toUInt16.toUInt32.toInt32) = (((p3 &&& (255 : Int32))).toUInt32.toUInt16.toUInt32.toInt32))] at q; exact q
 obtain ⟨T32, h32, X32, e32, E32, A32, D32, -, st32⟩ := newO X24 hx hZ hown (w1_ hw) (w2_ hw) (w3_ hw) e24 (g := (mkF m 37 #[iv p1, iv p2, iv p3, iv p4, rv b1, rv b18, .unset, .unset, .unset, .unset, .unset, .unset, .unset, .unset, .unset, .unset, .unset, .unset, .unset, .unset] [])) rfl (hb hby at_37) (lE rfl) (lE rfl)
 obtain ⟨b32, g32⟩ : ∃ z, z = h24.size := ⟨_, rfl⟩
 rw [← g32] at A32 D32 st32
 replace X32 : Stand p l e room_1 (s.setVm s.vm) m #[.int p1, .int p2, .int p3, .int p4] below meth c T32 _ 3 7 := X32
 have K33 := K28.ext E32
 have C34 : CHv Z ([] : List (String × Nat)) s.vm h32 := CHv.ext E32 C29
 have R35 : CHr Z ([] : List (String × Nat)) s.vm h0 s.vm h32 := R30.trans (CHr.ext E32 C29)
 have F36_ : Fld Z h32 b32 "com/example/ratatoskr/ratatoskr/criteria/Filter" "comparison" "Lcom/example/ratatoskr/ratatoskr/criteria/Filter$Comparison;" .null := D32 (Or.inr (w77_ hw)) (ty := (.object "com/example/ratatoskr/ratatoskr/criteria/Filter$Comparison")) (by decide)
 have F37_ : Fld Z h32 b32 "com/example/ratatoskr/ratatoskr/criteria/Filter" "left" "Lcom/example/ratatoskr/ratatoskr/criteria/Filter;" .null := D32 (Or.inr (w79_ hw)) (ty := (.object "com/example/ratatoskr/ratatoskr/criteria/Filter")) (by decide)
 have F38_ : Fld Z h32 b32 "com/example/ratatoskr/ratatoskr/criteria/Filter" "junction" "Lcom/example/ratatoskr/ratatoskr/criteria/Filter$Junction;" .null := D32 (Or.inr (w81_ hw)) (ty := (.object "com/example/ratatoskr/ratatoskr/criteria/Filter$Junction")) (by decide)
 have F39_ : Fld Z h32 b32 "com/example/ratatoskr/ratatoskr/criteria/Filter" "right" "Lcom/example/ratatoskr/ratatoskr/criteria/Filter;" .null := D32 (Or.inr (w83_ hw)) (ty := (.object "com/example/ratatoskr/ratatoskr/criteria/Filter")) (by decide)
 obtain ⟨T40, h40, X40, e40, E40, A40, D40, -, st40⟩ := newO X32 hx hZ hown (w4_ hw) (w5_ hw) (w6_ hw) e32 (g := (mkF m 41 #[iv p1, iv p2, iv p3, iv p4, rv b1, rv b18, .unset, .unset, .unset, .unset, .unset, .unset, .unset, .unset, .unset, .unset, .unset, .unset, .unset, .unset] [.ref b32, .ref b32])) rfl (hb hby at_41) (lE rfl) (lE rfl)
 obtain ⟨b40, g40⟩ : ∃ z, z = h32.size := ⟨_, rfl⟩
 rw [← g40] at A40 D40 st40
 replace X40 : Stand p l e room_1 (s.setVm s.vm) m #[.int p1, .int p2, .int p3, .int p4] below meth c T40 _ 4 11 := X40
 have K41 := K33.ext E40
 have C42 : CHv Z ([] : List (String × Nat)) s.vm h40 := CHv.ext E40 C34
 have R43 : CHr Z ([] : List (String × Nat)) s.vm h0 s.vm h40 := R35.trans (CHr.ext E40 C34)
 have F44_ : Fld Z h40 b40 "java/lang/String" "coder" "B" (.int 0) := D40 (Or.inr (w30_ hw)) (ty := .byte) (by decide)
 have F45_ : Fld Z h40 b40 "java/lang/String" "value" "[B" .null := D40 (Or.inr (w32_ hw)) (ty := (.array .byte)) (by decide)
 have hp47 : ∀ c ∈ ([(((p1 &&& (255 : Int32))).toUInt32.toUInt16.toUInt32.toInt32), (((p2 &&& (255 : Int32))).toUInt32.toUInt16.toUInt32.toInt32)] : List Int32), ¬ c < 0 ∧ ¬ (255 : Int32) < c := (List.forall_mem_cons.mpr ⟨(own_lat p1), (List.forall_mem_cons.mpr ⟨(own_lat p2), (fun _ q => nomatch q)⟩)⟩)
 have O48 := O27.ext E18
 have O49 := O48.wr W24 g_b18
 have O50 := O49.ext E32
 have g_b40 : n0 ≤ b40 := Nat.le_trans (Nat.le_trans (Nat.le_of_eq O50.1.symm) O50.2.1) (Nat.le_of_eq g40.symm)
 have O51 := O50.ext E40
 have A52_ := A17_.ext E18
 have A53_ := A52_.other W24 (Nat.ne_of_lt (Nat.lt_of_lt_of_le (Nat.lt_of_lt_of_le A5_.lt (Nat.le_trans (Nat.le_of_eq W7.size.symm) (Nat.le_of_eq W13.size.symm))) (Nat.le_of_eq g18.symm)))
 have A54_ := A53_.ext E32
 have A55_ := A54_.ext E40
 obtain ⟨_, T46, L46, X46, hQ46, st46⟩ := own_cb 4 11 1 2 5 13 (X40.specialBack hx (y := Y13_) rfl hown (mvT hZ (w7_ hw)) (mvT hZ (w8_ hw)) (mvT hZ (w9_ hw)) (by decide) (StrChars.Road.backV (s := s.setVm s.vm) (W := 3) hZ (own_ws hw) (kI := 4) (w5_ hw) (cs := ([(((p1 &&& (255 : Int32))).toUInt32.toUInt16.toUInt32.toInt32), (((p2 &&& (255 : Int32))).toUInt32.toUInt16.toUInt32.toInt32)] : List Int32)) (bs := ([(((p1 &&& (255 : Int32))).toUInt32.toUInt16.toUInt32.toInt32), (((p2 &&& (255 : Int32))).toUInt32.toUInt16.toUInt32.toInt32)] : List Int32).map (fun c => c.toInt8.toInt32)) (n := 2) g_b40 (Nat.le_trans (Nat.le_of_eq O51.1.symm) O51.2.1) A40 F45_ F44_ A55_ (O2.ext O51.2) P5 rfl rfl (lE rfl) (lE rfl) hp47 rfl (lE rfl) (lE rfl)) (g := (mkF m 47 #[iv p1, iv p2, iv p3, iv p4, rv b1, rv b18, .unset, .unset, .unset, .unset, .unset, .unset, .unset, .unset, .unset, .unset, .unset, .unset, .unset, .unset] [.ref b1, .ref b40, .ref b40, .ref b32, .ref b32])) rfl hml.symm (Steps.refl _) (a := b40) (argsL := [.ref b1]) (rest := [.ref b40, .ref b32, .ref b32]) (lenOf pd0 rfl) rfl (own_hw rfl) (hb hby at_47) (fun _ _ => ⟨rfl, e40, (lE rfl : 4 + 1 ≤ _), (lE rfl : 11 + 2 ≤ _)⟩)) rfl rfl
 obtain ⟨rfl, N46q, K46q, E46q, C46q, b56, c56_, u56, g56, ne56, V56_, A56_⟩ := hQ46
 have N46 := Fr.app N24_ N46q
 have sz_b40 : h0.size ≤ b40 := Nat.le_trans K33.1 (Nat.le_of_eq g40.symm)
 have K57 := K41.trans K46q (allS (Or.inr sz_b40) all0)
 have f59 : Safe Z ([] : List (String × Nat)) s.vm h40 b40 := Safe.ext E40 C34 (Safe.new (Nat.le_of_eq g40.symm))
 have C58 : CHv Z ([] : List (String × Nat)) s.vm T46.heap := CHv.keep K46q (sfS f59 sf0) C42
 have R60 : CHr Z ([] : List (String × Nat)) s.vm h0 s.vm T46.heap := R43.trans (CHr.keep K46q (sfS f59 sf0) C42)
 have O62 := O51.keep K46q (allS g_b40 all0)
 obtain ⟨T61, X61, e61, st61⟩ := getS2 X46 hx hZ hown (host := "") (Or.inl (w33_ hw)) Via.refl rfl (hEN.1.ext O62.2) (g := (mkF m 50 #[iv p1, iv p2, iv p3, iv p4, rv b1, rv b18, .unset, .unset, .unset, .unset, .unset, .unset, .unset, .unset, .unset, .unset, .unset, .unset, .unset, .unset] [.ref b40, .ref b32, .ref b32])) rfl (hb hby at_50)
 have E64_ := A32.ext E40
 have E65_ := E64_.keep K46q
 have F66_ := F36_.ext E40
 have F67_ := F66_.keep K46q (ninS (Nat.ne_of_lt (Nat.lt_of_lt_of_le A32.lt (Nat.le_of_eq g40.symm))) nin0)
 have g_b32 : n0 ≤ b32 := Nat.le_trans (Nat.le_trans (Nat.le_of_eq O49.1.symm) O49.2.1) (Nat.le_of_eq g32.symm)
 have F68_ := F37_.ext E40
 have F69_ := F68_.keep K46q (ninS (Nat.ne_of_lt (Nat.lt_of_lt_of_le A32.lt (Nat.le_of_eq g40.symm))) nin0)
 have F70_ := F38_.ext E40
 have F71_ := F70_.keep K46q (ninS (Nat.ne_of_lt (Nat.lt_of_lt_of_le A32.lt (Nat.le_of_eq g40.symm))) nin0)
 have F72_ := F39_.ext E40
 have F73_ := F72_.keep K46q (ninS (Nat.ne_of_lt (Nat.lt_of_lt_of_le A32.lt (Nat.le_of_eq g40.symm))) nin0)
 have hk74' : _ ≤ T46.heap.size := (Nat.le_trans (Nat.le_trans (Nat.le_trans (Nat.le_trans (Nat.le_trans (Nat.le_trans (Nat.le_trans (Nat.le_trans hk0 E1.1) (Nat.le_of_eq W7.size.symm)) (Nat.le_of_eq W13.size.symm)) E18.1) (Nat.le_of_eq W24.size.symm)) E32.1) E40.1) K46q.1)
 obtain ⟨_, T63, L63, X63, hQ63, hS63, hZ63, ho63, CR63, st63⟩ := own_cbS 5 13 5 75 10 88 (X61.specialBackS hx (y := Y5_) rfl hown (mvT hZ (w36_ hw)) (mvT hZ (w37_ hw)) (mvT hZ (w38_ hw)) (by decide) (backOfSH (W := 1) (EL := ([] : List (String × Nat))) (s := s) (rm7 l Z a0 hw Gg0 Gg1 Gg2 b32 b40 T46.heap n0 O62 hEN E65_ F67_ g_b32 F69_ F71_ F73_) hZ (w38_ hw) (w3_ hw) (lE rfl) (lE rfl) hEL C58) (g := (mkF m 53 #[iv p1, iv p2, iv p3, iv p4, rv b1, rv b18, .unset, .unset, .unset, .unset, .unset, .unset, .unset, .unset, .unset, .unset, .unset, .unset, .unset, .unset] [.ref Gg0, .ref b40, .ref b32, .ref b32])) rfl hml.symm (Steps.refl _) (a := b32) (argsL := [.ref b40, .ref Gg0]) (rest := [.ref b32]) (lenOf pd6 rfl) rfl (own_hw rfl) (hb hby at_53) (fun _ _ => ⟨rfl, e61, (lE rfl : 5 + 5 ≤ _), (lE rfl : 13 + 75 ≤ _)⟩)) rfl rfl hS0 (by rw [e61]; exact hk74') hZ hown
 obtain ⟨b75, rfl, N63q, K63q, w76, w77, w78, w79, w80, w81, w82, w83, w84, w85⟩ := hQ63
 have N63 := Fr.app N46 N63q
 have hk63 : T63.heap.size ≤ T63.heap.size := Nat.le_refl _
 have sz_b32 : h0.size ≤ b32 := Nat.le_trans K28.1 (Nat.le_of_eq g32.symm)
 have K86 := K57.trans K63q (allS (Or.inr sz_b32) all0)
 have R88 := R60.trans CR63
 obtain ⟨T89, h89, X89, e89, E89, A89, D89, -, st89⟩ := newO X63 hx hZ63 ho63 (w1_ hw) (w2_ hw) (w3_ hw) rfl (g := (mkF m 58 #[iv p1, iv p2, iv p3, iv p4, rv b1, rv b18, rv b32, .unset, .unset, .unset, .unset, .unset, .unset, .unset, .unset, .unset, .unset, .unset, .unset, .unset] [])) rfl (hb hby at_58) (lE rfl) (lE rfl)
 obtain ⟨b89, g89⟩ : ∃ z, z = T63.heap.size := ⟨_, rfl⟩
 rw [← g89] at A89 D89 st89
 replace X89 : Stand p l e room_1 (s.setVm T63.vm) m #[.int p1, .int p2, .int p3, .int p4] below meth c T89 _ 11 92 := X89
 have K90 := K86.ext E89
 have C91 : CHv Z ([] : List (String × Nat)) T63.vm h89 := CHv.ext E89 CR63.1
 have R92 : CHr Z ([] : List (String × Nat)) s.vm h0 T63.vm h89 := R88.trans (CHr.ext E89 CR63.1)
 have F93_ : Fld Z h89 b89 "com/example/ratatoskr/ratatoskr/criteria/Filter" "comparison" "Lcom/example/ratatoskr/ratatoskr/criteria/Filter$Comparison;" .null := D89 (Or.inr (w77_ hw)) (ty := (.object "com/example/ratatoskr/ratatoskr/criteria/Filter$Comparison")) (by decide)
 have F94_ : Fld Z h89 b89 "com/example/ratatoskr/ratatoskr/criteria/Filter" "left" "Lcom/example/ratatoskr/ratatoskr/criteria/Filter;" .null := D89 (Or.inr (w79_ hw)) (ty := (.object "com/example/ratatoskr/ratatoskr/criteria/Filter")) (by decide)
 have F95_ : Fld Z h89 b89 "com/example/ratatoskr/ratatoskr/criteria/Filter" "junction" "Lcom/example/ratatoskr/ratatoskr/criteria/Filter$Junction;" .null := D89 (Or.inr (w81_ hw)) (ty := (.object "com/example/ratatoskr/ratatoskr/criteria/Filter$Junction")) (by decide)
 have F96_ : Fld Z h89 b89 "com/example/ratatoskr/ratatoskr/criteria/Filter" "right" "Lcom/example/ratatoskr/ratatoskr/criteria/Filter;" .null := D89 (Or.inr (w83_ hw)) (ty := (.object "com/example/ratatoskr/ratatoskr/criteria/Filter")) (by decide)
 obtain ⟨T97, h97, X97, e97, E97, A97, D97, -, st97⟩ := newO X89 hx hZ63 ho63 (w4_ hw) (w5_ hw) (w6_ hw) e89 (g := (mkF m 62 #[iv p1, iv p2, iv p3, iv p4, rv b1, rv b18, rv b32, .unset, .unset, .unset, .unset, .unset, .unset, .unset, .unset, .unset, .unset, .unset, .unset, .unset] [.ref b89, .ref b89])) rfl (hb hby at_62) (lE rfl) (lE rfl)
 obtain ⟨b97, g97⟩ : ∃ z, z = h89.size := ⟨_, rfl⟩
 rw [← g97] at A97 D97 st97
 replace X97 : Stand p l e room_1 (s.setVm T63.vm) m #[.int p1, .int p2, .int p3, .int p4] below meth c T97 _ 12 96 := X97
 have K98 := K90.ext E97
 have C99 : CHv Z ([] : List (String × Nat)) T63.vm h97 := CHv.ext E97 C91
 have R100 : CHr Z ([] : List (String × Nat)) s.vm h0 T63.vm h97 := R92.trans (CHr.ext E97 C91)
 have F101_ : Fld Z h97 b97 "java/lang/String" "coder" "B" (.int 0) := D97 (Or.inr (w30_ hw)) (ty := .byte) (by decide)
 have F102_ : Fld Z h97 b97 "java/lang/String" "value" "[B" .null := D97 (Or.inr (w32_ hw)) (ty := (.array .byte)) (by decide)
 have hp104 : ∀ c ∈ ([(((p3 &&& (255 : Int32))).toUInt32.toUInt16.toUInt32.toInt32)] : List Int32), ¬ c < 0 ∧ ¬ (255 : Int32) < c := (List.forall_mem_cons.mpr ⟨(own_lat p3), (fun _ q => nomatch q)⟩)
 have O105 := O62.keep K63q (allS g_b32 all0)
 have O106 := O105.ext E89
 have g_b97 : n0 ≤ b97 := Nat.le_trans (Nat.le_trans (Nat.le_of_eq O106.1.symm) O106.2.1) (Nat.le_of_eq g97.symm)
 have O107 := O106.ext E97
 have A108_ := A31_.ext E32
 have A109_ := A108_.ext E40
 have A110_ := A109_.keep K46q (ninS (Nat.ne_of_lt (Nat.lt_of_lt_of_le (Nat.lt_of_lt_of_le A22_.lt (Nat.le_trans (Nat.le_of_eq W24.size.symm) E32.1)) (Nat.le_of_eq g40.symm))) nin0)
 have A111_ := A110_.keep K63q (ninS (Nat.ne_of_lt (Nat.lt_of_lt_of_le (Nat.lt_of_lt_of_le A22_.lt (Nat.le_of_eq W24.size.symm)) (Nat.le_of_eq g32.symm))) nin0)
 have A112_ := A111_.ext E89
 have A113_ := A112_.ext E97
 obtain ⟨_, T103, L103, X103, hQ103, st103⟩ := own_cb 12 96 1 1 13 97 (X97.specialBack hx (y := Y13_) rfl ho63 (mvT hZ63 (w7_ hw)) (mvT hZ63 (w8_ hw)) (mvT hZ63 (w9_ hw)) (by decide) (StrChars.Road.backV (s := s.setVm T63.vm) (W := 3) hZ63 (own_ws hw) (kI := 4) (w5_ hw) (cs := ([(((p3 &&& (255 : Int32))).toUInt32.toUInt16.toUInt32.toInt32)] : List Int32)) (bs := ([(((p3 &&& (255 : Int32))).toUInt32.toUInt16.toUInt32.toInt32)] : List Int32).map (fun c => c.toInt8.toInt32)) (n := 1) g_b97 (Nat.le_trans (Nat.le_of_eq O107.1.symm) O107.2.1) A97 F102_ F101_ A113_ (O2.ext O107.2) P5 rfl rfl (lE rfl) (lE rfl) hp104 rfl (lE rfl) (lE rfl)) (g := (mkF m 68 #[iv p1, iv p2, iv p3, iv p4, rv b1, rv b18, rv b32, .unset, .unset, .unset, .unset, .unset, .unset, .unset, .unset, .unset, .unset, .unset, .unset, .unset] [.ref b18, .ref b97, .ref b97, .ref b89, .ref b89])) rfl hml.symm (Steps.refl _) (a := b97) (argsL := [.ref b18]) (rest := [.ref b97, .ref b89, .ref b89]) (lenOf pd0 rfl) rfl (own_hw rfl) (hb hby at_68) (fun _ _ => ⟨rfl, e97, (lE rfl : 12 + 1 ≤ _), (lE rfl : 96 + 1 ≤ _)⟩)) rfl rfl
 obtain ⟨rfl, N103q, K103q, E103q, C103q, b114, c114_, u114, g114, ne114, V114_, A114_⟩ := hQ103
 have N103 := Fr.app N63 N103q
 have sz_b97 : h0.size ≤ b97 := Nat.le_trans K90.1 (Nat.le_of_eq g97.symm)
 have K115 := K98.trans K103q (allS (Or.inr sz_b97) all0)
 have f117 : Safe Z ([] : List (String × Nat)) T63.vm h97 b97 := Safe.ext E97 C91 (Safe.new (Nat.le_of_eq g97.symm))
 have C116 : CHv Z ([] : List (String × Nat)) T63.vm T103.heap := CHv.keep K103q (sfS f117 sf0) C99
 have R118 : CHr Z ([] : List (String × Nat)) s.vm h0 T63.vm T103.heap := R100.trans (CHr.keep K103q (sfS f117 sf0) C99)
 have O120 := O107.keep K103q (allS g_b97 all0)
 obtain ⟨T119, X119, e119, st119⟩ := getS2 X103 hx hZ63 ho63 (host := "") (Or.inl (w33_ hw)) Via.refl rfl (hEN.1.ext O120.2) (g := (mkF m 71 #[iv p1, iv p2, iv p3, iv p4, rv b1, rv b18, rv b32, .unset, .unset, .unset, .unset, .unset, .unset, .unset, .unset, .unset, .unset, .unset, .unset, .unset] [.ref b97, .ref b89, .ref b89])) rfl (hb hby at_71)
 have E122_ := A89.ext E97
 have E123_ := E122_.keep K103q
 have F124_ := F93_.ext E97
 have F125_ := F124_.keep K103q (ninS (Nat.ne_of_lt (Nat.lt_of_lt_of_le A89.lt (Nat.le_of_eq g97.symm))) nin0)
 have g_b89 : n0 ≤ b89 := Nat.le_trans (Nat.le_trans (Nat.le_of_eq O105.1.symm) O105.2.1) (Nat.le_of_eq g89.symm)
 have F126_ := F94_.ext E97
 have F127_ := F126_.keep K103q (ninS (Nat.ne_of_lt (Nat.lt_of_lt_of_le A89.lt (Nat.le_of_eq g97.symm))) nin0)
 have F128_ := F95_.ext E97
 have F129_ := F128_.keep K103q (ninS (Nat.ne_of_lt (Nat.lt_of_lt_of_le A89.lt (Nat.le_of_eq g97.symm))) nin0)
 have F130_ := F96_.ext E97
 have F131_ := F130_.keep K103q (ninS (Nat.ne_of_lt (Nat.lt_of_lt_of_le A89.lt (Nat.le_of_eq g97.symm))) nin0)
 have hk132' : _ ≤ T103.heap.size := (Nat.le_trans (Nat.le_trans (Nat.le_trans hk63 E89.1) E97.1) K103q.1)
 obtain ⟨_, T121, L121, X121, hQ121, hS121, hZ121, ho121, CR121, st121⟩ := own_cbS 13 97 5 75 18 172 (X119.specialBackS hx (y := Y5_) rfl ho63 (mvT hZ63 (w36_ hw)) (mvT hZ63 (w37_ hw)) (mvT hZ63 (w38_ hw)) (by decide) (backOfSH (W := 1) (EL := ([] : List (String × Nat))) (s := s) (rm7 l Z a0 hw Gg0 Gg1 Gg2 b89 b97 T103.heap n0 O120 hEN E123_ F125_ g_b89 F127_ F129_ F131_) hZ63 (w38_ hw) (w3_ hw) (lE rfl) (lE rfl) hEL C116) (g := (mkF m 74 #[iv p1, iv p2, iv p3, iv p4, rv b1, rv b18, rv b32, .unset, .unset, .unset, .unset, .unset, .unset, .unset, .unset, .unset, .unset, .unset, .unset, .unset] [.ref Gg0, .ref b97, .ref b89, .ref b89])) rfl hml.symm (Steps.refl _) (a := b89) (argsL := [.ref b97, .ref Gg0]) (rest := [.ref b89]) (lenOf pd6 rfl) rfl (own_hw rfl) (hb hby at_74) (fun _ _ => ⟨rfl, e119, (lE rfl : 13 + 5 ≤ _), (lE rfl : 97 + 75 ≤ _)⟩)) rfl rfl hS63 (by rw [e119]; exact hk132') hZ63 ho63
 obtain ⟨b133, rfl, N121q, K121q, w134, w135, w136, w137, w138, w139, w140, w141, w142, w143⟩ := hQ121
 have N121 := Fr.app N103 N121q
 have hk121 : T121.heap.size ≤ T121.heap.size := Nat.le_refl _
 have sz_b89 : h0.size ≤ b89 := Nat.le_trans K86.1 (Nat.le_of_eq g89.symm)
 have K144 := K115.trans K121q (allS (Or.inr sz_b89) all0)
 have R146 := R118.trans CR121
 have pr147 : Pr p e below T121 m 86 #[iv p1, iv p2, iv p3, iv p4, rv b1, rv b18, rv b32, rv b89, iv (p4 &&& (3 : Int32)), .unset, .unset, .unset, .unset, .unset, .unset, .unset, .unset, .unset, .unset, .unset] [(.int (p4 &&& (3 : Int32)))] s₁ en := fun t k => pre0 t (by
  show Sx p e below s₁ m 0 #[iv p1, iv p2, iv p3, iv p4, .unset, .unset, .unset, .unset, .unset, .unset, .unset, .unset, .unset, .unset, .unset, .unset, .unset, .unset, .unset, .unset] [] _
  refine zc X0 Bd at_0 ?_
  refine st1 _ ?_
  refine XS.dup X1.here hx rfl (hb hby at_3) rfl rfl ?_
  refine zc X1 Bd at_4 ?_
  refine zj X1 Bd at_5 rfl ?_
  refine XS.sipush X1.here hx rfl (hb hby at_6) ?_
  refine XS.iand X1.here hx rfl (hb hby at_9) rfl ?_
  refine XS.i2c X1.here hx rfl (hb hby at_10) rfl ?_
  refine st7 _ ?_
  refine XS.dup X7.here hx rfl (hb hby at_12) rfl rfl ?_
  refine zc X7 Bd at_13 ?_
  refine zj X7 Bd at_14 rfl ?_
  refine XS.sipush X7.here hx rfl (hb hby at_15) ?_
  refine XS.iand X7.here hx rfl (hb hby at_18) rfl ?_
  refine XS.i2c X7.here hx rfl (hb hby at_19) rfl ?_
  refine st13 _ ?_
  refine XS.astore X13.here hx rfl (hb hby at_21) rfl rfl (l' := #[iv p1, iv p2, iv p3, iv p4, rv b1, .unset, .unset, .unset, .unset, .unset, .unset, .unset, .unset, .unset, .unset, .unset, .unset, .unset, .unset, .unset]) rfl ?_
  refine zc X13 Bd at_23 ?_
  refine st18 _ ?_
  refine XS.dup X18.here hx rfl (hb hby at_26) rfl rfl ?_
  refine zc X18 Bd at_27 ?_
  refine zj X18 Bd at_28 rfl ?_
  refine XS.sipush X18.here hx rfl (hb hby at_29) ?_
  refine XS.iand X18.here hx rfl (hb hby at_32) rfl ?_
  refine XS.i2c X18.here hx rfl (hb hby at_33) rfl ?_
  show Sx p e below T18 m 34 #[iv p1, iv p2, iv p3, iv p4, rv b1, .unset, .unset, .unset, .unset, .unset, .unset, .unset, .unset, .unset, .unset, .unset, .unset, .unset, .unset, .unset] [(.int (((p3 &&& (255 : Int32))).toUInt32.toUInt16.toUInt32.toInt32)), .int 0, .ref b18, .ref b18] _
  refine st24 _ ?_
  refine XS.astore X24.here hx rfl (hb hby at_35) rfl rfl (l' := #[iv p1, iv p2, iv p3, iv p4, rv b1, rv b18, .unset, .unset, .unset, .unset, .unset, .unset, .unset, .unset, .unset, .unset, .unset, .unset, .unset, .unset]) rfl ?_
  refine st32 _ ?_
  refine XS.dup X32.here hx rfl (hb hby at_40) rfl rfl ?_
  refine st40 _ ?_
  refine XS.dup X40.here hx rfl (hb hby at_44) rfl rfl ?_
  refine za X40 Bd at_45 rfl rfl ?_
  refine st46.trans ?_
  refine st61 _ ?_
  refine st63.trans ?_
  refine XS.astore X63.here hx rfl (hb hby at_56) rfl rfl (l' := #[iv p1, iv p2, iv p3, iv p4, rv b1, rv b18, rv b32, .unset, .unset, .unset, .unset, .unset, .unset, .unset, .unset, .unset, .unset, .unset, .unset, .unset]) rfl ?_
  refine st89 _ ?_
  refine XS.dup X89.here hx rfl (hb hby at_61) rfl rfl ?_
  refine st97 _ ?_
  refine XS.dup X97.here hx rfl (hb hby at_65) rfl rfl ?_
  refine za X97 Bd at_66 rfl rfl ?_
  refine st103.trans ?_
  refine st119 _ ?_
  refine st121.trans ?_
  refine XS.astore X121.here hx rfl (hb hby at_77) rfl rfl (l' := #[iv p1, iv p2, iv p3, iv p4, rv b1, rv b18, rv b32, rv b89, .unset, .unset, .unset, .unset, .unset, .unset, .unset, .unset, .unset, .unset, .unset, .unset]) rfl ?_
  refine zj X121 Bd at_79 rfl ?_
  refine zc X121 Bd at_80 ?_
  refine XS.iand X121.here hx rfl (hb hby at_81) rfl ?_
  refine zs X121 Bd at_82 (l' := #[iv p1, iv p2, iv p3, iv p4, rv b1, rv b18, rv b32, rv b89, iv (p4 &&& (3 : Int32)), .unset, .unset, .unset, .unset, .unset, .unset, .unset, .unset, .unset, .unset, .unset]) rfl ?_
  refine zi X121 Bd at_84 rfl ?_
  exact k)
 by_cases hc148 : (p4 &&& (3 : Int32)) = (0 : Int32)
 ·
  skip
  have F150_ := w78.ext E89
  have F151_ := F150_.ext E97
  have F152_ := F151_.keep K103q (ninS (Nat.ne_of_lt (Nat.lt_of_lt_of_le (Nat.lt_of_lt_of_le A32.lt (Nat.le_trans (Nat.le_trans (Nat.le_trans E40.1 K46q.1) K63q.1) E89.1)) (Nat.le_of_eq g97.symm))) nin0)
  have F153_ := F152_.keep K121q (ninS (Nat.ne_of_lt (Nat.lt_of_lt_of_le (Nat.lt_of_lt_of_le A32.lt (Nat.le_trans (Nat.le_trans E40.1 K46q.1) K63q.1)) (Nat.le_of_eq g89.symm))) nin0)
  have O154 := O120.keep K121q (allS g_b89 all0)
  have E155_ := E65_.keep K63q
  have E156_ := E155_.ext E89
  have E157_ := E156_.ext E97
  have E158_ := E157_.keep K103q
  have E159_ := E158_.keep K121q
  obtain ⟨_, T149, L149, X149, hQ149, st149⟩ := own_cV 18 172 [] 138 #[iv p1, iv p2, iv p3, iv p4, rv b1, rv b18, rv b32, rv b89, iv (p4 &&& (3 : Int32)), rv b89, .unset, .unset, .unset, .unset, .unset, .unset, .unset, .unset, .unset, .unset] X121 hx hZ121 ho121 E159_ (w84_ hw) (w85_ hw) (notFace_of_selects (args := #[]) (mvT hZ121 (w87_ hw))) (w87_ hw) (w86_ hw) (w3_ hw) (w88_ hw) (rm8 l Z a0 hw  b32 b75 T121.heap n0 O154 F153_) pd7 hml.symm (hb hby at_138) rfl rfl rfl rfl rfl (by decide)
  obtain ⟨rfl, N149q, e149q⟩ := hQ149
  have N149 := Fr.app N121 N149q
  have E161_ := E123_.keep K121q
  obtain ⟨_, T160, L160, X160, hQ160, st160⟩ := own_cV 18 172 [] 145 #[iv p1, iv p2, iv p3, iv p4, rv b1, rv b18, rv b32, rv b89, iv (p4 &&& (3 : Int32)), rv b89, rv b75, .unset, .unset, .unset, .unset, .unset, .unset, .unset, .unset, .unset] X149 hx hZ121 ho121 E161_ (w84_ hw) (w85_ hw) (notFace_of_selects (args := #[]) (mvT hZ121 (w87_ hw))) (w87_ hw) (w86_ hw) (w3_ hw) (w88_ hw) (rm8 l Z a0 hw  b89 b133 T121.heap n0 O154 w136) pd7 hml.symm (hb hby at_145) e149q rfl rfl rfl rfl (by decide)
  obtain ⟨rfl, N160q, e160q⟩ := hQ160
  have N160 := Fr.app N149 N160q
  obtain ⟨_, T162, L162, X162, hQ162, st162⟩ := own_cV 18 172 [] 152 #[iv p1, iv p2, iv p3, iv p4, rv b1, rv b18, rv b32, rv b89, iv (p4 &&& (3 : Int32)), rv b89, rv b75, rv b133, .unset, .unset, .unset, .unset, .unset, .unset, .unset, .unset] X160 hx hZ121 ho121 E161_ (w89_ hw) (w90_ hw) (notFace_of_selects (args := #[]) (mvT hZ121 (w92_ hw))) (w92_ hw) (w91_ hw) (w3_ hw) (w93_ hw) (rm9 l Z a0 hw  b89 T121.heap n0 O154 w137) pd8 hml.symm (hb hby at_152) e160q rfl rfl rfl rfl (by decide)
  obtain ⟨rfl, N162q, e162q⟩ := hQ162
  have N162 := Fr.app N160 N162q
  obtain ⟨_, T163, L163, X163, hQ163, st163⟩ := own_cV 18 172 [] 159 #[iv p1, iv p2, iv p3, iv p4, rv b1, rv b18, rv b32, rv b89, iv (p4 &&& (3 : Int32)), rv b89, rv b75, rv b133, .val .null, .unset, .unset, .unset, .unset, .unset, .unset, .unset] X162 hx hZ121 ho121 E161_ (w94_ hw) (w95_ hw) (notFace_of_selects (args := #[]) (mvT hZ121 (w97_ hw))) (w97_ hw) (w96_ hw) (w3_ hw) (w98_ hw) (rm10 l Z a0 hw  b89 T121.heap n0 O154 w138) pd9 hml.symm (hb hby at_159) e162q rfl rfl rfl rfl (by decide)
  obtain ⟨rfl, N163q, e163q⟩ := hQ163
  have N163 := Fr.app N162 N163q
  obtain ⟨_, T164, L164, X164, hQ164, st164⟩ := own_cV 18 172 [] 166 #[iv p1, iv p2, iv p3, iv p4, rv b1, rv b18, rv b32, rv b89, iv (p4 &&& (3 : Int32)), rv b89, rv b75, rv b133, .val .null, .val .null, .unset, .unset, .unset, .unset, .unset, .unset] X163 hx hZ121 ho121 E161_ (w99_ hw) (w100_ hw) (notFace_of_selects (args := #[]) (mvT hZ121 (w102_ hw))) (w102_ hw) (w101_ hw) (w3_ hw) (w103_ hw) (rm11 l Z a0 hw  b89 T121.heap n0 O154 w139) pd8 hml.symm (hb hby at_166) e163q rfl rfl rfl rfl (by decide)
  obtain ⟨rfl, N164q, e164q⟩ := hQ164
  have N164 := Fr.app N163 N164q
  obtain ⟨cq165, kq165, q165a, q165b, q165c⟩ := isOf hZ121 e164q E159_
  obtain ⟨_, T165, L165, X165, hQ165, hS165, hZ165, ho165, CR165, st165⟩ := own_cbS 18 172 3 32 21 204 (X164.virtualBackS hx (y := Y11_) (z := Y11_) ho121 (mvT hZ121 (w104_ hw)) (mvT hZ121 (w105_ hw)) (notFace_of_selects (args := #[]) (mvT hZ121 (w107_ hw))) (mvT hZ121 (w107_ hw)) (mvT hZ121 (w106_ hw)) (by decide) (backOfSH (W := 0) (EL := ([] : List (String × Nat))) (s := s) (rm13 l Z a0 hw Gg0 Gg1 Gg2 b32 b89 T121.heap n0 O154 hEN E161_) hZ121 (w108_ hw) (w3_ hw) (lE rfl) (lE rfl) hEL CR121.1) q165a q165c (g := (mkF m 175 #[iv p1, iv p2, iv p3, iv p4, rv b1, rv b18, rv b32, rv b89, iv (p4 &&& (3 : Int32)), rv b89, rv b75, rv b133, .val .null, .val .null, .val .null, .unset, .unset, .unset, .unset, .unset] [.ref b89, .ref b32])) rfl hml.symm (Steps.refl _) (argsL := [.ref b89]) (rest := []) (lenOf pd11 rfl) rfl (own_hw rfl) (hb hby at_175) (fun _ _ => ⟨rfl, e164q, (lE rfl : 18 + 3 ≤ _), (lE rfl : 172 + 32 ≤ _)⟩)) rfl rfl hS121 (by rw [e164q]; exact hk121) hZ121 ho121
  obtain ⟨b166, rfl, N165q, K165q, w167, w168, w169, w170, w171, w172⟩ := hQ165
  have N165 := Fr.app N164 N165q
  have hk165 : T165.heap.size ≤ T165.heap.size := Nat.le_refl _
  have K173 := K144.trans K165q (fun x q => nomatch q)
  have R175 := R146.trans CR165
  have O177 := O154.keep K165q all0
  obtain ⟨_, T176, L176, X176, hQ176, st176⟩ := own_cV 21 204 [] 201 #[iv p1, iv p2, iv p3, iv p4, rv b1, rv b18, rv b32, rv b89, iv (p4 &&& (3 : Int32)), rv b89, rv b75, rv b133, .val .null, .val .null, .val .null, rv b166, .unset, .unset, .unset, .unset] X165 hx hZ165 ho165 w168 (w84_ hw) (w85_ hw) (notFace_of_selects (args := #[]) (mvT hZ165 (w87_ hw))) (w87_ hw) (w86_ hw) (w3_ hw) (w88_ hw) (rm14 l Z a0 hw  b166 T165.heap n0 O177 w169) pd7 hml.symm (hb hby at_201) rfl rfl rfl rfl rfl (by decide)
  obtain ⟨rfl, N176q, e176q⟩ := hQ176
  have N176 := Fr.app N165 N176q
  obtain ⟨_, T178, L178, X178, hQ178, st178⟩ := own_cV 21 204 [] 209 #[iv p1, iv p2, iv p3, iv p4, rv b1, rv b18, rv b32, rv b89, iv (p4 &&& (3 : Int32)), rv b89, rv b75, rv b133, .val .null, .val .null, .val .null, rv b166, .unset, .unset, .unset, .unset] X176 hx hZ165 ho165 w168 (w89_ hw) (w90_ hw) (notFace_of_selects (args := #[]) (mvT hZ165 (w92_ hw))) (w92_ hw) (w91_ hw) (w3_ hw) (w93_ hw) (rm15 l Z a0 hw  b166 b32 T165.heap n0 O177 w170) pd8 hml.symm (hb hby at_209) e176q rfl rfl rfl rfl (by decide)
  obtain ⟨rfl, N178q, e178q⟩ := hQ178
  have N178 := Fr.app N176 N178q
  obtain ⟨_, T179, L179, X179, hQ179, st179⟩ := own_cV 21 204 [] 219 #[iv p1, iv p2, iv p3, iv p4, rv b1, rv b18, rv b32, rv b89, iv (p4 &&& (3 : Int32)), rv b89, rv b75, rv b133, .val .null, .val .null, .val .null, rv b166, .unset, .unset, .unset, .unset] X178 hx hZ165 ho165 w168 (w94_ hw) (w95_ hw) (notFace_of_selects (args := #[]) (mvT hZ165 (w97_ hw))) (w97_ hw) (w96_ hw) (w3_ hw) (w98_ hw) (rm16 l Z a0 hw Gg0 Gg1 Gg2 b166 T165.heap n0 O177 hEN w171) pd9 hml.symm (hb hby at_219) e178q rfl rfl rfl rfl (by decide)
  obtain ⟨rfl, N179q, e179q⟩ := hQ179
  have N179 := Fr.app N178 N179q
  obtain ⟨T180, X180, e180, st180⟩ := getS2 X179 hx hZ165 ho165 (host := "") (Or.inl (w119_ hw)) Via.refl e179q (hEN.2.2.1.ext O177.2) (g := (mkF m 222 #[iv p1, iv p2, iv p3, iv p4, rv b1, rv b18, rv b32, rv b89, iv (p4 &&& (3 : Int32)), rv b89, rv b75, rv b133, .val .null, .val .null, .val .null, rv b166, .unset, .unset, .unset, .unset] [.ref Gg1])) rfl (hb hby at_222)
  obtain ⟨_, T181, L181, X181, hQ181, st181⟩ := own_cV 21 204 [] 230 #[iv p1, iv p2, iv p3, iv p4, rv b1, rv b18, rv b32, rv b89, iv (p4 &&& (3 : Int32)), rv b89, rv b75, rv b133, .val .null, .val .null, .val .null, rv b166, .unset, .unset, .unset, .unset] X180 hx hZ165 ho165 w168 (w99_ hw) (w100_ hw) (notFace_of_selects (args := #[]) (mvT hZ165 (w102_ hw))) (w102_ hw) (w101_ hw) (w3_ hw) (w103_ hw) (rm17 l Z a0 hw  b166 b89 T165.heap n0 O177 w172) pd8 hml.symm (hb hby at_230) e180 rfl rfl rfl rfl (by decide)
  obtain ⟨rfl, N181q, e181q⟩ := hQ181
  have N181 := Fr.app N179 N181q
  have F183_ := F153_.keep K165q nin0
  have E184_ := E159_.keep K165q
  obtain ⟨_, T182, L182, X182, hQ182, st182⟩ := own_cV 21 204 [] 252 #[iv p1, iv p2, iv p3, iv p4, rv b1, rv b18, rv b32, rv b89, iv (p4 &&& (3 : Int32)), rv b89, rv b75, rv b133, .val .null, .val .null, .val .null, rv b166, iv 1, .unset, .unset, .unset] X181 hx hZ165 ho165 E184_ (w84_ hw) (w85_ hw) (notFace_of_selects (args := #[]) (mvT hZ165 (w87_ hw))) (w87_ hw) (w86_ hw) (w3_ hw) (w88_ hw) (rm8 l Z a0 hw  b32 b75 T165.heap n0 O177 F183_) pd7 hml.symm (hb hby at_252) e181q rfl rfl rfl rfl (by decide)
  obtain ⟨rfl, N182q, e182q⟩ := hQ182
  have N182 := Fr.app N181 N182q
  have F186_ := w79.ext E89
  have F187_ := F186_.ext E97
  have F188_ := F187_.keep K103q (ninS (Nat.ne_of_lt (Nat.lt_of_lt_of_le (Nat.lt_of_lt_of_le A32.lt (Nat.le_trans (Nat.le_trans (Nat.le_trans E40.1 K46q.1) K63q.1) E89.1)) (Nat.le_of_eq g97.symm))) nin0)
  have F189_ := F188_.keep K121q (ninS (Nat.ne_of_lt (Nat.lt_of_lt_of_le (Nat.lt_of_lt_of_le A32.lt (Nat.le_trans (Nat.le_trans E40.1 K46q.1) K63q.1)) (Nat.le_of_eq g89.symm))) nin0)
  have F190_ := F189_.keep K165q nin0
  obtain ⟨_, T185, L185, X185, hQ185, st185⟩ := own_cV 21 204 [] 262 #[iv p1, iv p2, iv p3, iv p4, rv b1, rv b18, rv b32, rv b89, iv (p4 &&& (3 : Int32)), rv b89, rv b75, rv b133, .val .null, .val .null, .val .null, rv b166, iv 1, .unset, .unset, .unset] X182 hx hZ165 ho165 E184_ (w89_ hw) (w90_ hw) (notFace_of_selects (args := #[]) (mvT hZ165 (w92_ hw))) (w92_ hw) (w91_ hw) (w3_ hw) (w93_ hw) (rm9 l Z a0 hw  b32 T165.heap n0 O177 F190_) pd8 hml.symm (hb hby at_262) e182q rfl rfl rfl rfl (by decide)
  obtain ⟨rfl, N185q, e185q⟩ := hQ185
  have N185 := Fr.app N182 N185q
  have F192_ := w80.ext E89
  have F193_ := F192_.ext E97
  have F194_ := F193_.keep K103q (ninS (Nat.ne_of_lt (Nat.lt_of_lt_of_le (Nat.lt_of_lt_of_le A32.lt (Nat.le_trans (Nat.le_trans (Nat.le_trans E40.1 K46q.1) K63q.1) E89.1)) (Nat.le_of_eq g97.symm))) nin0)
  have F195_ := F194_.keep K121q (ninS (Nat.ne_of_lt (Nat.lt_of_lt_of_le (Nat.lt_of_lt_of_le A32.lt (Nat.le_trans (Nat.le_trans E40.1 K46q.1) K63q.1)) (Nat.le_of_eq g89.symm))) nin0)
  have F196_ := F195_.keep K165q nin0
  obtain ⟨_, T191, L191, X191, hQ191, st191⟩ := own_cV 21 204 [] 270 #[iv p1, iv p2, iv p3, iv p4, rv b1, rv b18, rv b32, rv b89, iv (p4 &&& (3 : Int32)), rv b89, rv b75, rv b133, .val .null, .val .null, .val .null, rv b166, iv 1, .unset, .unset, .unset] X185 hx hZ165 ho165 E184_ (w94_ hw) (w95_ hw) (notFace_of_selects (args := #[]) (mvT hZ165 (w97_ hw))) (w97_ hw) (w96_ hw) (w3_ hw) (w98_ hw) (rm10 l Z a0 hw  b32 T165.heap n0 O177 F196_) pd9 hml.symm (hb hby at_270) e185q rfl rfl rfl rfl (by decide)
  obtain ⟨rfl, N191q, e191q⟩ := hQ191
  have N191 := Fr.app N185 N191q
  have F198_ := w81.ext E89
  have F199_ := F198_.ext E97
  have F200_ := F199_.keep K103q (ninS (Nat.ne_of_lt (Nat.lt_of_lt_of_le (Nat.lt_of_lt_of_le A32.lt (Nat.le_trans (Nat.le_trans (Nat.le_trans E40.1 K46q.1) K63q.1) E89.1)) (Nat.le_of_eq g97.symm))) nin0)
  have F201_ := F200_.keep K121q (ninS (Nat.ne_of_lt (Nat.lt_of_lt_of_le (Nat.lt_of_lt_of_le A32.lt (Nat.le_trans (Nat.le_trans E40.1 K46q.1) K63q.1)) (Nat.le_of_eq g89.symm))) nin0)
  have F202_ := F201_.keep K165q nin0
  obtain ⟨_, T197, L197, X197, hQ197, st197⟩ := own_cV 21 204 [] 278 #[iv p1, iv p2, iv p3, iv p4, rv b1, rv b18, rv b32, rv b89, iv (p4 &&& (3 : Int32)), rv b89, rv b75, rv b133, .val .null, .val .null, .val .null, rv b166, iv 1, .unset, .unset, .unset] X191 hx hZ165 ho165 E184_ (w99_ hw) (w100_ hw) (notFace_of_selects (args := #[]) (mvT hZ165 (w102_ hw))) (w102_ hw) (w101_ hw) (w3_ hw) (w103_ hw) (rm11 l Z a0 hw  b32 T165.heap n0 O177 F202_) pd8 hml.symm (hb hby at_278) e191q rfl rfl rfl rfl (by decide)
  obtain ⟨rfl, N197q, e197q⟩ := hQ197
  have N197 := Fr.app N191 N197q
  have F204_ := w136.keep K165q nin0
  have E205_ := E161_.keep K165q
  obtain ⟨_, T203, L203, X203, hQ203, st203⟩ := own_cV 21 204 [] 293 #[iv p1, iv p2, iv p3, iv p4, rv b1, rv b18, rv b32, rv b89, iv (p4 &&& (3 : Int32)), rv b89, rv b75, rv b133, .val .null, .val .null, .val .null, rv b166, iv 1, iv 1, .unset, .unset] X197 hx hZ165 ho165 E205_ (w84_ hw) (w85_ hw) (notFace_of_selects (args := #[]) (mvT hZ165 (w87_ hw))) (w87_ hw) (w86_ hw) (w3_ hw) (w88_ hw) (rm8 l Z a0 hw  b89 b133 T165.heap n0 O177 F204_) pd7 hml.symm (hb hby at_293) e197q rfl rfl rfl rfl (by decide)
  obtain ⟨rfl, N203q, e203q⟩ := hQ203
  have N203 := Fr.app N197 N203q
  have F207_ := w137.keep K165q nin0
  obtain ⟨_, T206, L206, X206, hQ206, st206⟩ := own_cV 21 204 [] 303 #[iv p1, iv p2, iv p3, iv p4, rv b1, rv b18, rv b32, rv b89, iv (p4 &&& (3 : Int32)), rv b89, rv b75, rv b133, .val .null, .val .null, .val .null, rv b166, iv 1, iv 1, .unset, .unset] X203 hx hZ165 ho165 E205_ (w89_ hw) (w90_ hw) (notFace_of_selects (args := #[]) (mvT hZ165 (w92_ hw))) (w92_ hw) (w91_ hw) (w3_ hw) (w93_ hw) (rm9 l Z a0 hw  b89 T165.heap n0 O177 F207_) pd8 hml.symm (hb hby at_303) e203q rfl rfl rfl rfl (by decide)
  obtain ⟨rfl, N206q, e206q⟩ := hQ206
  have N206 := Fr.app N203 N206q
  have F209_ := w138.keep K165q nin0
  obtain ⟨_, T208, L208, X208, hQ208, st208⟩ := own_cV 21 204 [] 313 #[iv p1, iv p2, iv p3, iv p4, rv b1, rv b18, rv b32, rv b89, iv (p4 &&& (3 : Int32)), rv b89, rv b75, rv b133, .val .null, .val .null, .val .null, rv b166, iv 1, iv 1, .unset, .unset] X206 hx hZ165 ho165 E205_ (w94_ hw) (w95_ hw) (notFace_of_selects (args := #[]) (mvT hZ165 (w97_ hw))) (w97_ hw) (w96_ hw) (w3_ hw) (w98_ hw) (rm10 l Z a0 hw  b89 T165.heap n0 O177 F209_) pd9 hml.symm (hb hby at_313) e206q rfl rfl rfl rfl (by decide)
  obtain ⟨rfl, N208q, e208q⟩ := hQ208
  have N208 := Fr.app N206 N208q
  have F211_ := w139.keep K165q nin0
  obtain ⟨_, T210, L210, X210, hQ210, st210⟩ := own_cV 21 204 [] 323 #[iv p1, iv p2, iv p3, iv p4, rv b1, rv b18, rv b32, rv b89, iv (p4 &&& (3 : Int32)), rv b89, rv b75, rv b133, .val .null, .val .null, .val .null, rv b166, iv 1, iv 1, .unset, .unset] X208 hx hZ165 ho165 E205_ (w99_ hw) (w100_ hw) (notFace_of_selects (args := #[]) (mvT hZ165 (w102_ hw))) (w102_ hw) (w101_ hw) (w3_ hw) (w103_ hw) (rm11 l Z a0 hw  b89 T165.heap n0 O177 F211_) pd8 hml.symm (hb hby at_323) e208q rfl rfl rfl rfl (by decide)
  obtain ⟨rfl, N210q, e210q⟩ := hQ210
  have N210 := Fr.app N208 N210q
  refine own_lvW X210 Bd.notSynchronized hS165 hk165 (v := (some (.int 1))) (fun h => by rw [Bd.returns] at h; cases h) e210q hh ⟨rfl, N210⟩ (R175.trans (CHv.at X210 hZ165 hEL CR165.1)) (lE rfl) (lE rfl) (fun fs hr => pr147 _ (by
   show Sx p e below T121 m 86 #[iv p1, iv p2, iv p3, iv p4, rv b1, rv b18, rv b32, rv b89, iv (p4 &&& (3 : Int32)), .unset, .unset, .unset, .unset, .unset, .unset, .unset, .unset, .unset, .unset, .unset] [(.int (p4 &&& (3 : Int32)))] _
   refine zo X121 Bd at_86 (XT.i0_ne_f (hc148 : (p4 &&& (3 : Int32)) = (0 : Int32))) ?_
   refine za X121 Bd at_89 rfl rfl ?_
   refine XS.astore X121.here hx rfl (hb hby at_91) rfl rfl (l' := #[iv p1, iv p2, iv p3, iv p4, rv b1, rv b18, rv b32, rv b89, iv (p4 &&& (3 : Int32)), rv b89, .unset, .unset, .unset, .unset, .unset, .unset, .unset, .unset, .unset, .unset]) rfl ?_
   refine zg (pc' := 136) X121 Bd at_93 rfl ?_
   refine za X121 Bd at_136 rfl rfl ?_
   refine st149 _ ?_
   refine XS.astore X149.here hx rfl (hb hby at_141) rfl rfl (l' := #[iv p1, iv p2, iv p3, iv p4, rv b1, rv b18, rv b32, rv b89, iv (p4 &&& (3 : Int32)), rv b89, rv b75, .unset, .unset, .unset, .unset, .unset, .unset, .unset, .unset, .unset]) rfl ?_
   refine za X149 Bd at_143 rfl rfl ?_
   refine st160 _ ?_
   refine XS.astore X160.here hx rfl (hb hby at_148) rfl rfl (l' := #[iv p1, iv p2, iv p3, iv p4, rv b1, rv b18, rv b32, rv b89, iv (p4 &&& (3 : Int32)), rv b89, rv b75, rv b133, .unset, .unset, .unset, .unset, .unset, .unset, .unset, .unset]) rfl ?_
   refine za X160 Bd at_150 rfl rfl ?_
   refine st162 _ ?_
   refine XS.astore X162.here hx rfl (hb hby at_155) rfl rfl (l' := #[iv p1, iv p2, iv p3, iv p4, rv b1, rv b18, rv b32, rv b89, iv (p4 &&& (3 : Int32)), rv b89, rv b75, rv b133, .val .null, .unset, .unset, .unset, .unset, .unset, .unset, .unset]) rfl ?_
   refine za X162 Bd at_157 rfl rfl ?_
   refine st163 _ ?_
   refine XS.astore X163.here hx rfl (hb hby at_162) rfl rfl (l' := #[iv p1, iv p2, iv p3, iv p4, rv b1, rv b18, rv b32, rv b89, iv (p4 &&& (3 : Int32)), rv b89, rv b75, rv b133, .val .null, .val .null, .unset, .unset, .unset, .unset, .unset, .unset]) rfl ?_
   refine za X163 Bd at_164 rfl rfl ?_
   refine st164 _ ?_
   refine XS.astore X164.here hx rfl (hb hby at_169) rfl rfl (l' := #[iv p1, iv p2, iv p3, iv p4, rv b1, rv b18, rv b32, rv b89, iv (p4 &&& (3 : Int32)), rv b89, rv b75, rv b133, .val .null, .val .null, .val .null, .unset, .unset, .unset, .unset, .unset]) rfl ?_
   refine za X164 Bd at_171 rfl rfl ?_
   refine za X164 Bd at_173 rfl rfl ?_
   refine st165.trans ?_
   refine XS.astore X165.here hx rfl (hb hby at_178) rfl rfl (l' := #[iv p1, iv p2, iv p3, iv p4, rv b1, rv b18, rv b32, rv b89, iv (p4 &&& (3 : Int32)), rv b89, rv b75, rv b133, .val .null, .val .null, .val .null, rv b166, .unset, .unset, .unset, .unset]) rfl ?_
   refine za X165 Bd at_180 rfl rfl ?_
   refine XS.ifnullNo X165.here hx rfl (hb hby at_182) rfl ?_
   show Sx p e below T165 m 185 #[iv p1, iv p2, iv p3, iv p4, rv b1, rv b18, rv b32, rv b89, iv (p4 &&& (3 : Int32)), rv b89, rv b75, rv b133, .val .null, .val .null, .val .null, rv b166, .unset, .unset, .unset, .unset] [] _
   refine za X165 Bd at_185 rfl rfl ?_
   refine za X165 Bd at_187 rfl rfl ?_
   refine Jvm.RoadKit.acmp (g := (mkF m 189 #[iv p1, iv p2, iv p3, iv p4, rv b1, rv b18, rv b32, rv b89, iv (p4 &&& (3 : Int32)), rv b89, rv b75, rv b133, .val .null, .val .null, .val .null, rv b166, .unset, .unset, .unset, .unset] [.ref b32, .ref b166])) X165 hx rfl rfl rfl (pc0 := 189) (pc' := 192) (same := false) rfl (hb hby at_189) rfl (decide_eq_false fun q => (Ne.symm (Nat.ne_of_lt (Nat.lt_of_lt_of_le (Nat.lt_of_lt_of_le A32.lt (Nat.le_trans (Nat.le_trans (Nat.le_trans (Nat.le_trans (Nat.le_trans (Nat.le_trans E40.1 K46q.1) K63q.1) E89.1) E97.1) K103q.1) K121q.1)) w167))) (Value.ref.inj q)) (by decide) (by decide) ?_
   refine za X165 Bd at_192 rfl rfl ?_
   refine za X165 Bd at_194 rfl rfl ?_
   refine Jvm.RoadKit.acmp (g := (mkF m 196 #[iv p1, iv p2, iv p3, iv p4, rv b1, rv b18, rv b32, rv b89, iv (p4 &&& (3 : Int32)), rv b89, rv b75, rv b133, .val .null, .val .null, .val .null, rv b166, .unset, .unset, .unset, .unset] [.ref b89, .ref b166])) X165 hx rfl rfl rfl (pc0 := 196) (pc' := 199) (same := false) rfl (hb hby at_196) rfl (decide_eq_false fun q => (Ne.symm (Nat.ne_of_lt (Nat.lt_of_lt_of_le (Nat.lt_of_lt_of_le A89.lt (Nat.le_trans (Nat.le_trans E97.1 K103q.1) K121q.1)) w167))) (Value.ref.inj q)) (by decide) (by decide) ?_
   refine za X165 Bd at_199 rfl rfl ?_
   refine st176 _ ?_
   refine XS.ifnonnullNo X176.here hx rfl (hb hby at_204) rfl ?_
   refine za X176 Bd at_207 rfl rfl ?_
   refine st178 _ ?_
   refine za X178 Bd at_212 rfl rfl ?_
   refine Jvm.RoadKit.acmp (g := (mkF m 214 #[iv p1, iv p2, iv p3, iv p4, rv b1, rv b18, rv b32, rv b89, iv (p4 &&& (3 : Int32)), rv b89, rv b75, rv b133, .val .null, .val .null, .val .null, rv b166, .unset, .unset, .unset, .unset] [.ref b32, .ref b32])) X178 hx rfl rfl rfl (pc0 := 214) (pc' := 217) (same := true) rfl (hb hby at_214) rfl (decide_eq_true rfl) (by decide) (by decide) ?_
   refine za X178 Bd at_217 rfl rfl ?_
   refine st179 _ ?_
   refine st180 _ ?_
   refine Jvm.RoadKit.acmp (g := (mkF m 225 #[iv p1, iv p2, iv p3, iv p4, rv b1, rv b18, rv b32, rv b89, iv (p4 &&& (3 : Int32)), rv b89, rv b75, rv b133, .val .null, .val .null, .val .null, rv b166, .unset, .unset, .unset, .unset] [.ref Gg1, .ref Gg1])) X180 hx rfl rfl rfl (pc0 := 225) (pc' := 228) (same := true) rfl (hb hby at_225) rfl (decide_eq_true rfl) (by decide) (by decide) ?_
   refine za X180 Bd at_228 rfl rfl ?_
   refine st181 _ ?_
   refine za X181 Bd at_233 rfl rfl ?_
   refine Jvm.RoadKit.acmp (g := (mkF m 235 #[iv p1, iv p2, iv p3, iv p4, rv b1, rv b18, rv b32, rv b89, iv (p4 &&& (3 : Int32)), rv b89, rv b75, rv b133, .val .null, .val .null, .val .null, rv b166, .unset, .unset, .unset, .unset] [.ref b89, .ref b89])) X181 hx rfl rfl rfl (pc0 := 235) (pc' := 238) (same := true) rfl (hb hby at_235) rfl (decide_eq_true rfl) (by decide) (by decide) ?_
   refine zc X181 Bd at_238 ?_
   refine zg (pc' := 243) X181 Bd at_239 rfl ?_
   refine zs X181 Bd at_243 (l' := #[iv p1, iv p2, iv p3, iv p4, rv b1, rv b18, rv b32, rv b89, iv (p4 &&& (3 : Int32)), rv b89, rv b75, rv b133, .val .null, .val .null, .val .null, rv b166, iv 1, .unset, .unset, .unset]) rfl ?_
   refine za X181 Bd at_245 rfl rfl ?_
   show Sx p e below T181 m 247 #[iv p1, iv p2, iv p3, iv p4, rv b1, rv b18, rv b32, rv b89, iv (p4 &&& (3 : Int32)), rv b89, rv b75, rv b133, .val .null, .val .null, .val .null, rv b166, iv 1, .unset, .unset, .unset] [.ref b75] _
   refine XS.ifnullNo X181.here hx rfl (hb hby at_247) rfl ?_
   refine za X181 Bd at_250 rfl rfl ?_
   refine st182 _ ?_
   refine za X182 Bd at_255 rfl rfl ?_
   refine Jvm.RoadKit.acmp (g := (mkF m 257 #[iv p1, iv p2, iv p3, iv p4, rv b1, rv b18, rv b32, rv b89, iv (p4 &&& (3 : Int32)), rv b89, rv b75, rv b133, .val .null, .val .null, .val .null, rv b166, iv 1, .unset, .unset, .unset] [.ref b75, .ref b75])) X182 hx rfl rfl rfl (pc0 := 257) (pc' := 260) (same := true) rfl (hb hby at_257) rfl (decide_eq_true rfl) (by decide) (by decide) ?_
   refine za X182 Bd at_260 rfl rfl ?_
   refine st185 _ ?_
   refine XS.ifnonnullNo X185.here hx rfl (hb hby at_265) rfl ?_
   refine za X185 Bd at_268 rfl rfl ?_
   refine st191 _ ?_
   refine XS.ifnonnullNo X191.here hx rfl (hb hby at_273) rfl ?_
   refine za X191 Bd at_276 rfl rfl ?_
   refine st197 _ ?_
   refine XS.ifnonnullNo X197.here hx rfl (hb hby at_281) rfl ?_
   refine zc X197 Bd at_284 ?_
   refine zg (pc' := 289) X197 Bd at_285 rfl ?_
   refine zs X197 Bd at_289 (l' := #[iv p1, iv p2, iv p3, iv p4, rv b1, rv b18, rv b32, rv b89, iv (p4 &&& (3 : Int32)), rv b89, rv b75, rv b133, .val .null, .val .null, .val .null, rv b166, iv 1, iv 1, .unset, .unset]) rfl ?_
   refine za X197 Bd at_291 rfl rfl ?_
   refine st203 _ ?_
   refine za X203 Bd at_296 rfl rfl ?_
   refine Jvm.RoadKit.acmp (g := (mkF m 298 #[iv p1, iv p2, iv p3, iv p4, rv b1, rv b18, rv b32, rv b89, iv (p4 &&& (3 : Int32)), rv b89, rv b75, rv b133, .val .null, .val .null, .val .null, rv b166, iv 1, iv 1, .unset, .unset] [.ref b133, .ref b133])) X203 hx rfl rfl rfl (pc0 := 298) (pc' := 301) (same := true) rfl (hb hby at_298) rfl (decide_eq_true rfl) (by decide) (by decide) ?_
   refine za X203 Bd at_301 rfl rfl ?_
   refine st206 _ ?_
   refine za X206 Bd at_306 rfl rfl ?_
   refine Jvm.RoadKit.acmp (g := (mkF m 308 #[iv p1, iv p2, iv p3, iv p4, rv b1, rv b18, rv b32, rv b89, iv (p4 &&& (3 : Int32)), rv b89, rv b75, rv b133, .val .null, .val .null, .val .null, rv b166, iv 1, iv 1, .unset, .unset] [.null, .null])) X206 hx rfl rfl rfl (pc0 := 308) (pc' := 311) (same := true) rfl (hb hby at_308) rfl (decide_eq_true rfl) (by decide) (by decide) ?_
   show Sx p e below T206 m 311 #[iv p1, iv p2, iv p3, iv p4, rv b1, rv b18, rv b32, rv b89, iv (p4 &&& (3 : Int32)), rv b89, rv b75, rv b133, .val .null, .val .null, .val .null, rv b166, iv 1, iv 1, .unset, .unset] [] _
   refine za X206 Bd at_311 rfl rfl ?_
   refine st208 _ ?_
   refine za X208 Bd at_316 rfl rfl ?_
   refine Jvm.RoadKit.acmp (g := (mkF m 318 #[iv p1, iv p2, iv p3, iv p4, rv b1, rv b18, rv b32, rv b89, iv (p4 &&& (3 : Int32)), rv b89, rv b75, rv b133, .val .null, .val .null, .val .null, rv b166, iv 1, iv 1, .unset, .unset] [.null, .null])) X208 hx rfl rfl rfl (pc0 := 318) (pc' := 321) (same := true) rfl (hb hby at_318) rfl (decide_eq_true rfl) (by decide) (by decide) ?_
   refine za X208 Bd at_321 rfl rfl ?_
   refine st210 _ ?_
   refine za X210 Bd at_326 rfl rfl ?_
   refine Jvm.RoadKit.acmp (g := (mkF m 328 #[iv p1, iv p2, iv p3, iv p4, rv b1, rv b18, rv b32, rv b89, iv (p4 &&& (3 : Int32)), rv b89, rv b75, rv b133, .val .null, .val .null, .val .null, rv b166, iv 1, iv 1, .unset, .unset] [.null, .null])) X210 hx rfl rfl rfl (pc0 := 328) (pc' := 331) (same := true) rfl (hb hby at_328) rfl (decide_eq_true rfl) (by decide) (by decide) ?_
   refine zc X210 Bd at_331 ?_
   refine zg (pc' := 336) X210 Bd at_332 rfl ?_
   refine zs X210 Bd at_336 (l' := #[iv p1, iv p2, iv p3, iv p4, rv b1, rv b18, rv b32, rv b89, iv (p4 &&& (3 : Int32)), rv b89, rv b75, rv b133, .val .null, .val .null, .val .null, rv b166, iv 1, iv 1, iv 1, .unset]) rfl ?_
   refine zi X210 Bd at_338 rfl ?_
   refine zo X210 Bd at_340 (XT.i0_ne_f (hc148 : (p4 &&& (3 : Int32)) = (0 : Int32))) ?_
   refine za X210 Bd at_343 rfl rfl ?_
   refine XS.ifnullNo X210.here hx rfl (hb hby at_345) rfl ?_
   refine za X210 Bd at_348 rfl rfl ?_
   refine XS.ifnonnullNo X210.here hx rfl (hb hby at_350) rfl ?_
   refine za X210 Bd at_353 rfl rfl ?_
   refine XS.ifnonnullNo X210.here hx rfl (hb hby at_355) rfl ?_
   refine za X210 Bd at_358 rfl rfl ?_
   refine XS.ifnonnullNo X210.here hx rfl (hb hby at_360) rfl ?_
   refine zc X210 Bd at_363 ?_
   refine zg (pc' := 368) X210 Bd at_364 rfl ?_
   refine zs X210 Bd at_368 (l' := #[iv p1, iv p2, iv p3, iv p4, rv b1, rv b18, rv b32, rv b89, iv (p4 &&& (3 : Int32)), rv b89, rv b75, rv b133, .val .null, .val .null, .val .null, rv b166, iv 1, iv 1, iv 1, iv 1]) rfl ?_
   refine zg (pc' := 462) X210 Bd at_370 rfl ?_
   show Sx p e below T210 m 462 #[iv p1, iv p2, iv p3, iv p4, rv b1, rv b18, rv b32, rv b89, iv (p4 &&& (3 : Int32)), rv b89, rv b75, rv b133, .val .null, .val .null, .val .null, rv b166, iv 1, iv 1, iv 1, iv 1] [] _
   refine zi X210 Bd at_462 rfl ?_
   refine zo X210 Bd at_464 (XT.i0_eq_f ((by decide) : ¬ ((1 : Int32) = (0 : Int32)))) ?_
   refine zi X210 Bd at_467 rfl ?_
   refine zo X210 Bd at_469 (XT.i0_eq_f ((by decide) : ¬ ((1 : Int32) = (0 : Int32)))) ?_
   refine zi X210 Bd at_472 rfl ?_
   refine zo X210 Bd at_474 (XT.i0_eq_f ((by decide) : ¬ ((1 : Int32) = (0 : Int32)))) ?_
   refine zi X210 Bd at_477 rfl ?_
   refine zo X210 Bd at_479 (XT.i0_eq_f ((by decide) : ¬ ((1 : Int32) = (0 : Int32)))) ?_
   refine zc X210 Bd at_482 ?_
   refine zg (pc' := 487) X210 Bd at_483 rfl ?_
   exact retN X210 hx (t := .boolean) Bd.returns (by simp) (hb hby at_487) hr))
 ·
  skip
  have pr212 : Pr p e below T121 m 99 #[iv p1, iv p2, iv p3, iv p4, rv b1, rv b18, rv b32, rv b89, iv (p4 &&& (3 : Int32)), .unset, .unset, .unset, .unset, .unset, .unset, .unset, .unset, .unset, .unset, .unset] [.int 1, (.int (p4 &&& (3 : Int32)))] s₁ en := fun t k => pr147 t (by
   show Sx p e below T121 m 86 #[iv p1, iv p2, iv p3, iv p4, rv b1, rv b18, rv b32, rv b89, iv (p4 &&& (3 : Int32)), .unset, .unset, .unset, .unset, .unset, .unset, .unset, .unset, .unset, .unset, .unset] [(.int (p4 &&& (3 : Int32)))] _
   refine zp (pc' := 96) X121 Bd at_86 (XT.i0_ne_t (hc148 : ¬ ((p4 &&& (3 : Int32)) = (0 : Int32)))) rfl ?_
   refine zi X121 Bd at_96 rfl ?_
   refine zc X121 Bd at_98 ?_
   exact k)
  by_cases hc213 : (p4 &&& (3 : Int32)) = (1 : Int32)
  ·
   skip
   have F215_ := w78.ext E89
   have F216_ := F215_.ext E97
   have F217_ := F216_.keep K103q (ninS (Nat.ne_of_lt (Nat.lt_of_lt_of_le (Nat.lt_of_lt_of_le A32.lt (Nat.le_trans (Nat.le_trans (Nat.le_trans E40.1 K46q.1) K63q.1) E89.1)) (Nat.le_of_eq g97.symm))) nin0)
   have F218_ := F217_.keep K121q (ninS (Nat.ne_of_lt (Nat.lt_of_lt_of_le (Nat.lt_of_lt_of_le A32.lt (Nat.le_trans (Nat.le_trans E40.1 K46q.1) K63q.1)) (Nat.le_of_eq g89.symm))) nin0)
   have O219 := O120.keep K121q (allS g_b89 all0)
   have E220_ := E65_.keep K63q
   have E221_ := E220_.ext E89
   have E222_ := E221_.ext E97
   have E223_ := E222_.keep K103q
   have E224_ := E223_.keep K121q
   obtain ⟨_, T214, L214, X214, hQ214, st214⟩ := own_cV 18 172 [] 138 #[iv p1, iv p2, iv p3, iv p4, rv b1, rv b18, rv b32, rv b89, iv (p4 &&& (3 : Int32)), rv b32, .unset, .unset, .unset, .unset, .unset, .unset, .unset, .unset, .unset, .unset] X121 hx hZ121 ho121 E224_ (w84_ hw) (w85_ hw) (notFace_of_selects (args := #[]) (mvT hZ121 (w87_ hw))) (w87_ hw) (w86_ hw) (w3_ hw) (w88_ hw) (rm8 l Z a0 hw  b32 b75 T121.heap n0 O219 F218_) pd7 hml.symm (hb hby at_138) rfl rfl rfl rfl rfl (by decide)
   obtain ⟨rfl, N214q, e214q⟩ := hQ214
   have N214 := Fr.app N121 N214q
   obtain ⟨_, T225, L225, X225, hQ225, st225⟩ := own_cV 18 172 [] 145 #[iv p1, iv p2, iv p3, iv p4, rv b1, rv b18, rv b32, rv b89, iv (p4 &&& (3 : Int32)), rv b32, rv b75, .unset, .unset, .unset, .unset, .unset, .unset, .unset, .unset, .unset] X214 hx hZ121 ho121 E224_ (w84_ hw) (w85_ hw) (notFace_of_selects (args := #[]) (mvT hZ121 (w87_ hw))) (w87_ hw) (w86_ hw) (w3_ hw) (w88_ hw) (rm8 l Z a0 hw  b32 b75 T121.heap n0 O219 F218_) pd7 hml.symm (hb hby at_145) e214q rfl rfl rfl rfl (by decide)
   obtain ⟨rfl, N225q, e225q⟩ := hQ225
   have N225 := Fr.app N214 N225q
   have F227_ := w79.ext E89
   have F228_ := F227_.ext E97
   have F229_ := F228_.keep K103q (ninS (Nat.ne_of_lt (Nat.lt_of_lt_of_le (Nat.lt_of_lt_of_le A32.lt (Nat.le_trans (Nat.le_trans (Nat.le_trans E40.1 K46q.1) K63q.1) E89.1)) (Nat.le_of_eq g97.symm))) nin0)
   have F230_ := F229_.keep K121q (ninS (Nat.ne_of_lt (Nat.lt_of_lt_of_le (Nat.lt_of_lt_of_le A32.lt (Nat.le_trans (Nat.le_trans E40.1 K46q.1) K63q.1)) (Nat.le_of_eq g89.symm))) nin0)
   obtain ⟨_, T226, L226, X226, hQ226, st226⟩ := own_cV 18 172 [] 152 #[iv p1, iv p2, iv p3, iv p4, rv b1, rv b18, rv b32, rv b89, iv (p4 &&& (3 : Int32)), rv b32, rv b75, rv b75, .unset, .unset, .unset, .unset, .unset, .unset, .unset, .unset] X225 hx hZ121 ho121 E224_ (w89_ hw) (w90_ hw) (notFace_of_selects (args := #[]) (mvT hZ121 (w92_ hw))) (w92_ hw) (w91_ hw) (w3_ hw) (w93_ hw) (rm9 l Z a0 hw  b32 T121.heap n0 O219 F230_) pd8 hml.symm (hb hby at_152) e225q rfl rfl rfl rfl (by decide)
   obtain ⟨rfl, N226q, e226q⟩ := hQ226
   have N226 := Fr.app N225 N226q
   have F232_ := w80.ext E89
   have F233_ := F232_.ext E97
   have F234_ := F233_.keep K103q (ninS (Nat.ne_of_lt (Nat.lt_of_lt_of_le (Nat.lt_of_lt_of_le A32.lt (Nat.le_trans (Nat.le_trans (Nat.le_trans E40.1 K46q.1) K63q.1) E89.1)) (Nat.le_of_eq g97.symm))) nin0)
   have F235_ := F234_.keep K121q (ninS (Nat.ne_of_lt (Nat.lt_of_lt_of_le (Nat.lt_of_lt_of_le A32.lt (Nat.le_trans (Nat.le_trans E40.1 K46q.1) K63q.1)) (Nat.le_of_eq g89.symm))) nin0)
   obtain ⟨_, T231, L231, X231, hQ231, st231⟩ := own_cV 18 172 [] 159 #[iv p1, iv p2, iv p3, iv p4, rv b1, rv b18, rv b32, rv b89, iv (p4 &&& (3 : Int32)), rv b32, rv b75, rv b75, .val .null, .unset, .unset, .unset, .unset, .unset, .unset, .unset] X226 hx hZ121 ho121 E224_ (w94_ hw) (w95_ hw) (notFace_of_selects (args := #[]) (mvT hZ121 (w97_ hw))) (w97_ hw) (w96_ hw) (w3_ hw) (w98_ hw) (rm10 l Z a0 hw  b32 T121.heap n0 O219 F235_) pd9 hml.symm (hb hby at_159) e226q rfl rfl rfl rfl (by decide)
   obtain ⟨rfl, N231q, e231q⟩ := hQ231
   have N231 := Fr.app N226 N231q
   have F237_ := w81.ext E89
   have F238_ := F237_.ext E97
   have F239_ := F238_.keep K103q (ninS (Nat.ne_of_lt (Nat.lt_of_lt_of_le (Nat.lt_of_lt_of_le A32.lt (Nat.le_trans (Nat.le_trans (Nat.le_trans E40.1 K46q.1) K63q.1) E89.1)) (Nat.le_of_eq g97.symm))) nin0)
   have F240_ := F239_.keep K121q (ninS (Nat.ne_of_lt (Nat.lt_of_lt_of_le (Nat.lt_of_lt_of_le A32.lt (Nat.le_trans (Nat.le_trans E40.1 K46q.1) K63q.1)) (Nat.le_of_eq g89.symm))) nin0)
   obtain ⟨_, T236, L236, X236, hQ236, st236⟩ := own_cV 18 172 [] 166 #[iv p1, iv p2, iv p3, iv p4, rv b1, rv b18, rv b32, rv b89, iv (p4 &&& (3 : Int32)), rv b32, rv b75, rv b75, .val .null, .val .null, .unset, .unset, .unset, .unset, .unset, .unset] X231 hx hZ121 ho121 E224_ (w99_ hw) (w100_ hw) (notFace_of_selects (args := #[]) (mvT hZ121 (w102_ hw))) (w102_ hw) (w101_ hw) (w3_ hw) (w103_ hw) (rm11 l Z a0 hw  b32 T121.heap n0 O219 F240_) pd8 hml.symm (hb hby at_166) e231q rfl rfl rfl rfl (by decide)
   obtain ⟨rfl, N236q, e236q⟩ := hQ236
   have N236 := Fr.app N231 N236q
   obtain ⟨cq241, kq241, q241a, q241b, q241c⟩ := isOf hZ121 e236q E224_
   obtain ⟨_, T241, L241, X241, hQ241, hS241, hZ241, ho241, CR241, st241⟩ := own_cbS 18 172 3 32 21 204 (X236.virtualBackS hx (y := Y11_) (z := Y11_) ho121 (mvT hZ121 (w104_ hw)) (mvT hZ121 (w105_ hw)) (notFace_of_selects (args := #[]) (mvT hZ121 (w107_ hw))) (mvT hZ121 (w107_ hw)) (mvT hZ121 (w106_ hw)) (by decide) (backOfSH (W := 0) (EL := ([] : List (String × Nat))) (s := s) (rm19 l Z a0 hw Gg0 Gg1 Gg2 b32 T121.heap n0 O219 hEN E224_) hZ121 (w108_ hw) (w3_ hw) (lE rfl) (lE rfl) hEL CR121.1) q241a q241c (g := (mkF m 175 #[iv p1, iv p2, iv p3, iv p4, rv b1, rv b18, rv b32, rv b89, iv (p4 &&& (3 : Int32)), rv b32, rv b75, rv b75, .val .null, .val .null, .val .null, .unset, .unset, .unset, .unset, .unset] [.ref b32, .ref b32])) rfl hml.symm (Steps.refl _) (argsL := [.ref b32]) (rest := []) (lenOf pd11 rfl) rfl (own_hw rfl) (hb hby at_175) (fun _ _ => ⟨rfl, e236q, (lE rfl : 18 + 3 ≤ _), (lE rfl : 172 + 32 ≤ _)⟩)) rfl rfl hS121 (by rw [e236q]; exact hk121) hZ121 ho121
   obtain ⟨b242, rfl, N241q, K241q, w243, w244, w245, w246, w247, w248⟩ := hQ241
   have N241 := Fr.app N236 N241q
   have hk241 : T241.heap.size ≤ T241.heap.size := Nat.le_refl _
   have K249 := K144.trans K241q (fun x q => nomatch q)
   have R251 := R146.trans CR241
   have O253 := O219.keep K241q all0
   obtain ⟨_, T252, L252, X252, hQ252, st252⟩ := own_cV 21 204 [] 201 #[iv p1, iv p2, iv p3, iv p4, rv b1, rv b18, rv b32, rv b89, iv (p4 &&& (3 : Int32)), rv b32, rv b75, rv b75, .val .null, .val .null, .val .null, rv b242, .unset, .unset, .unset, .unset] X241 hx hZ241 ho241 w244 (w84_ hw) (w85_ hw) (notFace_of_selects (args := #[]) (mvT hZ241 (w87_ hw))) (w87_ hw) (w86_ hw) (w3_ hw) (w88_ hw) (rm14 l Z a0 hw  b242 T241.heap n0 O253 w245) pd7 hml.symm (hb hby at_201) rfl rfl rfl rfl rfl (by decide)
   obtain ⟨rfl, N252q, e252q⟩ := hQ252
   have N252 := Fr.app N241 N252q
   obtain ⟨_, T254, L254, X254, hQ254, st254⟩ := own_cV 21 204 [] 209 #[iv p1, iv p2, iv p3, iv p4, rv b1, rv b18, rv b32, rv b89, iv (p4 &&& (3 : Int32)), rv b32, rv b75, rv b75, .val .null, .val .null, .val .null, rv b242, .unset, .unset, .unset, .unset] X252 hx hZ241 ho241 w244 (w89_ hw) (w90_ hw) (notFace_of_selects (args := #[]) (mvT hZ241 (w92_ hw))) (w92_ hw) (w91_ hw) (w3_ hw) (w93_ hw) (rm15 l Z a0 hw  b242 b32 T241.heap n0 O253 w246) pd8 hml.symm (hb hby at_209) e252q rfl rfl rfl rfl (by decide)
   obtain ⟨rfl, N254q, e254q⟩ := hQ254
   have N254 := Fr.app N252 N254q
   obtain ⟨_, T255, L255, X255, hQ255, st255⟩ := own_cV 21 204 [] 219 #[iv p1, iv p2, iv p3, iv p4, rv b1, rv b18, rv b32, rv b89, iv (p4 &&& (3 : Int32)), rv b32, rv b75, rv b75, .val .null, .val .null, .val .null, rv b242, .unset, .unset, .unset, .unset] X254 hx hZ241 ho241 w244 (w94_ hw) (w95_ hw) (notFace_of_selects (args := #[]) (mvT hZ241 (w97_ hw))) (w97_ hw) (w96_ hw) (w3_ hw) (w98_ hw) (rm16 l Z a0 hw Gg0 Gg1 Gg2 b242 T241.heap n0 O253 hEN w247) pd9 hml.symm (hb hby at_219) e254q rfl rfl rfl rfl (by decide)
   obtain ⟨rfl, N255q, e255q⟩ := hQ255
   have N255 := Fr.app N254 N255q
   obtain ⟨T256, X256, e256, st256⟩ := getS2 X255 hx hZ241 ho241 (host := "") (Or.inl (w119_ hw)) Via.refl e255q (hEN.2.2.1.ext O253.2) (g := (mkF m 222 #[iv p1, iv p2, iv p3, iv p4, rv b1, rv b18, rv b32, rv b89, iv (p4 &&& (3 : Int32)), rv b32, rv b75, rv b75, .val .null, .val .null, .val .null, rv b242, .unset, .unset, .unset, .unset] [.ref Gg1])) rfl (hb hby at_222)
   obtain ⟨_, T257, L257, X257, hQ257, st257⟩ := own_cV 21 204 [] 230 #[iv p1, iv p2, iv p3, iv p4, rv b1, rv b18, rv b32, rv b89, iv (p4 &&& (3 : Int32)), rv b32, rv b75, rv b75, .val .null, .val .null, .val .null, rv b242, .unset, .unset, .unset, .unset] X256 hx hZ241 ho241 w244 (w99_ hw) (w100_ hw) (notFace_of_selects (args := #[]) (mvT hZ241 (w102_ hw))) (w102_ hw) (w101_ hw) (w3_ hw) (w103_ hw) (rm17 l Z a0 hw  b242 b32 T241.heap n0 O253 w248) pd8 hml.symm (hb hby at_230) e256 rfl rfl rfl rfl (by decide)
   obtain ⟨rfl, N257q, e257q⟩ := hQ257
   have N257 := Fr.app N255 N257q
   have F259_ := F218_.keep K241q nin0
   have E260_ := E224_.keep K241q
   obtain ⟨_, T258, L258, X258, hQ258, st258⟩ := own_cV 21 204 [] 252 #[iv p1, iv p2, iv p3, iv p4, rv b1, rv b18, rv b32, rv b89, iv (p4 &&& (3 : Int32)), rv b32, rv b75, rv b75, .val .null, .val .null, .val .null, rv b242, iv 1, .unset, .unset, .unset] X257 hx hZ241 ho241 E260_ (w84_ hw) (w85_ hw) (notFace_of_selects (args := #[]) (mvT hZ241 (w87_ hw))) (w87_ hw) (w86_ hw) (w3_ hw) (w88_ hw) (rm8 l Z a0 hw  b32 b75 T241.heap n0 O253 F259_) pd7 hml.symm (hb hby at_252) e257q rfl rfl rfl rfl (by decide)
   obtain ⟨rfl, N258q, e258q⟩ := hQ258
   have N258 := Fr.app N257 N258q
   have F262_ := F230_.keep K241q nin0
   obtain ⟨_, T261, L261, X261, hQ261, st261⟩ := own_cV 21 204 [] 262 #[iv p1, iv p2, iv p3, iv p4, rv b1, rv b18, rv b32, rv b89, iv (p4 &&& (3 : Int32)), rv b32, rv b75, rv b75, .val .null, .val .null, .val .null, rv b242, iv 1, .unset, .unset, .unset] X258 hx hZ241 ho241 E260_ (w89_ hw) (w90_ hw) (notFace_of_selects (args := #[]) (mvT hZ241 (w92_ hw))) (w92_ hw) (w91_ hw) (w3_ hw) (w93_ hw) (rm9 l Z a0 hw  b32 T241.heap n0 O253 F262_) pd8 hml.symm (hb hby at_262) e258q rfl rfl rfl rfl (by decide)
   obtain ⟨rfl, N261q, e261q⟩ := hQ261
   have N261 := Fr.app N258 N261q
   have F264_ := F235_.keep K241q nin0
   obtain ⟨_, T263, L263, X263, hQ263, st263⟩ := own_cV 21 204 [] 270 #[iv p1, iv p2, iv p3, iv p4, rv b1, rv b18, rv b32, rv b89, iv (p4 &&& (3 : Int32)), rv b32, rv b75, rv b75, .val .null, .val .null, .val .null, rv b242, iv 1, .unset, .unset, .unset] X261 hx hZ241 ho241 E260_ (w94_ hw) (w95_ hw) (notFace_of_selects (args := #[]) (mvT hZ241 (w97_ hw))) (w97_ hw) (w96_ hw) (w3_ hw) (w98_ hw) (rm10 l Z a0 hw  b32 T241.heap n0 O253 F264_) pd9 hml.symm (hb hby at_270) e261q rfl rfl rfl rfl (by decide)
   obtain ⟨rfl, N263q, e263q⟩ := hQ263
   have N263 := Fr.app N261 N263q
   have F266_ := F240_.keep K241q nin0
   obtain ⟨_, T265, L265, X265, hQ265, st265⟩ := own_cV 21 204 [] 278 #[iv p1, iv p2, iv p3, iv p4, rv b1, rv b18, rv b32, rv b89, iv (p4 &&& (3 : Int32)), rv b32, rv b75, rv b75, .val .null, .val .null, .val .null, rv b242, iv 1, .unset, .unset, .unset] X263 hx hZ241 ho241 E260_ (w99_ hw) (w100_ hw) (notFace_of_selects (args := #[]) (mvT hZ241 (w102_ hw))) (w102_ hw) (w101_ hw) (w3_ hw) (w103_ hw) (rm11 l Z a0 hw  b32 T241.heap n0 O253 F266_) pd8 hml.symm (hb hby at_278) e263q rfl rfl rfl rfl (by decide)
   obtain ⟨rfl, N265q, e265q⟩ := hQ265
   have N265 := Fr.app N263 N265q
   obtain ⟨_, T267, L267, X267, hQ267, st267⟩ := own_cV 21 204 [] 293 #[iv p1, iv p2, iv p3, iv p4, rv b1, rv b18, rv b32, rv b89, iv (p4 &&& (3 : Int32)), rv b32, rv b75, rv b75, .val .null, .val .null, .val .null, rv b242, iv 1, iv 1, .unset, .unset] X265 hx hZ241 ho241 E260_ (w84_ hw) (w85_ hw) (notFace_of_selects (args := #[]) (mvT hZ241 (w87_ hw))) (w87_ hw) (w86_ hw) (w3_ hw) (w88_ hw) (rm8 l Z a0 hw  b32 b75 T241.heap n0 O253 F259_) pd7 hml.symm (hb hby at_293) e265q rfl rfl rfl rfl (by decide)
   obtain ⟨rfl, N267q, e267q⟩ := hQ267
   have N267 := Fr.app N265 N267q
   obtain ⟨_, T268, L268, X268, hQ268, st268⟩ := own_cV 21 204 [] 303 #[iv p1, iv p2, iv p3, iv p4, rv b1, rv b18, rv b32, rv b89, iv (p4 &&& (3 : Int32)), rv b32, rv b75, rv b75, .val .null, .val .null, .val .null, rv b242, iv 1, iv 1, .unset, .unset] X267 hx hZ241 ho241 E260_ (w89_ hw) (w90_ hw) (notFace_of_selects (args := #[]) (mvT hZ241 (w92_ hw))) (w92_ hw) (w91_ hw) (w3_ hw) (w93_ hw) (rm9 l Z a0 hw  b32 T241.heap n0 O253 F262_) pd8 hml.symm (hb hby at_303) e267q rfl rfl rfl rfl (by decide)
   obtain ⟨rfl, N268q, e268q⟩ := hQ268
   have N268 := Fr.app N267 N268q
   obtain ⟨_, T269, L269, X269, hQ269, st269⟩ := own_cV 21 204 [] 313 #[iv p1, iv p2, iv p3, iv p4, rv b1, rv b18, rv b32, rv b89, iv (p4 &&& (3 : Int32)), rv b32, rv b75, rv b75, .val .null, .val .null, .val .null, rv b242, iv 1, iv 1, .unset, .unset] X268 hx hZ241 ho241 E260_ (w94_ hw) (w95_ hw) (notFace_of_selects (args := #[]) (mvT hZ241 (w97_ hw))) (w97_ hw) (w96_ hw) (w3_ hw) (w98_ hw) (rm10 l Z a0 hw  b32 T241.heap n0 O253 F264_) pd9 hml.symm (hb hby at_313) e268q rfl rfl rfl rfl (by decide)
   obtain ⟨rfl, N269q, e269q⟩ := hQ269
   have N269 := Fr.app N268 N269q
   obtain ⟨_, T270, L270, X270, hQ270, st270⟩ := own_cV 21 204 [] 323 #[iv p1, iv p2, iv p3, iv p4, rv b1, rv b18, rv b32, rv b89, iv (p4 &&& (3 : Int32)), rv b32, rv b75, rv b75, .val .null, .val .null, .val .null, rv b242, iv 1, iv 1, .unset, .unset] X269 hx hZ241 ho241 E260_ (w99_ hw) (w100_ hw) (notFace_of_selects (args := #[]) (mvT hZ241 (w102_ hw))) (w102_ hw) (w101_ hw) (w3_ hw) (w103_ hw) (rm11 l Z a0 hw  b32 T241.heap n0 O253 F266_) pd8 hml.symm (hb hby at_323) e269q rfl rfl rfl rfl (by decide)
   obtain ⟨rfl, N270q, e270q⟩ := hQ270
   have N270 := Fr.app N269 N270q
   refine own_lvW X270 Bd.notSynchronized hS241 hk241 (v := (some (.int 1))) (fun h => by rw [Bd.returns] at h; cases h) e270q hh ⟨rfl, N270⟩ (R251.trans (CHv.at X270 hZ241 hEL CR241.1)) (lE rfl) (lE rfl) (fun fs hr => pr212 _ (by
    show Sx p e below T121 m 99 #[iv p1, iv p2, iv p3, iv p4, rv b1, rv b18, rv b32, rv b89, iv (p4 &&& (3 : Int32)), .unset, .unset, .unset, .unset, .unset, .unset, .unset, .unset, .unset, .unset, .unset] [.int 1, (.int (p4 &&& (3 : Int32)))] _
    refine zn X121 Bd at_99 (XT.ii_ne_f (hc213 : (p4 &&& (3 : Int32)) = (1 : Int32))) ?_
    refine za X121 Bd at_102 rfl rfl ?_
    refine XS.astore X121.here hx rfl (hb hby at_104) rfl rfl (l' := #[iv p1, iv p2, iv p3, iv p4, rv b1, rv b18, rv b32, rv b89, iv (p4 &&& (3 : Int32)), rv b32, .unset, .unset, .unset, .unset, .unset, .unset, .unset, .unset, .unset, .unset]) rfl ?_
    refine zg (pc' := 136) X121 Bd at_106 rfl ?_
    refine za X121 Bd at_136 rfl rfl ?_
    refine st214 _ ?_
    refine XS.astore X214.here hx rfl (hb hby at_141) rfl rfl (l' := #[iv p1, iv p2, iv p3, iv p4, rv b1, rv b18, rv b32, rv b89, iv (p4 &&& (3 : Int32)), rv b32, rv b75, .unset, .unset, .unset, .unset, .unset, .unset, .unset, .unset, .unset]) rfl ?_
    refine za X214 Bd at_143 rfl rfl ?_
    refine st225 _ ?_
    refine XS.astore X225.here hx rfl (hb hby at_148) rfl rfl (l' := #[iv p1, iv p2, iv p3, iv p4, rv b1, rv b18, rv b32, rv b89, iv (p4 &&& (3 : Int32)), rv b32, rv b75, rv b75, .unset, .unset, .unset, .unset, .unset, .unset, .unset, .unset]) rfl ?_
    refine za X225 Bd at_150 rfl rfl ?_
    refine st226 _ ?_
    refine XS.astore X226.here hx rfl (hb hby at_155) rfl rfl (l' := #[iv p1, iv p2, iv p3, iv p4, rv b1, rv b18, rv b32, rv b89, iv (p4 &&& (3 : Int32)), rv b32, rv b75, rv b75, .val .null, .unset, .unset, .unset, .unset, .unset, .unset, .unset]) rfl ?_
    refine za X226 Bd at_157 rfl rfl ?_
    refine st231 _ ?_
    refine XS.astore X231.here hx rfl (hb hby at_162) rfl rfl (l' := #[iv p1, iv p2, iv p3, iv p4, rv b1, rv b18, rv b32, rv b89, iv (p4 &&& (3 : Int32)), rv b32, rv b75, rv b75, .val .null, .val .null, .unset, .unset, .unset, .unset, .unset, .unset]) rfl ?_
    refine za X231 Bd at_164 rfl rfl ?_
    refine st236 _ ?_
    refine XS.astore X236.here hx rfl (hb hby at_169) rfl rfl (l' := #[iv p1, iv p2, iv p3, iv p4, rv b1, rv b18, rv b32, rv b89, iv (p4 &&& (3 : Int32)), rv b32, rv b75, rv b75, .val .null, .val .null, .val .null, .unset, .unset, .unset, .unset, .unset]) rfl ?_
    refine za X236 Bd at_171 rfl rfl ?_
    refine za X236 Bd at_173 rfl rfl ?_
    refine st241.trans ?_
    refine XS.astore X241.here hx rfl (hb hby at_178) rfl rfl (l' := #[iv p1, iv p2, iv p3, iv p4, rv b1, rv b18, rv b32, rv b89, iv (p4 &&& (3 : Int32)), rv b32, rv b75, rv b75, .val .null, .val .null, .val .null, rv b242, .unset, .unset, .unset, .unset]) rfl ?_
    refine za X241 Bd at_180 rfl rfl ?_
    refine XS.ifnullNo X241.here hx rfl (hb hby at_182) rfl ?_
    show Sx p e below T241 m 185 #[iv p1, iv p2, iv p3, iv p4, rv b1, rv b18, rv b32, rv b89, iv (p4 &&& (3 : Int32)), rv b32, rv b75, rv b75, .val .null, .val .null, .val .null, rv b242, .unset, .unset, .unset, .unset] [] _
    refine za X241 Bd at_185 rfl rfl ?_
    refine za X241 Bd at_187 rfl rfl ?_
    refine Jvm.RoadKit.acmp (g := (mkF m 189 #[iv p1, iv p2, iv p3, iv p4, rv b1, rv b18, rv b32, rv b89, iv (p4 &&& (3 : Int32)), rv b32, rv b75, rv b75, .val .null, .val .null, .val .null, rv b242, .unset, .unset, .unset, .unset] [.ref b32, .ref b242])) X241 hx rfl rfl rfl (pc0 := 189) (pc' := 192) (same := false) rfl (hb hby at_189) rfl (decide_eq_false fun q => (Ne.symm (Nat.ne_of_lt (Nat.lt_of_lt_of_le (Nat.lt_of_lt_of_le A32.lt (Nat.le_trans (Nat.le_trans (Nat.le_trans (Nat.le_trans (Nat.le_trans (Nat.le_trans E40.1 K46q.1) K63q.1) E89.1) E97.1) K103q.1) K121q.1)) w243))) (Value.ref.inj q)) (by decide) (by decide) ?_
    refine za X241 Bd at_192 rfl rfl ?_
    refine za X241 Bd at_194 rfl rfl ?_
    refine Jvm.RoadKit.acmp (g := (mkF m 196 #[iv p1, iv p2, iv p3, iv p4, rv b1, rv b18, rv b32, rv b89, iv (p4 &&& (3 : Int32)), rv b32, rv b75, rv b75, .val .null, .val .null, .val .null, rv b242, .unset, .unset, .unset, .unset] [.ref b32, .ref b242])) X241 hx rfl rfl rfl (pc0 := 196) (pc' := 199) (same := false) rfl (hb hby at_196) rfl (decide_eq_false fun q => (Ne.symm (Nat.ne_of_lt (Nat.lt_of_lt_of_le (Nat.lt_of_lt_of_le A32.lt (Nat.le_trans (Nat.le_trans (Nat.le_trans (Nat.le_trans (Nat.le_trans (Nat.le_trans E40.1 K46q.1) K63q.1) E89.1) E97.1) K103q.1) K121q.1)) w243))) (Value.ref.inj q)) (by decide) (by decide) ?_
    refine za X241 Bd at_199 rfl rfl ?_
    refine st252 _ ?_
    refine XS.ifnonnullNo X252.here hx rfl (hb hby at_204) rfl ?_
    refine za X252 Bd at_207 rfl rfl ?_
    refine st254 _ ?_
    refine za X254 Bd at_212 rfl rfl ?_
    refine Jvm.RoadKit.acmp (g := (mkF m 214 #[iv p1, iv p2, iv p3, iv p4, rv b1, rv b18, rv b32, rv b89, iv (p4 &&& (3 : Int32)), rv b32, rv b75, rv b75, .val .null, .val .null, .val .null, rv b242, .unset, .unset, .unset, .unset] [.ref b32, .ref b32])) X254 hx rfl rfl rfl (pc0 := 214) (pc' := 217) (same := true) rfl (hb hby at_214) rfl (decide_eq_true rfl) (by decide) (by decide) ?_
    refine za X254 Bd at_217 rfl rfl ?_
    refine st255 _ ?_
    refine st256 _ ?_
    refine Jvm.RoadKit.acmp (g := (mkF m 225 #[iv p1, iv p2, iv p3, iv p4, rv b1, rv b18, rv b32, rv b89, iv (p4 &&& (3 : Int32)), rv b32, rv b75, rv b75, .val .null, .val .null, .val .null, rv b242, .unset, .unset, .unset, .unset] [.ref Gg1, .ref Gg1])) X256 hx rfl rfl rfl (pc0 := 225) (pc' := 228) (same := true) rfl (hb hby at_225) rfl (decide_eq_true rfl) (by decide) (by decide) ?_
    refine za X256 Bd at_228 rfl rfl ?_
    refine st257 _ ?_
    refine za X257 Bd at_233 rfl rfl ?_
    refine Jvm.RoadKit.acmp (g := (mkF m 235 #[iv p1, iv p2, iv p3, iv p4, rv b1, rv b18, rv b32, rv b89, iv (p4 &&& (3 : Int32)), rv b32, rv b75, rv b75, .val .null, .val .null, .val .null, rv b242, .unset, .unset, .unset, .unset] [.ref b32, .ref b32])) X257 hx rfl rfl rfl (pc0 := 235) (pc' := 238) (same := true) rfl (hb hby at_235) rfl (decide_eq_true rfl) (by decide) (by decide) ?_
    refine zc X257 Bd at_238 ?_
    refine zg (pc' := 243) X257 Bd at_239 rfl ?_
    refine zs X257 Bd at_243 (l' := #[iv p1, iv p2, iv p3, iv p4, rv b1, rv b18, rv b32, rv b89, iv (p4 &&& (3 : Int32)), rv b32, rv b75, rv b75, .val .null, .val .null, .val .null, rv b242, iv 1, .unset, .unset, .unset]) rfl ?_
    refine za X257 Bd at_245 rfl rfl ?_
    show Sx p e below T257 m 247 #[iv p1, iv p2, iv p3, iv p4, rv b1, rv b18, rv b32, rv b89, iv (p4 &&& (3 : Int32)), rv b32, rv b75, rv b75, .val .null, .val .null, .val .null, rv b242, iv 1, .unset, .unset, .unset] [.ref b75] _
    refine XS.ifnullNo X257.here hx rfl (hb hby at_247) rfl ?_
    refine za X257 Bd at_250 rfl rfl ?_
    refine st258 _ ?_
    refine za X258 Bd at_255 rfl rfl ?_
    refine Jvm.RoadKit.acmp (g := (mkF m 257 #[iv p1, iv p2, iv p3, iv p4, rv b1, rv b18, rv b32, rv b89, iv (p4 &&& (3 : Int32)), rv b32, rv b75, rv b75, .val .null, .val .null, .val .null, rv b242, iv 1, .unset, .unset, .unset] [.ref b75, .ref b75])) X258 hx rfl rfl rfl (pc0 := 257) (pc' := 260) (same := true) rfl (hb hby at_257) rfl (decide_eq_true rfl) (by decide) (by decide) ?_
    refine za X258 Bd at_260 rfl rfl ?_
    refine st261 _ ?_
    refine XS.ifnonnullNo X261.here hx rfl (hb hby at_265) rfl ?_
    refine za X261 Bd at_268 rfl rfl ?_
    refine st263 _ ?_
    refine XS.ifnonnullNo X263.here hx rfl (hb hby at_273) rfl ?_
    refine za X263 Bd at_276 rfl rfl ?_
    refine st265 _ ?_
    refine XS.ifnonnullNo X265.here hx rfl (hb hby at_281) rfl ?_
    refine zc X265 Bd at_284 ?_
    refine zg (pc' := 289) X265 Bd at_285 rfl ?_
    refine zs X265 Bd at_289 (l' := #[iv p1, iv p2, iv p3, iv p4, rv b1, rv b18, rv b32, rv b89, iv (p4 &&& (3 : Int32)), rv b32, rv b75, rv b75, .val .null, .val .null, .val .null, rv b242, iv 1, iv 1, .unset, .unset]) rfl ?_
    refine za X265 Bd at_291 rfl rfl ?_
    refine st267 _ ?_
    refine za X267 Bd at_296 rfl rfl ?_
    refine Jvm.RoadKit.acmp (g := (mkF m 298 #[iv p1, iv p2, iv p3, iv p4, rv b1, rv b18, rv b32, rv b89, iv (p4 &&& (3 : Int32)), rv b32, rv b75, rv b75, .val .null, .val .null, .val .null, rv b242, iv 1, iv 1, .unset, .unset] [.ref b75, .ref b75])) X267 hx rfl rfl rfl (pc0 := 298) (pc' := 301) (same := true) rfl (hb hby at_298) rfl (decide_eq_true rfl) (by decide) (by decide) ?_
    refine za X267 Bd at_301 rfl rfl ?_
    refine st268 _ ?_
    refine za X268 Bd at_306 rfl rfl ?_
    refine Jvm.RoadKit.acmp (g := (mkF m 308 #[iv p1, iv p2, iv p3, iv p4, rv b1, rv b18, rv b32, rv b89, iv (p4 &&& (3 : Int32)), rv b32, rv b75, rv b75, .val .null, .val .null, .val .null, rv b242, iv 1, iv 1, .unset, .unset] [.null, .null])) X268 hx rfl rfl rfl (pc0 := 308) (pc' := 311) (same := true) rfl (hb hby at_308) rfl (decide_eq_true rfl) (by decide) (by decide) ?_
    show Sx p e below T268 m 311 #[iv p1, iv p2, iv p3, iv p4, rv b1, rv b18, rv b32, rv b89, iv (p4 &&& (3 : Int32)), rv b32, rv b75, rv b75, .val .null, .val .null, .val .null, rv b242, iv 1, iv 1, .unset, .unset] [] _
    refine za X268 Bd at_311 rfl rfl ?_
    refine st269 _ ?_
    refine za X269 Bd at_316 rfl rfl ?_
    refine Jvm.RoadKit.acmp (g := (mkF m 318 #[iv p1, iv p2, iv p3, iv p4, rv b1, rv b18, rv b32, rv b89, iv (p4 &&& (3 : Int32)), rv b32, rv b75, rv b75, .val .null, .val .null, .val .null, rv b242, iv 1, iv 1, .unset, .unset] [.null, .null])) X269 hx rfl rfl rfl (pc0 := 318) (pc' := 321) (same := true) rfl (hb hby at_318) rfl (decide_eq_true rfl) (by decide) (by decide) ?_
    refine za X269 Bd at_321 rfl rfl ?_
    refine st270 _ ?_
    refine za X270 Bd at_326 rfl rfl ?_
    refine Jvm.RoadKit.acmp (g := (mkF m 328 #[iv p1, iv p2, iv p3, iv p4, rv b1, rv b18, rv b32, rv b89, iv (p4 &&& (3 : Int32)), rv b32, rv b75, rv b75, .val .null, .val .null, .val .null, rv b242, iv 1, iv 1, .unset, .unset] [.null, .null])) X270 hx rfl rfl rfl (pc0 := 328) (pc' := 331) (same := true) rfl (hb hby at_328) rfl (decide_eq_true rfl) (by decide) (by decide) ?_
    refine zc X270 Bd at_331 ?_
    refine zg (pc' := 336) X270 Bd at_332 rfl ?_
    refine zs X270 Bd at_336 (l' := #[iv p1, iv p2, iv p3, iv p4, rv b1, rv b18, rv b32, rv b89, iv (p4 &&& (3 : Int32)), rv b32, rv b75, rv b75, .val .null, .val .null, .val .null, rv b242, iv 1, iv 1, iv 1, .unset]) rfl ?_
    refine zi X270 Bd at_338 rfl ?_
    refine zp (pc' := 373) X270 Bd at_340 (XT.i0_ne_t (hc148 : ¬ ((p4 &&& (3 : Int32)) = (0 : Int32)))) rfl ?_
    refine zi X270 Bd at_373 rfl ?_
    refine zc X270 Bd at_375 ?_
    refine zn X270 Bd at_376 (XT.ii_ne_f (hc213 : (p4 &&& (3 : Int32)) = (1 : Int32))) ?_
    refine zc X270 Bd at_379 ?_
    refine zs X270 Bd at_380 (l' := #[iv p1, iv p2, iv p3, iv p4, rv b1, rv b18, rv b32, rv b89, iv (p4 &&& (3 : Int32)), rv b32, rv b75, rv b75, .val .null, .val .null, .val .null, rv b242, iv 1, iv 1, iv 1, iv 1]) rfl ?_
    refine zg (pc' := 462) X270 Bd at_382 rfl ?_
    refine zi X270 Bd at_462 rfl ?_
    refine zo X270 Bd at_464 (XT.i0_eq_f ((by decide) : ¬ ((1 : Int32) = (0 : Int32)))) ?_
    refine zi X270 Bd at_467 rfl ?_
    refine zo X270 Bd at_469 (XT.i0_eq_f ((by decide) : ¬ ((1 : Int32) = (0 : Int32)))) ?_
    refine zi X270 Bd at_472 rfl ?_
    refine zo X270 Bd at_474 (XT.i0_eq_f ((by decide) : ¬ ((1 : Int32) = (0 : Int32)))) ?_
    show Sx p e below T270 m 477 #[iv p1, iv p2, iv p3, iv p4, rv b1, rv b18, rv b32, rv b89, iv (p4 &&& (3 : Int32)), rv b32, rv b75, rv b75, .val .null, .val .null, .val .null, rv b242, iv 1, iv 1, iv 1, iv 1] [] _
    refine zi X270 Bd at_477 rfl ?_
    refine zo X270 Bd at_479 (XT.i0_eq_f ((by decide) : ¬ ((1 : Int32) = (0 : Int32)))) ?_
    refine zc X270 Bd at_482 ?_
    refine zg (pc' := 487) X270 Bd at_483 rfl ?_
    exact retN X270 hx (t := .boolean) Bd.returns (by simp) (hb hby at_487) hr))
  ·
   skip
   have pr271 : Pr p e below T121 m 112 #[iv p1, iv p2, iv p3, iv p4, rv b1, rv b18, rv b32, rv b89, iv (p4 &&& (3 : Int32)), .unset, .unset, .unset, .unset, .unset, .unset, .unset, .unset, .unset, .unset, .unset] [.int 2, (.int (p4 &&& (3 : Int32)))] s₁ en := fun t k => pr212 t (by
    show Sx p e below T121 m 99 #[iv p1, iv p2, iv p3, iv p4, rv b1, rv b18, rv b32, rv b89, iv (p4 &&& (3 : Int32)), .unset, .unset, .unset, .unset, .unset, .unset, .unset, .unset, .unset, .unset, .unset] [.int 1, (.int (p4 &&& (3 : Int32)))] _
    refine zy (pc' := 109) X121 Bd at_99 (XT.ii_ne_t (hc213 : ¬ ((p4 &&& (3 : Int32)) = (1 : Int32)))) rfl ?_
    refine zi X121 Bd at_109 rfl ?_
    refine zc X121 Bd at_111 ?_
    exact k)
   by_cases hc272 : (p4 &&& (3 : Int32)) = (2 : Int32)
   ·
    skip
    have E274_ := E65_.keep K63q
    have E275_ := E274_.ext E89
    have E276_ := E275_.ext E97
    have E277_ := E276_.keep K103q
    have E278_ := E277_.keep K121q
    have O279 := O120.keep K121q (allS g_b89 all0)
    have E280_ := E123_.keep K121q
    obtain ⟨cq273, kq273, q273a, q273b, q273c⟩ := isOf hZ121 rfl E280_
    obtain ⟨_, T273, L273, X273, hQ273, hS273, hZ273, ho273, CR273, st273⟩ := own_cbS 18 172 3 32 21 204 (X121.virtualBackS hx (y := Y12_) (z := Y12_) ho121 (mvT hZ121 (w120_ hw)) (mvT hZ121 (w121_ hw)) (notFace_of_selects (args := #[]) (mvT hZ121 (w123_ hw))) (mvT hZ121 (w123_ hw)) (mvT hZ121 (w122_ hw)) (by decide) (backOfSH (W := 0) (EL := ([] : List (String × Nat))) (s := s) (rm21 l Z a0 hw Gg0 Gg1 Gg2 b89 b32 T121.heap n0 O279 hEN E278_) hZ121 (w124_ hw) (w3_ hw) (lE rfl) (lE rfl) hEL CR121.1) q273a q273c (g := (mkF m 119 #[iv p1, iv p2, iv p3, iv p4, rv b1, rv b18, rv b32, rv b89, iv (p4 &&& (3 : Int32)), .unset, .unset, .unset, .unset, .unset, .unset, .unset, .unset, .unset, .unset, .unset] [.ref b32, .ref b89])) rfl hml.symm (Steps.refl _) (argsL := [.ref b32]) (rest := []) (lenOf pd11 rfl) rfl (own_hw rfl) (hb hby at_119) (fun _ _ => ⟨rfl, rfl, (lE rfl : 18 + 3 ≤ _), (lE rfl : 172 + 32 ≤ _)⟩)) rfl rfl hS121 hk121 hZ121 ho121
    obtain ⟨b281, rfl, N273q, K273q, w282, w283, w284, w285, w286, w287⟩ := hQ273
    have N273 := Fr.app N121 N273q
    have hk273 : T273.heap.size ≤ T273.heap.size := Nat.le_refl _
    have K288 := K144.trans K273q (fun x q => nomatch q)
    have R290 := R146.trans CR273
    have F292_ := w78.ext E89
    have F293_ := F292_.ext E97
    have F294_ := F293_.keep K103q (ninS (Nat.ne_of_lt (Nat.lt_of_lt_of_le (Nat.lt_of_lt_of_le A32.lt (Nat.le_trans (Nat.le_trans (Nat.le_trans E40.1 K46q.1) K63q.1) E89.1)) (Nat.le_of_eq g97.symm))) nin0)
    have F295_ := F294_.keep K121q (ninS (Nat.ne_of_lt (Nat.lt_of_lt_of_le (Nat.lt_of_lt_of_le A32.lt (Nat.le_trans (Nat.le_trans E40.1 K46q.1) K63q.1)) (Nat.le_of_eq g89.symm))) nin0)
    have F296_ := F295_.keep K273q nin0
    have O297 := O279.keep K273q all0
    have E298_ := E278_.keep K273q
    obtain ⟨_, T291, L291, X291, hQ291, st291⟩ := own_cV 21 204 [] 138 #[iv p1, iv p2, iv p3, iv p4, rv b1, rv b18, rv b32, rv b89, iv (p4 &&& (3 : Int32)), rv b281, .unset, .unset, .unset, .unset, .unset, .unset, .unset, .unset, .unset, .unset] X273 hx hZ273 ho273 E298_ (w84_ hw) (w85_ hw) (notFace_of_selects (args := #[]) (mvT hZ273 (w87_ hw))) (w87_ hw) (w86_ hw) (w3_ hw) (w88_ hw) (rm8 l Z a0 hw  b32 b75 T273.heap n0 O297 F296_) pd7 hml.symm (hb hby at_138) rfl rfl rfl rfl rfl (by decide)
    obtain ⟨rfl, N291q, e291q⟩ := hQ291
    have N291 := Fr.app N273 N291q
    obtain ⟨_, T299, L299, X299, hQ299, st299⟩ := own_cV 21 204 [] 145 #[iv p1, iv p2, iv p3, iv p4, rv b1, rv b18, rv b32, rv b89, iv (p4 &&& (3 : Int32)), rv b281, rv b75, .unset, .unset, .unset, .unset, .unset, .unset, .unset, .unset, .unset] X291 hx hZ273 ho273 w283 (w84_ hw) (w85_ hw) (notFace_of_selects (args := #[]) (mvT hZ273 (w87_ hw))) (w87_ hw) (w86_ hw) (w3_ hw) (w88_ hw) (rm14 l Z a0 hw  b281 T273.heap n0 O297 w284) pd7 hml.symm (hb hby at_145) e291q rfl rfl rfl rfl (by decide)
    obtain ⟨rfl, N299q, e299q⟩ := hQ299
    have N299 := Fr.app N291 N299q
    obtain ⟨_, T300, L300, X300, hQ300, st300⟩ := own_cV 21 204 [] 152 #[iv p1, iv p2, iv p3, iv p4, rv b1, rv b18, rv b32, rv b89, iv (p4 &&& (3 : Int32)), rv b281, rv b75, .val .null, .unset, .unset, .unset, .unset, .unset, .unset, .unset, .unset] X299 hx hZ273 ho273 w283 (w89_ hw) (w90_ hw) (notFace_of_selects (args := #[]) (mvT hZ273 (w92_ hw))) (w92_ hw) (w91_ hw) (w3_ hw) (w93_ hw) (rm15 l Z a0 hw  b281 b89 T273.heap n0 O297 w285) pd8 hml.symm (hb hby at_152) e299q rfl rfl rfl rfl (by decide)
    obtain ⟨rfl, N300q, e300q⟩ := hQ300
    have N300 := Fr.app N299 N300q
    obtain ⟨_, T301, L301, X301, hQ301, st301⟩ := own_cV 21 204 [] 159 #[iv p1, iv p2, iv p3, iv p4, rv b1, rv b18, rv b32, rv b89, iv (p4 &&& (3 : Int32)), rv b281, rv b75, .val .null, rv b89, .unset, .unset, .unset, .unset, .unset, .unset, .unset] X300 hx hZ273 ho273 w283 (w94_ hw) (w95_ hw) (notFace_of_selects (args := #[]) (mvT hZ273 (w97_ hw))) (w97_ hw) (w96_ hw) (w3_ hw) (w98_ hw) (rm22 l Z a0 hw Gg0 Gg1 Gg2 b281 T273.heap n0 O297 hEN w286) pd9 hml.symm (hb hby at_159) e300q rfl rfl rfl rfl (by decide)
    obtain ⟨rfl, N301q, e301q⟩ := hQ301
    have N301 := Fr.app N300 N301q
    obtain ⟨_, T302, L302, X302, hQ302, st302⟩ := own_cV 21 204 [] 166 #[iv p1, iv p2, iv p3, iv p4, rv b1, rv b18, rv b32, rv b89, iv (p4 &&& (3 : Int32)), rv b281, rv b75, .val .null, rv b89, rv Gg2, .unset, .unset, .unset, .unset, .unset, .unset] X301 hx hZ273 ho273 w283 (w99_ hw) (w100_ hw) (notFace_of_selects (args := #[]) (mvT hZ273 (w102_ hw))) (w102_ hw) (w101_ hw) (w3_ hw) (w103_ hw) (rm17 l Z a0 hw  b281 b32 T273.heap n0 O297 w287) pd8 hml.symm (hb hby at_166) e301q rfl rfl rfl rfl (by decide)
    obtain ⟨rfl, N302q, e302q⟩ := hQ302
    have N302 := Fr.app N301 N302q
    obtain ⟨cq303, kq303, q303a, q303b, q303c⟩ := isOf hZ273 e302q E298_
    obtain ⟨_, T303, L303, X303, hQ303, hS303, hZ303, ho303, CR303, st303⟩ := own_cbS 21 204 3 32 24 236 (X302.virtualBackS hx (y := Y11_) (z := Y11_) ho273 (mvT hZ273 (w104_ hw)) (mvT hZ273 (w105_ hw)) (notFace_of_selects (args := #[]) (mvT hZ273 (w107_ hw))) (mvT hZ273 (w107_ hw)) (mvT hZ273 (w106_ hw)) (by decide) (backOfSH (W := 0) (EL := ([] : List (String × Nat))) (s := s) (rm13 l Z a0 hw Gg0 Gg1 Gg2 b32 b281 T273.heap n0 O297 hEN w283) hZ273 (w108_ hw) (w3_ hw) (lE rfl) (lE rfl) hEL CR273.1) q303a q303c (g := (mkF m 175 #[iv p1, iv p2, iv p3, iv p4, rv b1, rv b18, rv b32, rv b89, iv (p4 &&& (3 : Int32)), rv b281, rv b75, .val .null, rv b89, rv Gg2, rv b32, .unset, .unset, .unset, .unset, .unset] [.ref b281, .ref b32])) rfl hml.symm (Steps.refl _) (argsL := [.ref b281]) (rest := []) (lenOf pd11 rfl) rfl (own_hw rfl) (hb hby at_175) (fun _ _ => ⟨rfl, e302q, (lE rfl : 21 + 3 ≤ _), (lE rfl : 204 + 32 ≤ _)⟩)) rfl rfl hS273 (by rw [e302q]; exact hk273) hZ273 ho273
    obtain ⟨b304, rfl, N303q, K303q, w305, w306, w307, w308, w309, w310⟩ := hQ303
    have N303 := Fr.app N302 N303q
    have hk303 : T303.heap.size ≤ T303.heap.size := Nat.le_refl _
    have K311 := K288.trans K303q (fun x q => nomatch q)
    have R313 := R290.trans CR303
    have O315 := O297.keep K303q all0
    obtain ⟨_, T314, L314, X314, hQ314, st314⟩ := own_cV 24 236 [] 201 #[iv p1, iv p2, iv p3, iv p4, rv b1, rv b18, rv b32, rv b89, iv (p4 &&& (3 : Int32)), rv b281, rv b75, .val .null, rv b89, rv Gg2, rv b32, rv b304, .unset, .unset, .unset, .unset] X303 hx hZ303 ho303 w306 (w84_ hw) (w85_ hw) (notFace_of_selects (args := #[]) (mvT hZ303 (w87_ hw))) (w87_ hw) (w86_ hw) (w3_ hw) (w88_ hw) (rm14 l Z a0 hw  b304 T303.heap n0 O315 w307) pd7 hml.symm (hb hby at_201) rfl rfl rfl rfl rfl (by decide)
    obtain ⟨rfl, N314q, e314q⟩ := hQ314
    have N314 := Fr.app N303 N314q
    obtain ⟨_, T316, L316, X316, hQ316, st316⟩ := own_cV 24 236 [] 209 #[iv p1, iv p2, iv p3, iv p4, rv b1, rv b18, rv b32, rv b89, iv (p4 &&& (3 : Int32)), rv b281, rv b75, .val .null, rv b89, rv Gg2, rv b32, rv b304, .unset, .unset, .unset, .unset] X314 hx hZ303 ho303 w306 (w89_ hw) (w90_ hw) (notFace_of_selects (args := #[]) (mvT hZ303 (w92_ hw))) (w92_ hw) (w91_ hw) (w3_ hw) (w93_ hw) (rm15 l Z a0 hw  b304 b32 T303.heap n0 O315 w308) pd8 hml.symm (hb hby at_209) e314q rfl rfl rfl rfl (by decide)
    obtain ⟨rfl, N316q, e316q⟩ := hQ316
    have N316 := Fr.app N314 N316q
    obtain ⟨_, T317, L317, X317, hQ317, st317⟩ := own_cV 24 236 [] 219 #[iv p1, iv p2, iv p3, iv p4, rv b1, rv b18, rv b32, rv b89, iv (p4 &&& (3 : Int32)), rv b281, rv b75, .val .null, rv b89, rv Gg2, rv b32, rv b304, .unset, .unset, .unset, .unset] X316 hx hZ303 ho303 w306 (w94_ hw) (w95_ hw) (notFace_of_selects (args := #[]) (mvT hZ303 (w97_ hw))) (w97_ hw) (w96_ hw) (w3_ hw) (w98_ hw) (rm16 l Z a0 hw Gg0 Gg1 Gg2 b304 T303.heap n0 O315 hEN w309) pd9 hml.symm (hb hby at_219) e316q rfl rfl rfl rfl (by decide)
    obtain ⟨rfl, N317q, e317q⟩ := hQ317
    have N317 := Fr.app N316 N317q
    obtain ⟨T318, X318, e318, st318⟩ := getS2 X317 hx hZ303 ho303 (host := "") (Or.inl (w119_ hw)) Via.refl e317q (hEN.2.2.1.ext O315.2) (g := (mkF m 222 #[iv p1, iv p2, iv p3, iv p4, rv b1, rv b18, rv b32, rv b89, iv (p4 &&& (3 : Int32)), rv b281, rv b75, .val .null, rv b89, rv Gg2, rv b32, rv b304, .unset, .unset, .unset, .unset] [.ref Gg1])) rfl (hb hby at_222)
    obtain ⟨_, T319, L319, X319, hQ319, st319⟩ := own_cV 24 236 [] 230 #[iv p1, iv p2, iv p3, iv p4, rv b1, rv b18, rv b32, rv b89, iv (p4 &&& (3 : Int32)), rv b281, rv b75, .val .null, rv b89, rv Gg2, rv b32, rv b304, .unset, .unset, .unset, .unset] X318 hx hZ303 ho303 w306 (w99_ hw) (w100_ hw) (notFace_of_selects (args := #[]) (mvT hZ303 (w102_ hw))) (w102_ hw) (w101_ hw) (w3_ hw) (w103_ hw) (rm17 l Z a0 hw  b304 b281 T303.heap n0 O315 w310) pd8 hml.symm (hb hby at_230) e318 rfl rfl rfl rfl (by decide)
    obtain ⟨rfl, N319q, e319q⟩ := hQ319
    have N319 := Fr.app N317 N319q
    have F321_ := F296_.keep K303q nin0
    have E322_ := E298_.keep K303q
    obtain ⟨_, T320, L320, X320, hQ320, st320⟩ := own_cV 24 236 [] 252 #[iv p1, iv p2, iv p3, iv p4, rv b1, rv b18, rv b32, rv b89, iv (p4 &&& (3 : Int32)), rv b281, rv b75, .val .null, rv b89, rv Gg2, rv b32, rv b304, iv 1, .unset, .unset, .unset] X319 hx hZ303 ho303 E322_ (w84_ hw) (w85_ hw) (notFace_of_selects (args := #[]) (mvT hZ303 (w87_ hw))) (w87_ hw) (w86_ hw) (w3_ hw) (w88_ hw) (rm8 l Z a0 hw  b32 b75 T303.heap n0 O315 F321_) pd7 hml.symm (hb hby at_252) e319q rfl rfl rfl rfl (by decide)
    obtain ⟨rfl, N320q, e320q⟩ := hQ320
    have N320 := Fr.app N319 N320q
    have F324_ := w79.ext E89
    have F325_ := F324_.ext E97
    have F326_ := F325_.keep K103q (ninS (Nat.ne_of_lt (Nat.lt_of_lt_of_le (Nat.lt_of_lt_of_le A32.lt (Nat.le_trans (Nat.le_trans (Nat.le_trans E40.1 K46q.1) K63q.1) E89.1)) (Nat.le_of_eq g97.symm))) nin0)
    have F327_ := F326_.keep K121q (ninS (Nat.ne_of_lt (Nat.lt_of_lt_of_le (Nat.lt_of_lt_of_le A32.lt (Nat.le_trans (Nat.le_trans E40.1 K46q.1) K63q.1)) (Nat.le_of_eq g89.symm))) nin0)
    have F328_ := F327_.keep K273q nin0
    have F329_ := F328_.keep K303q nin0
    obtain ⟨_, T323, L323, X323, hQ323, st323⟩ := own_cV 24 236 [] 262 #[iv p1, iv p2, iv p3, iv p4, rv b1, rv b18, rv b32, rv b89, iv (p4 &&& (3 : Int32)), rv b281, rv b75, .val .null, rv b89, rv Gg2, rv b32, rv b304, iv 1, .unset, .unset, .unset] X320 hx hZ303 ho303 E322_ (w89_ hw) (w90_ hw) (notFace_of_selects (args := #[]) (mvT hZ303 (w92_ hw))) (w92_ hw) (w91_ hw) (w3_ hw) (w93_ hw) (rm9 l Z a0 hw  b32 T303.heap n0 O315 F329_) pd8 hml.symm (hb hby at_262) e320q rfl rfl rfl rfl (by decide)
    obtain ⟨rfl, N323q, e323q⟩ := hQ323
    have N323 := Fr.app N320 N323q
    have F331_ := w80.ext E89
    have F332_ := F331_.ext E97
    have F333_ := F332_.keep K103q (ninS (Nat.ne_of_lt (Nat.lt_of_lt_of_le (Nat.lt_of_lt_of_le A32.lt (Nat.le_trans (Nat.le_trans (Nat.le_trans E40.1 K46q.1) K63q.1) E89.1)) (Nat.le_of_eq g97.symm))) nin0)
    have F334_ := F333_.keep K121q (ninS (Nat.ne_of_lt (Nat.lt_of_lt_of_le (Nat.lt_of_lt_of_le A32.lt (Nat.le_trans (Nat.le_trans E40.1 K46q.1) K63q.1)) (Nat.le_of_eq g89.symm))) nin0)
    have F335_ := F334_.keep K273q nin0
    have F336_ := F335_.keep K303q nin0
    obtain ⟨_, T330, L330, X330, hQ330, st330⟩ := own_cV 24 236 [] 270 #[iv p1, iv p2, iv p3, iv p4, rv b1, rv b18, rv b32, rv b89, iv (p4 &&& (3 : Int32)), rv b281, rv b75, .val .null, rv b89, rv Gg2, rv b32, rv b304, iv 1, .unset, .unset, .unset] X323 hx hZ303 ho303 E322_ (w94_ hw) (w95_ hw) (notFace_of_selects (args := #[]) (mvT hZ303 (w97_ hw))) (w97_ hw) (w96_ hw) (w3_ hw) (w98_ hw) (rm10 l Z a0 hw  b32 T303.heap n0 O315 F336_) pd9 hml.symm (hb hby at_270) e323q rfl rfl rfl rfl (by decide)
    obtain ⟨rfl, N330q, e330q⟩ := hQ330
    have N330 := Fr.app N323 N330q
    have F338_ := w81.ext E89
    have F339_ := F338_.ext E97
    have F340_ := F339_.keep K103q (ninS (Nat.ne_of_lt (Nat.lt_of_lt_of_le (Nat.lt_of_lt_of_le A32.lt (Nat.le_trans (Nat.le_trans (Nat.le_trans E40.1 K46q.1) K63q.1) E89.1)) (Nat.le_of_eq g97.symm))) nin0)
    have F341_ := F340_.keep K121q (ninS (Nat.ne_of_lt (Nat.lt_of_lt_of_le (Nat.lt_of_lt_of_le A32.lt (Nat.le_trans (Nat.le_trans E40.1 K46q.1) K63q.1)) (Nat.le_of_eq g89.symm))) nin0)
    have F342_ := F341_.keep K273q nin0
    have F343_ := F342_.keep K303q nin0
    obtain ⟨_, T337, L337, X337, hQ337, st337⟩ := own_cV 24 236 [] 278 #[iv p1, iv p2, iv p3, iv p4, rv b1, rv b18, rv b32, rv b89, iv (p4 &&& (3 : Int32)), rv b281, rv b75, .val .null, rv b89, rv Gg2, rv b32, rv b304, iv 1, .unset, .unset, .unset] X330 hx hZ303 ho303 E322_ (w99_ hw) (w100_ hw) (notFace_of_selects (args := #[]) (mvT hZ303 (w102_ hw))) (w102_ hw) (w101_ hw) (w3_ hw) (w103_ hw) (rm11 l Z a0 hw  b32 T303.heap n0 O315 F343_) pd8 hml.symm (hb hby at_278) e330q rfl rfl rfl rfl (by decide)
    obtain ⟨rfl, N337q, e337q⟩ := hQ337
    have N337 := Fr.app N330 N337q
    have F345_ := w284.keep K303q nin0
    have E346_ := w283.keep K303q
    obtain ⟨_, T344, L344, X344, hQ344, st344⟩ := own_cV 24 236 [] 293 #[iv p1, iv p2, iv p3, iv p4, rv b1, rv b18, rv b32, rv b89, iv (p4 &&& (3 : Int32)), rv b281, rv b75, .val .null, rv b89, rv Gg2, rv b32, rv b304, iv 1, iv 1, .unset, .unset] X337 hx hZ303 ho303 E346_ (w84_ hw) (w85_ hw) (notFace_of_selects (args := #[]) (mvT hZ303 (w87_ hw))) (w87_ hw) (w86_ hw) (w3_ hw) (w88_ hw) (rm14 l Z a0 hw  b281 T303.heap n0 O315 F345_) pd7 hml.symm (hb hby at_293) e337q rfl rfl rfl rfl (by decide)
    obtain ⟨rfl, N344q, e344q⟩ := hQ344
    have N344 := Fr.app N337 N344q
    have F348_ := w285.keep K303q nin0
    obtain ⟨_, T347, L347, X347, hQ347, st347⟩ := own_cV 24 236 [] 303 #[iv p1, iv p2, iv p3, iv p4, rv b1, rv b18, rv b32, rv b89, iv (p4 &&& (3 : Int32)), rv b281, rv b75, .val .null, rv b89, rv Gg2, rv b32, rv b304, iv 1, iv 1, .unset, .unset] X344 hx hZ303 ho303 E346_ (w89_ hw) (w90_ hw) (notFace_of_selects (args := #[]) (mvT hZ303 (w92_ hw))) (w92_ hw) (w91_ hw) (w3_ hw) (w93_ hw) (rm15 l Z a0 hw  b281 b89 T303.heap n0 O315 F348_) pd8 hml.symm (hb hby at_303) e344q rfl rfl rfl rfl (by decide)
    obtain ⟨rfl, N347q, e347q⟩ := hQ347
    have N347 := Fr.app N344 N347q
    have F350_ := w286.keep K303q nin0
    obtain ⟨_, T349, L349, X349, hQ349, st349⟩ := own_cV 24 236 [] 313 #[iv p1, iv p2, iv p3, iv p4, rv b1, rv b18, rv b32, rv b89, iv (p4 &&& (3 : Int32)), rv b281, rv b75, .val .null, rv b89, rv Gg2, rv b32, rv b304, iv 1, iv 1, .unset, .unset] X347 hx hZ303 ho303 E346_ (w94_ hw) (w95_ hw) (notFace_of_selects (args := #[]) (mvT hZ303 (w97_ hw))) (w97_ hw) (w96_ hw) (w3_ hw) (w98_ hw) (rm22 l Z a0 hw Gg0 Gg1 Gg2 b281 T303.heap n0 O315 hEN F350_) pd9 hml.symm (hb hby at_313) e347q rfl rfl rfl rfl (by decide)
    obtain ⟨rfl, N349q, e349q⟩ := hQ349
    have N349 := Fr.app N347 N349q
    have F352_ := w287.keep K303q nin0
    obtain ⟨_, T351, L351, X351, hQ351, st351⟩ := own_cV 24 236 [] 323 #[iv p1, iv p2, iv p3, iv p4, rv b1, rv b18, rv b32, rv b89, iv (p4 &&& (3 : Int32)), rv b281, rv b75, .val .null, rv b89, rv Gg2, rv b32, rv b304, iv 1, iv 1, .unset, .unset] X349 hx hZ303 ho303 E346_ (w99_ hw) (w100_ hw) (notFace_of_selects (args := #[]) (mvT hZ303 (w102_ hw))) (w102_ hw) (w101_ hw) (w3_ hw) (w103_ hw) (rm17 l Z a0 hw  b281 b32 T303.heap n0 O315 F352_) pd8 hml.symm (hb hby at_323) e349q rfl rfl rfl rfl (by decide)
    obtain ⟨rfl, N351q, e351q⟩ := hQ351
    have N351 := Fr.app N349 N351q
    obtain ⟨T353, X353, e353, st353⟩ := getS2 X351 hx hZ303 ho303 (host := "") (Or.inl (w127_ hw)) Via.refl e351q (hEN.2.2.2.2.1.ext O315.2) (g := (mkF m 405 #[iv p1, iv p2, iv p3, iv p4, rv b1, rv b18, rv b32, rv b89, iv (p4 &&& (3 : Int32)), rv b281, rv b75, .val .null, rv b89, rv Gg2, rv b32, rv b304, iv 1, iv 1, iv 1, .unset] [.ref Gg2])) rfl (hb hby at_405)
    refine own_lvW X353 Bd.notSynchronized hS303 hk303 (v := (some (.int 1))) (fun h => by rw [Bd.returns] at h; cases h) e353 hh ⟨rfl, N351⟩ (R313.trans (CHv.at X353 hZ303 hEL CR303.1)) (lE rfl) (lE rfl) (fun fs hr => pr271 _ (by
     show Sx p e below T121 m 112 #[iv p1, iv p2, iv p3, iv p4, rv b1, rv b18, rv b32, rv b89, iv (p4 &&& (3 : Int32)), .unset, .unset, .unset, .unset, .unset, .unset, .unset, .unset, .unset, .unset, .unset] [.int 2, (.int (p4 &&& (3 : Int32)))] _
     refine zn X121 Bd at_112 (XT.ii_ne_f (hc272 : (p4 &&& (3 : Int32)) = (2 : Int32))) ?_
     refine za X121 Bd at_115 rfl rfl ?_
     refine za X121 Bd at_117 rfl rfl ?_
     refine st273.trans ?_
     refine XS.astore X273.here hx rfl (hb hby at_122) rfl rfl (l' := #[iv p1, iv p2, iv p3, iv p4, rv b1, rv b18, rv b32, rv b89, iv (p4 &&& (3 : Int32)), rv b281, .unset, .unset, .unset, .unset, .unset, .unset, .unset, .unset, .unset, .unset]) rfl ?_
     refine zg (pc' := 136) X273 Bd at_124 rfl ?_
     refine za X273 Bd at_136 rfl rfl ?_
     refine st291 _ ?_
     refine XS.astore X291.here hx rfl (hb hby at_141) rfl rfl (l' := #[iv p1, iv p2, iv p3, iv p4, rv b1, rv b18, rv b32, rv b89, iv (p4 &&& (3 : Int32)), rv b281, rv b75, .unset, .unset, .unset, .unset, .unset, .unset, .unset, .unset, .unset]) rfl ?_
     refine za X291 Bd at_143 rfl rfl ?_
     refine st299 _ ?_
     refine XS.astore X299.here hx rfl (hb hby at_148) rfl rfl (l' := #[iv p1, iv p2, iv p3, iv p4, rv b1, rv b18, rv b32, rv b89, iv (p4 &&& (3 : Int32)), rv b281, rv b75, .val .null, .unset, .unset, .unset, .unset, .unset, .unset, .unset, .unset]) rfl ?_
     refine za X299 Bd at_150 rfl rfl ?_
     refine st300 _ ?_
     refine XS.astore X300.here hx rfl (hb hby at_155) rfl rfl (l' := #[iv p1, iv p2, iv p3, iv p4, rv b1, rv b18, rv b32, rv b89, iv (p4 &&& (3 : Int32)), rv b281, rv b75, .val .null, rv b89, .unset, .unset, .unset, .unset, .unset, .unset, .unset]) rfl ?_
     refine za X300 Bd at_157 rfl rfl ?_
     refine st301 _ ?_
     refine XS.astore X301.here hx rfl (hb hby at_162) rfl rfl (l' := #[iv p1, iv p2, iv p3, iv p4, rv b1, rv b18, rv b32, rv b89, iv (p4 &&& (3 : Int32)), rv b281, rv b75, .val .null, rv b89, rv Gg2, .unset, .unset, .unset, .unset, .unset, .unset]) rfl ?_
     refine za X301 Bd at_164 rfl rfl ?_
     refine st302 _ ?_
     refine XS.astore X302.here hx rfl (hb hby at_169) rfl rfl (l' := #[iv p1, iv p2, iv p3, iv p4, rv b1, rv b18, rv b32, rv b89, iv (p4 &&& (3 : Int32)), rv b281, rv b75, .val .null, rv b89, rv Gg2, rv b32, .unset, .unset, .unset, .unset, .unset]) rfl ?_
     refine za X302 Bd at_171 rfl rfl ?_
     refine za X302 Bd at_173 rfl rfl ?_
     refine st303.trans ?_
     refine XS.astore X303.here hx rfl (hb hby at_178) rfl rfl (l' := #[iv p1, iv p2, iv p3, iv p4, rv b1, rv b18, rv b32, rv b89, iv (p4 &&& (3 : Int32)), rv b281, rv b75, .val .null, rv b89, rv Gg2, rv b32, rv b304, .unset, .unset, .unset, .unset]) rfl ?_
     show Sx p e below T303 m 180 #[iv p1, iv p2, iv p3, iv p4, rv b1, rv b18, rv b32, rv b89, iv (p4 &&& (3 : Int32)), rv b281, rv b75, .val .null, rv b89, rv Gg2, rv b32, rv b304, .unset, .unset, .unset, .unset] [] _
     refine za X303 Bd at_180 rfl rfl ?_
     refine XS.ifnullNo X303.here hx rfl (hb hby at_182) rfl ?_
     refine za X303 Bd at_185 rfl rfl ?_
     refine za X303 Bd at_187 rfl rfl ?_
     refine Jvm.RoadKit.acmp (g := (mkF m 189 #[iv p1, iv p2, iv p3, iv p4, rv b1, rv b18, rv b32, rv b89, iv (p4 &&& (3 : Int32)), rv b281, rv b75, .val .null, rv b89, rv Gg2, rv b32, rv b304, .unset, .unset, .unset, .unset] [.ref b32, .ref b304])) X303 hx rfl rfl rfl (pc0 := 189) (pc' := 192) (same := false) rfl (hb hby at_189) rfl (decide_eq_false fun q => (Ne.symm (Nat.ne_of_lt (Nat.lt_of_lt_of_le (Nat.lt_of_lt_of_le A32.lt (Nat.le_trans (Nat.le_trans (Nat.le_trans (Nat.le_trans (Nat.le_trans (Nat.le_trans (Nat.le_trans E40.1 K46q.1) K63q.1) E89.1) E97.1) K103q.1) K121q.1) K273q.1)) w305))) (Value.ref.inj q)) (by decide) (by decide) ?_
     refine za X303 Bd at_192 rfl rfl ?_
     refine za X303 Bd at_194 rfl rfl ?_
     refine Jvm.RoadKit.acmp (g := (mkF m 196 #[iv p1, iv p2, iv p3, iv p4, rv b1, rv b18, rv b32, rv b89, iv (p4 &&& (3 : Int32)), rv b281, rv b75, .val .null, rv b89, rv Gg2, rv b32, rv b304, .unset, .unset, .unset, .unset] [.ref b281, .ref b304])) X303 hx rfl rfl rfl (pc0 := 196) (pc' := 199) (same := false) rfl (hb hby at_196) rfl (decide_eq_false fun q => (Ne.symm (Nat.ne_of_lt (Nat.lt_of_lt_of_le w283.lt w305))) (Value.ref.inj q)) (by decide) (by decide) ?_
     refine za X303 Bd at_199 rfl rfl ?_
     refine st314 _ ?_
     refine XS.ifnonnullNo X314.here hx rfl (hb hby at_204) rfl ?_
     refine za X314 Bd at_207 rfl rfl ?_
     refine st316 _ ?_
     refine za X316 Bd at_212 rfl rfl ?_
     refine Jvm.RoadKit.acmp (g := (mkF m 214 #[iv p1, iv p2, iv p3, iv p4, rv b1, rv b18, rv b32, rv b89, iv (p4 &&& (3 : Int32)), rv b281, rv b75, .val .null, rv b89, rv Gg2, rv b32, rv b304, .unset, .unset, .unset, .unset] [.ref b32, .ref b32])) X316 hx rfl rfl rfl (pc0 := 214) (pc' := 217) (same := true) rfl (hb hby at_214) rfl (decide_eq_true rfl) (by decide) (by decide) ?_
     refine za X316 Bd at_217 rfl rfl ?_
     refine st317 _ ?_
     refine st318 _ ?_
     refine Jvm.RoadKit.acmp (g := (mkF m 225 #[iv p1, iv p2, iv p3, iv p4, rv b1, rv b18, rv b32, rv b89, iv (p4 &&& (3 : Int32)), rv b281, rv b75, .val .null, rv b89, rv Gg2, rv b32, rv b304, .unset, .unset, .unset, .unset] [.ref Gg1, .ref Gg1])) X318 hx rfl rfl rfl (pc0 := 225) (pc' := 228) (same := true) rfl (hb hby at_225) rfl (decide_eq_true rfl) (by decide) (by decide) ?_
     refine za X318 Bd at_228 rfl rfl ?_
     refine st319 _ ?_
     refine za X319 Bd at_233 rfl rfl ?_
     refine Jvm.RoadKit.acmp (g := (mkF m 235 #[iv p1, iv p2, iv p3, iv p4, rv b1, rv b18, rv b32, rv b89, iv (p4 &&& (3 : Int32)), rv b281, rv b75, .val .null, rv b89, rv Gg2, rv b32, rv b304, .unset, .unset, .unset, .unset] [.ref b281, .ref b281])) X319 hx rfl rfl rfl (pc0 := 235) (pc' := 238) (same := true) rfl (hb hby at_235) rfl (decide_eq_true rfl) (by decide) (by decide) ?_
     refine zc X319 Bd at_238 ?_
     refine zg (pc' := 243) X319 Bd at_239 rfl ?_
     show Sx p e below T319 m 243 #[iv p1, iv p2, iv p3, iv p4, rv b1, rv b18, rv b32, rv b89, iv (p4 &&& (3 : Int32)), rv b281, rv b75, .val .null, rv b89, rv Gg2, rv b32, rv b304, .unset, .unset, .unset, .unset] [.int 1] _
     refine zs X319 Bd at_243 (l' := #[iv p1, iv p2, iv p3, iv p4, rv b1, rv b18, rv b32, rv b89, iv (p4 &&& (3 : Int32)), rv b281, rv b75, .val .null, rv b89, rv Gg2, rv b32, rv b304, iv 1, .unset, .unset, .unset]) rfl ?_
     refine za X319 Bd at_245 rfl rfl ?_
     refine XS.ifnullNo X319.here hx rfl (hb hby at_247) rfl ?_
     refine za X319 Bd at_250 rfl rfl ?_
     refine st320 _ ?_
     refine za X320 Bd at_255 rfl rfl ?_
     refine Jvm.RoadKit.acmp (g := (mkF m 257 #[iv p1, iv p2, iv p3, iv p4, rv b1, rv b18, rv b32, rv b89, iv (p4 &&& (3 : Int32)), rv b281, rv b75, .val .null, rv b89, rv Gg2, rv b32, rv b304, iv 1, .unset, .unset, .unset] [.ref b75, .ref b75])) X320 hx rfl rfl rfl (pc0 := 257) (pc' := 260) (same := true) rfl (hb hby at_257) rfl (decide_eq_true rfl) (by decide) (by decide) ?_
     refine za X320 Bd at_260 rfl rfl ?_
     refine st323 _ ?_
     refine XS.ifnonnullNo X323.here hx rfl (hb hby at_265) rfl ?_
     refine za X323 Bd at_268 rfl rfl ?_
     refine st330 _ ?_
     refine XS.ifnonnullNo X330.here hx rfl (hb hby at_273) rfl ?_
     refine za X330 Bd at_276 rfl rfl ?_
     refine st337 _ ?_
     refine XS.ifnonnullNo X337.here hx rfl (hb hby at_281) rfl ?_
     refine zc X337 Bd at_284 ?_
     refine zg (pc' := 289) X337 Bd at_285 rfl ?_
     refine zs X337 Bd at_289 (l' := #[iv p1, iv p2, iv p3, iv p4, rv b1, rv b18, rv b32, rv b89, iv (p4 &&& (3 : Int32)), rv b281, rv b75, .val .null, rv b89, rv Gg2, rv b32, rv b304, iv 1, iv 1, .unset, .unset]) rfl ?_
     refine za X337 Bd at_291 rfl rfl ?_
     refine st344 _ ?_
     refine za X344 Bd at_296 rfl rfl ?_
     refine Jvm.RoadKit.acmp (g := (mkF m 298 #[iv p1, iv p2, iv p3, iv p4, rv b1, rv b18, rv b32, rv b89, iv (p4 &&& (3 : Int32)), rv b281, rv b75, .val .null, rv b89, rv Gg2, rv b32, rv b304, iv 1, iv 1, .unset, .unset] [.null, .null])) X344 hx rfl rfl rfl (pc0 := 298) (pc' := 301) (same := true) rfl (hb hby at_298) rfl (decide_eq_true rfl) (by decide) (by decide) ?_
     refine za X344 Bd at_301 rfl rfl ?_
     refine st347 _ ?_
     show Sx p e below T347 m 306 #[iv p1, iv p2, iv p3, iv p4, rv b1, rv b18, rv b32, rv b89, iv (p4 &&& (3 : Int32)), rv b281, rv b75, .val .null, rv b89, rv Gg2, rv b32, rv b304, iv 1, iv 1, .unset, .unset] [.ref b89] _
     refine za X347 Bd at_306 rfl rfl ?_
     refine Jvm.RoadKit.acmp (g := (mkF m 308 #[iv p1, iv p2, iv p3, iv p4, rv b1, rv b18, rv b32, rv b89, iv (p4 &&& (3 : Int32)), rv b281, rv b75, .val .null, rv b89, rv Gg2, rv b32, rv b304, iv 1, iv 1, .unset, .unset] [.ref b89, .ref b89])) X347 hx rfl rfl rfl (pc0 := 308) (pc' := 311) (same := true) rfl (hb hby at_308) rfl (decide_eq_true rfl) (by decide) (by decide) ?_
     refine za X347 Bd at_311 rfl rfl ?_
     refine st349 _ ?_
     refine za X349 Bd at_316 rfl rfl ?_
     refine Jvm.RoadKit.acmp (g := (mkF m 318 #[iv p1, iv p2, iv p3, iv p4, rv b1, rv b18, rv b32, rv b89, iv (p4 &&& (3 : Int32)), rv b281, rv b75, .val .null, rv b89, rv Gg2, rv b32, rv b304, iv 1, iv 1, .unset, .unset] [.ref Gg2, .ref Gg2])) X349 hx rfl rfl rfl (pc0 := 318) (pc' := 321) (same := true) rfl (hb hby at_318) rfl (decide_eq_true rfl) (by decide) (by decide) ?_
     refine za X349 Bd at_321 rfl rfl ?_
     refine st351 _ ?_
     refine za X351 Bd at_326 rfl rfl ?_
     refine Jvm.RoadKit.acmp (g := (mkF m 328 #[iv p1, iv p2, iv p3, iv p4, rv b1, rv b18, rv b32, rv b89, iv (p4 &&& (3 : Int32)), rv b281, rv b75, .val .null, rv b89, rv Gg2, rv b32, rv b304, iv 1, iv 1, .unset, .unset] [.ref b32, .ref b32])) X351 hx rfl rfl rfl (pc0 := 328) (pc' := 331) (same := true) rfl (hb hby at_328) rfl (decide_eq_true rfl) (by decide) (by decide) ?_
     refine zc X351 Bd at_331 ?_
     refine zg (pc' := 336) X351 Bd at_332 rfl ?_
     refine zs X351 Bd at_336 (l' := #[iv p1, iv p2, iv p3, iv p4, rv b1, rv b18, rv b32, rv b89, iv (p4 &&& (3 : Int32)), rv b281, rv b75, .val .null, rv b89, rv Gg2, rv b32, rv b304, iv 1, iv 1, iv 1, .unset]) rfl ?_
     refine zi X351 Bd at_338 rfl ?_
     refine zp (pc' := 373) X351 Bd at_340 (XT.i0_ne_t (hc148 : ¬ ((p4 &&& (3 : Int32)) = (0 : Int32)))) rfl ?_
     refine zi X351 Bd at_373 rfl ?_
     refine zc X351 Bd at_375 ?_
     refine zy (pc' := 385) X351 Bd at_376 (XT.ii_ne_t (hc213 : ¬ ((p4 &&& (3 : Int32)) = (1 : Int32)))) rfl ?_
     refine zi X351 Bd at_385 rfl ?_
     refine zc X351 Bd at_387 ?_
     refine zn X351 Bd at_388 (XT.ii_ne_f (hc272 : (p4 &&& (3 : Int32)) = (2 : Int32))) ?_
     refine za X351 Bd at_391 rfl rfl ?_
     refine XS.ifnonnullNo X351.here hx rfl (hb hby at_393) rfl ?_
     refine za X351 Bd at_396 rfl rfl ?_
     refine za X351 Bd at_398 rfl rfl ?_
     show Sx p e below T351 m 400 #[iv p1, iv p2, iv p3, iv p4, rv b1, rv b18, rv b32, rv b89, iv (p4 &&& (3 : Int32)), rv b281, rv b75, .val .null, rv b89, rv Gg2, rv b32, rv b304, iv 1, iv 1, iv 1, .unset] [.ref b89, .ref b89] _
     refine Jvm.RoadKit.acmp (g := (mkF m 400 #[iv p1, iv p2, iv p3, iv p4, rv b1, rv b18, rv b32, rv b89, iv (p4 &&& (3 : Int32)), rv b281, rv b75, .val .null, rv b89, rv Gg2, rv b32, rv b304, iv 1, iv 1, iv 1, .unset] [.ref b89, .ref b89])) X351 hx rfl rfl rfl (pc0 := 400) (pc' := 403) (same := true) rfl (hb hby at_400) rfl (decide_eq_true rfl) (by decide) (by decide) ?_
     refine za X351 Bd at_403 rfl rfl ?_
     refine st353 _ ?_
     refine Jvm.RoadKit.acmp (g := (mkF m 408 #[iv p1, iv p2, iv p3, iv p4, rv b1, rv b18, rv b32, rv b89, iv (p4 &&& (3 : Int32)), rv b281, rv b75, .val .null, rv b89, rv Gg2, rv b32, rv b304, iv 1, iv 1, iv 1, .unset] [.ref Gg2, .ref Gg2])) X353 hx rfl rfl rfl (pc0 := 408) (pc' := 411) (same := true) rfl (hb hby at_408) rfl (decide_eq_true rfl) (by decide) (by decide) ?_
     refine za X353 Bd at_411 rfl rfl ?_
     refine za X353 Bd at_413 rfl rfl ?_
     refine Jvm.RoadKit.acmp (g := (mkF m 415 #[iv p1, iv p2, iv p3, iv p4, rv b1, rv b18, rv b32, rv b89, iv (p4 &&& (3 : Int32)), rv b281, rv b75, .val .null, rv b89, rv Gg2, rv b32, rv b304, iv 1, iv 1, iv 1, .unset] [.ref b32, .ref b32])) X353 hx rfl rfl rfl (pc0 := 415) (pc' := 418) (same := true) rfl (hb hby at_415) rfl (decide_eq_true rfl) (by decide) (by decide) ?_
     refine zc X353 Bd at_418 ?_
     refine zg (pc' := 423) X353 Bd at_419 rfl ?_
     refine zs X353 Bd at_423 (l' := #[iv p1, iv p2, iv p3, iv p4, rv b1, rv b18, rv b32, rv b89, iv (p4 &&& (3 : Int32)), rv b281, rv b75, .val .null, rv b89, rv Gg2, rv b32, rv b304, iv 1, iv 1, iv 1, iv 1]) rfl ?_
     refine zg (pc' := 462) X353 Bd at_425 rfl ?_
     refine zi X353 Bd at_462 rfl ?_
     refine zo X353 Bd at_464 (XT.i0_eq_f ((by decide) : ¬ ((1 : Int32) = (0 : Int32)))) ?_
     refine zi X353 Bd at_467 rfl ?_
     refine zo X353 Bd at_469 (XT.i0_eq_f ((by decide) : ¬ ((1 : Int32) = (0 : Int32)))) ?_
     refine zi X353 Bd at_472 rfl ?_
     refine zo X353 Bd at_474 (XT.i0_eq_f ((by decide) : ¬ ((1 : Int32) = (0 : Int32)))) ?_
     refine zi X353 Bd at_477 rfl ?_
     refine zo X353 Bd at_479 (XT.i0_eq_f ((by decide) : ¬ ((1 : Int32) = (0 : Int32)))) ?_
     refine zc X353 Bd at_482 ?_
     refine zg (pc' := 487) X353 Bd at_483 rfl ?_
     exact retN X353 hx (t := .boolean) Bd.returns (by simp) (hb hby at_487) hr))
   ·
    skip
    have E355_ := E123_.keep K121q
    have O356 := O120.keep K121q (allS g_b89 all0)
    obtain ⟨cq354, kq354, q354a, q354b, q354c⟩ := isOf hZ121 rfl E355_
    obtain ⟨_, T354, L354, X354, hQ354, hS354, hZ354, ho354, CR354, st354⟩ := own_cbS 18 172 3 32 21 204 (X121.virtualBackS hx (y := Y11_) (z := Y11_) ho121 (mvT hZ121 (w104_ hw)) (mvT hZ121 (w105_ hw)) (notFace_of_selects (args := #[]) (mvT hZ121 (w107_ hw))) (mvT hZ121 (w107_ hw)) (mvT hZ121 (w106_ hw)) (by decide) (backOfSH (W := 0) (EL := ([] : List (String × Nat))) (s := s) (rm19 l Z a0 hw Gg0 Gg1 Gg2 b89 T121.heap n0 O356 hEN E355_) hZ121 (w108_ hw) (w3_ hw) (lE rfl) (lE rfl) hEL CR121.1) q354a q354c (g := (mkF m 131 #[iv p1, iv p2, iv p3, iv p4, rv b1, rv b18, rv b32, rv b89, iv (p4 &&& (3 : Int32)), .unset, .unset, .unset, .unset, .unset, .unset, .unset, .unset, .unset, .unset, .unset] [.ref b89, .ref b89])) rfl hml.symm (Steps.refl _) (argsL := [.ref b89]) (rest := []) (lenOf pd11 rfl) rfl (own_hw rfl) (hb hby at_131) (fun _ _ => ⟨rfl, rfl, (lE rfl : 18 + 3 ≤ _), (lE rfl : 172 + 32 ≤ _)⟩)) rfl rfl hS121 hk121 hZ121 ho121
    obtain ⟨b357, rfl, N354q, K354q, w358, w359, w360, w361, w362, w363⟩ := hQ354
    have N354 := Fr.app N121 N354q
    have hk354 : T354.heap.size ≤ T354.heap.size := Nat.le_refl _
    have K364 := K144.trans K354q (fun x q => nomatch q)
    have R366 := R146.trans CR354
    have F368_ := w78.ext E89
    have F369_ := F368_.ext E97
    have F370_ := F369_.keep K103q (ninS (Nat.ne_of_lt (Nat.lt_of_lt_of_le (Nat.lt_of_lt_of_le A32.lt (Nat.le_trans (Nat.le_trans (Nat.le_trans E40.1 K46q.1) K63q.1) E89.1)) (Nat.le_of_eq g97.symm))) nin0)
    have F371_ := F370_.keep K121q (ninS (Nat.ne_of_lt (Nat.lt_of_lt_of_le (Nat.lt_of_lt_of_le A32.lt (Nat.le_trans (Nat.le_trans E40.1 K46q.1) K63q.1)) (Nat.le_of_eq g89.symm))) nin0)
    have F372_ := F371_.keep K354q nin0
    have O373 := O356.keep K354q all0
    have E374_ := E65_.keep K63q
    have E375_ := E374_.ext E89
    have E376_ := E375_.ext E97
    have E377_ := E376_.keep K103q
    have E378_ := E377_.keep K121q
    have E379_ := E378_.keep K354q
    obtain ⟨_, T367, L367, X367, hQ367, st367⟩ := own_cV 21 204 [] 138 #[iv p1, iv p2, iv p3, iv p4, rv b1, rv b18, rv b32, rv b89, iv (p4 &&& (3 : Int32)), rv b357, .unset, .unset, .unset, .unset, .unset, .unset, .unset, .unset, .unset, .unset] X354 hx hZ354 ho354 E379_ (w84_ hw) (w85_ hw) (notFace_of_selects (args := #[]) (mvT hZ354 (w87_ hw))) (w87_ hw) (w86_ hw) (w3_ hw) (w88_ hw) (rm8 l Z a0 hw  b32 b75 T354.heap n0 O373 F372_) pd7 hml.symm (hb hby at_138) rfl rfl rfl rfl rfl (by decide)
    obtain ⟨rfl, N367q, e367q⟩ := hQ367
    have N367 := Fr.app N354 N367q
    obtain ⟨_, T380, L380, X380, hQ380, st380⟩ := own_cV 21 204 [] 145 #[iv p1, iv p2, iv p3, iv p4, rv b1, rv b18, rv b32, rv b89, iv (p4 &&& (3 : Int32)), rv b357, rv b75, .unset, .unset, .unset, .unset, .unset, .unset, .unset, .unset, .unset] X367 hx hZ354 ho354 w359 (w84_ hw) (w85_ hw) (notFace_of_selects (args := #[]) (mvT hZ354 (w87_ hw))) (w87_ hw) (w86_ hw) (w3_ hw) (w88_ hw) (rm14 l Z a0 hw  b357 T354.heap n0 O373 w360) pd7 hml.symm (hb hby at_145) e367q rfl rfl rfl rfl (by decide)
    obtain ⟨rfl, N380q, e380q⟩ := hQ380
    have N380 := Fr.app N367 N380q
    obtain ⟨_, T381, L381, X381, hQ381, st381⟩ := own_cV 21 204 [] 152 #[iv p1, iv p2, iv p3, iv p4, rv b1, rv b18, rv b32, rv b89, iv (p4 &&& (3 : Int32)), rv b357, rv b75, .val .null, .unset, .unset, .unset, .unset, .unset, .unset, .unset, .unset] X380 hx hZ354 ho354 w359 (w89_ hw) (w90_ hw) (notFace_of_selects (args := #[]) (mvT hZ354 (w92_ hw))) (w92_ hw) (w91_ hw) (w3_ hw) (w93_ hw) (rm15 l Z a0 hw  b357 b89 T354.heap n0 O373 w361) pd8 hml.symm (hb hby at_152) e380q rfl rfl rfl rfl (by decide)
    obtain ⟨rfl, N381q, e381q⟩ := hQ381
    have N381 := Fr.app N380 N381q
    obtain ⟨_, T382, L382, X382, hQ382, st382⟩ := own_cV 21 204 [] 159 #[iv p1, iv p2, iv p3, iv p4, rv b1, rv b18, rv b32, rv b89, iv (p4 &&& (3 : Int32)), rv b357, rv b75, .val .null, rv b89, .unset, .unset, .unset, .unset, .unset, .unset, .unset] X381 hx hZ354 ho354 w359 (w94_ hw) (w95_ hw) (notFace_of_selects (args := #[]) (mvT hZ354 (w97_ hw))) (w97_ hw) (w96_ hw) (w3_ hw) (w98_ hw) (rm16 l Z a0 hw Gg0 Gg1 Gg2 b357 T354.heap n0 O373 hEN w362) pd9 hml.symm (hb hby at_159) e381q rfl rfl rfl rfl (by decide)
    obtain ⟨rfl, N382q, e382q⟩ := hQ382
    have N382 := Fr.app N381 N382q
    obtain ⟨_, T383, L383, X383, hQ383, st383⟩ := own_cV 21 204 [] 166 #[iv p1, iv p2, iv p3, iv p4, rv b1, rv b18, rv b32, rv b89, iv (p4 &&& (3 : Int32)), rv b357, rv b75, .val .null, rv b89, rv Gg1, .unset, .unset, .unset, .unset, .unset, .unset] X382 hx hZ354 ho354 w359 (w99_ hw) (w100_ hw) (notFace_of_selects (args := #[]) (mvT hZ354 (w102_ hw))) (w102_ hw) (w101_ hw) (w3_ hw) (w103_ hw) (rm17 l Z a0 hw  b357 b89 T354.heap n0 O373 w363) pd8 hml.symm (hb hby at_166) e382q rfl rfl rfl rfl (by decide)
    obtain ⟨rfl, N383q, e383q⟩ := hQ383
    have N383 := Fr.app N382 N383q
    obtain ⟨cq384, kq384, q384a, q384b, q384c⟩ := isOf hZ354 e383q E379_
    obtain ⟨_, T384, L384, X384, hQ384, hS384, hZ384, ho384, CR384, st384⟩ := own_cbS 21 204 3 32 24 236 (X383.virtualBackS hx (y := Y11_) (z := Y11_) ho354 (mvT hZ354 (w104_ hw)) (mvT hZ354 (w105_ hw)) (notFace_of_selects (args := #[]) (mvT hZ354 (w107_ hw))) (mvT hZ354 (w107_ hw)) (mvT hZ354 (w106_ hw)) (by decide) (backOfSH (W := 0) (EL := ([] : List (String × Nat))) (s := s) (rm13 l Z a0 hw Gg0 Gg1 Gg2 b32 b357 T354.heap n0 O373 hEN w359) hZ354 (w108_ hw) (w3_ hw) (lE rfl) (lE rfl) hEL CR354.1) q384a q384c (g := (mkF m 175 #[iv p1, iv p2, iv p3, iv p4, rv b1, rv b18, rv b32, rv b89, iv (p4 &&& (3 : Int32)), rv b357, rv b75, .val .null, rv b89, rv Gg1, rv b89, .unset, .unset, .unset, .unset, .unset] [.ref b357, .ref b32])) rfl hml.symm (Steps.refl _) (argsL := [.ref b357]) (rest := []) (lenOf pd11 rfl) rfl (own_hw rfl) (hb hby at_175) (fun _ _ => ⟨rfl, e383q, (lE rfl : 21 + 3 ≤ _), (lE rfl : 204 + 32 ≤ _)⟩)) rfl rfl hS354 (by rw [e383q]; exact hk354) hZ354 ho354
    obtain ⟨b385, rfl, N384q, K384q, w386, w387, w388, w389, w390, w391⟩ := hQ384
    have N384 := Fr.app N383 N384q
    have hk384 : T384.heap.size ≤ T384.heap.size := Nat.le_refl _
    have K392 := K364.trans K384q (fun x q => nomatch q)
    have R394 := R366.trans CR384
    have O396 := O373.keep K384q all0
    obtain ⟨_, T395, L395, X395, hQ395, st395⟩ := own_cV 24 236 [] 201 #[iv p1, iv p2, iv p3, iv p4, rv b1, rv b18, rv b32, rv b89, iv (p4 &&& (3 : Int32)), rv b357, rv b75, .val .null, rv b89, rv Gg1, rv b89, rv b385, .unset, .unset, .unset, .unset] X384 hx hZ384 ho384 w387 (w84_ hw) (w85_ hw) (notFace_of_selects (args := #[]) (mvT hZ384 (w87_ hw))) (w87_ hw) (w86_ hw) (w3_ hw) (w88_ hw) (rm14 l Z a0 hw  b385 T384.heap n0 O396 w388) pd7 hml.symm (hb hby at_201) rfl rfl rfl rfl rfl (by decide)
    obtain ⟨rfl, N395q, e395q⟩ := hQ395
    have N395 := Fr.app N384 N395q
    obtain ⟨_, T397, L397, X397, hQ397, st397⟩ := own_cV 24 236 [] 209 #[iv p1, iv p2, iv p3, iv p4, rv b1, rv b18, rv b32, rv b89, iv (p4 &&& (3 : Int32)), rv b357, rv b75, .val .null, rv b89, rv Gg1, rv b89, rv b385, .unset, .unset, .unset, .unset] X395 hx hZ384 ho384 w387 (w89_ hw) (w90_ hw) (notFace_of_selects (args := #[]) (mvT hZ384 (w92_ hw))) (w92_ hw) (w91_ hw) (w3_ hw) (w93_ hw) (rm15 l Z a0 hw  b385 b32 T384.heap n0 O396 w389) pd8 hml.symm (hb hby at_209) e395q rfl rfl rfl rfl (by decide)
    obtain ⟨rfl, N397q, e397q⟩ := hQ397
    have N397 := Fr.app N395 N397q
    obtain ⟨_, T398, L398, X398, hQ398, st398⟩ := own_cV 24 236 [] 219 #[iv p1, iv p2, iv p3, iv p4, rv b1, rv b18, rv b32, rv b89, iv (p4 &&& (3 : Int32)), rv b357, rv b75, .val .null, rv b89, rv Gg1, rv b89, rv b385, .unset, .unset, .unset, .unset] X397 hx hZ384 ho384 w387 (w94_ hw) (w95_ hw) (notFace_of_selects (args := #[]) (mvT hZ384 (w97_ hw))) (w97_ hw) (w96_ hw) (w3_ hw) (w98_ hw) (rm16 l Z a0 hw Gg0 Gg1 Gg2 b385 T384.heap n0 O396 hEN w390) pd9 hml.symm (hb hby at_219) e397q rfl rfl rfl rfl (by decide)
    obtain ⟨rfl, N398q, e398q⟩ := hQ398
    have N398 := Fr.app N397 N398q
    obtain ⟨T399, X399, e399, st399⟩ := getS2 X398 hx hZ384 ho384 (host := "") (Or.inl (w119_ hw)) Via.refl e398q (hEN.2.2.1.ext O396.2) (g := (mkF m 222 #[iv p1, iv p2, iv p3, iv p4, rv b1, rv b18, rv b32, rv b89, iv (p4 &&& (3 : Int32)), rv b357, rv b75, .val .null, rv b89, rv Gg1, rv b89, rv b385, .unset, .unset, .unset, .unset] [.ref Gg1])) rfl (hb hby at_222)
    obtain ⟨_, T400, L400, X400, hQ400, st400⟩ := own_cV 24 236 [] 230 #[iv p1, iv p2, iv p3, iv p4, rv b1, rv b18, rv b32, rv b89, iv (p4 &&& (3 : Int32)), rv b357, rv b75, .val .null, rv b89, rv Gg1, rv b89, rv b385, .unset, .unset, .unset, .unset] X399 hx hZ384 ho384 w387 (w99_ hw) (w100_ hw) (notFace_of_selects (args := #[]) (mvT hZ384 (w102_ hw))) (w102_ hw) (w101_ hw) (w3_ hw) (w103_ hw) (rm17 l Z a0 hw  b385 b357 T384.heap n0 O396 w391) pd8 hml.symm (hb hby at_230) e399 rfl rfl rfl rfl (by decide)
    obtain ⟨rfl, N400q, e400q⟩ := hQ400
    have N400 := Fr.app N398 N400q
    have F402_ := F372_.keep K384q nin0
    have E403_ := E379_.keep K384q
    obtain ⟨_, T401, L401, X401, hQ401, st401⟩ := own_cV 24 236 [] 252 #[iv p1, iv p2, iv p3, iv p4, rv b1, rv b18, rv b32, rv b89, iv (p4 &&& (3 : Int32)), rv b357, rv b75, .val .null, rv b89, rv Gg1, rv b89, rv b385, iv 1, .unset, .unset, .unset] X400 hx hZ384 ho384 E403_ (w84_ hw) (w85_ hw) (notFace_of_selects (args := #[]) (mvT hZ384 (w87_ hw))) (w87_ hw) (w86_ hw) (w3_ hw) (w88_ hw) (rm8 l Z a0 hw  b32 b75 T384.heap n0 O396 F402_) pd7 hml.symm (hb hby at_252) e400q rfl rfl rfl rfl (by decide)
    obtain ⟨rfl, N401q, e401q⟩ := hQ401
    have N401 := Fr.app N400 N401q
    have F405_ := w79.ext E89
    have F406_ := F405_.ext E97
    have F407_ := F406_.keep K103q (ninS (Nat.ne_of_lt (Nat.lt_of_lt_of_le (Nat.lt_of_lt_of_le A32.lt (Nat.le_trans (Nat.le_trans (Nat.le_trans E40.1 K46q.1) K63q.1) E89.1)) (Nat.le_of_eq g97.symm))) nin0)
    have F408_ := F407_.keep K121q (ninS (Nat.ne_of_lt (Nat.lt_of_lt_of_le (Nat.lt_of_lt_of_le A32.lt (Nat.le_trans (Nat.le_trans E40.1 K46q.1) K63q.1)) (Nat.le_of_eq g89.symm))) nin0)
    have F409_ := F408_.keep K354q nin0
    have F410_ := F409_.keep K384q nin0
    obtain ⟨_, T404, L404, X404, hQ404, st404⟩ := own_cV 24 236 [] 262 #[iv p1, iv p2, iv p3, iv p4, rv b1, rv b18, rv b32, rv b89, iv (p4 &&& (3 : Int32)), rv b357, rv b75, .val .null, rv b89, rv Gg1, rv b89, rv b385, iv 1, .unset, .unset, .unset] X401 hx hZ384 ho384 E403_ (w89_ hw) (w90_ hw) (notFace_of_selects (args := #[]) (mvT hZ384 (w92_ hw))) (w92_ hw) (w91_ hw) (w3_ hw) (w93_ hw) (rm9 l Z a0 hw  b32 T384.heap n0 O396 F410_) pd8 hml.symm (hb hby at_262) e401q rfl rfl rfl rfl (by decide)
    obtain ⟨rfl, N404q, e404q⟩ := hQ404
    have N404 := Fr.app N401 N404q
    have F412_ := w80.ext E89
    have F413_ := F412_.ext E97
    have F414_ := F413_.keep K103q (ninS (Nat.ne_of_lt (Nat.lt_of_lt_of_le (Nat.lt_of_lt_of_le A32.lt (Nat.le_trans (Nat.le_trans (Nat.le_trans E40.1 K46q.1) K63q.1) E89.1)) (Nat.le_of_eq g97.symm))) nin0)
    have F415_ := F414_.keep K121q (ninS (Nat.ne_of_lt (Nat.lt_of_lt_of_le (Nat.lt_of_lt_of_le A32.lt (Nat.le_trans (Nat.le_trans E40.1 K46q.1) K63q.1)) (Nat.le_of_eq g89.symm))) nin0)
    have F416_ := F415_.keep K354q nin0
    have F417_ := F416_.keep K384q nin0
    obtain ⟨_, T411, L411, X411, hQ411, st411⟩ := own_cV 24 236 [] 270 #[iv p1, iv p2, iv p3, iv p4, rv b1, rv b18, rv b32, rv b89, iv (p4 &&& (3 : Int32)), rv b357, rv b75, .val .null, rv b89, rv Gg1, rv b89, rv b385, iv 1, .unset, .unset, .unset] X404 hx hZ384 ho384 E403_ (w94_ hw) (w95_ hw) (notFace_of_selects (args := #[]) (mvT hZ384 (w97_ hw))) (w97_ hw) (w96_ hw) (w3_ hw) (w98_ hw) (rm10 l Z a0 hw  b32 T384.heap n0 O396 F417_) pd9 hml.symm (hb hby at_270) e404q rfl rfl rfl rfl (by decide)
    obtain ⟨rfl, N411q, e411q⟩ := hQ411
    have N411 := Fr.app N404 N411q
    have F419_ := w81.ext E89
    have F420_ := F419_.ext E97
    have F421_ := F420_.keep K103q (ninS (Nat.ne_of_lt (Nat.lt_of_lt_of_le (Nat.lt_of_lt_of_le A32.lt (Nat.le_trans (Nat.le_trans (Nat.le_trans E40.1 K46q.1) K63q.1) E89.1)) (Nat.le_of_eq g97.symm))) nin0)
    have F422_ := F421_.keep K121q (ninS (Nat.ne_of_lt (Nat.lt_of_lt_of_le (Nat.lt_of_lt_of_le A32.lt (Nat.le_trans (Nat.le_trans E40.1 K46q.1) K63q.1)) (Nat.le_of_eq g89.symm))) nin0)
    have F423_ := F422_.keep K354q nin0
    have F424_ := F423_.keep K384q nin0
    obtain ⟨_, T418, L418, X418, hQ418, st418⟩ := own_cV 24 236 [] 278 #[iv p1, iv p2, iv p3, iv p4, rv b1, rv b18, rv b32, rv b89, iv (p4 &&& (3 : Int32)), rv b357, rv b75, .val .null, rv b89, rv Gg1, rv b89, rv b385, iv 1, .unset, .unset, .unset] X411 hx hZ384 ho384 E403_ (w99_ hw) (w100_ hw) (notFace_of_selects (args := #[]) (mvT hZ384 (w102_ hw))) (w102_ hw) (w101_ hw) (w3_ hw) (w103_ hw) (rm11 l Z a0 hw  b32 T384.heap n0 O396 F424_) pd8 hml.symm (hb hby at_278) e411q rfl rfl rfl rfl (by decide)
    obtain ⟨rfl, N418q, e418q⟩ := hQ418
    have N418 := Fr.app N411 N418q
    have F426_ := w360.keep K384q nin0
    have E427_ := w359.keep K384q
    obtain ⟨_, T425, L425, X425, hQ425, st425⟩ := own_cV 24 236 [] 293 #[iv p1, iv p2, iv p3, iv p4, rv b1, rv b18, rv b32, rv b89, iv (p4 &&& (3 : Int32)), rv b357, rv b75, .val .null, rv b89, rv Gg1, rv b89, rv b385, iv 1, iv 1, .unset, .unset] X418 hx hZ384 ho384 E427_ (w84_ hw) (w85_ hw) (notFace_of_selects (args := #[]) (mvT hZ384 (w87_ hw))) (w87_ hw) (w86_ hw) (w3_ hw) (w88_ hw) (rm14 l Z a0 hw  b357 T384.heap n0 O396 F426_) pd7 hml.symm (hb hby at_293) e418q rfl rfl rfl rfl (by decide)
    obtain ⟨rfl, N425q, e425q⟩ := hQ425
    have N425 := Fr.app N418 N425q
    have F429_ := w361.keep K384q nin0
    obtain ⟨_, T428, L428, X428, hQ428, st428⟩ := own_cV 24 236 [] 303 #[iv p1, iv p2, iv p3, iv p4, rv b1, rv b18, rv b32, rv b89, iv (p4 &&& (3 : Int32)), rv b357, rv b75, .val .null, rv b89, rv Gg1, rv b89, rv b385, iv 1, iv 1, .unset, .unset] X425 hx hZ384 ho384 E427_ (w89_ hw) (w90_ hw) (notFace_of_selects (args := #[]) (mvT hZ384 (w92_ hw))) (w92_ hw) (w91_ hw) (w3_ hw) (w93_ hw) (rm15 l Z a0 hw  b357 b89 T384.heap n0 O396 F429_) pd8 hml.symm (hb hby at_303) e425q rfl rfl rfl rfl (by decide)
    obtain ⟨rfl, N428q, e428q⟩ := hQ428
    have N428 := Fr.app N425 N428q
    have F431_ := w362.keep K384q nin0
    obtain ⟨_, T430, L430, X430, hQ430, st430⟩ := own_cV 24 236 [] 313 #[iv p1, iv p2, iv p3, iv p4, rv b1, rv b18, rv b32, rv b89, iv (p4 &&& (3 : Int32)), rv b357, rv b75, .val .null, rv b89, rv Gg1, rv b89, rv b385, iv 1, iv 1, .unset, .unset] X428 hx hZ384 ho384 E427_ (w94_ hw) (w95_ hw) (notFace_of_selects (args := #[]) (mvT hZ384 (w97_ hw))) (w97_ hw) (w96_ hw) (w3_ hw) (w98_ hw) (rm16 l Z a0 hw Gg0 Gg1 Gg2 b357 T384.heap n0 O396 hEN F431_) pd9 hml.symm (hb hby at_313) e428q rfl rfl rfl rfl (by decide)
    obtain ⟨rfl, N430q, e430q⟩ := hQ430
    have N430 := Fr.app N428 N430q
    have F433_ := w363.keep K384q nin0
    obtain ⟨_, T432, L432, X432, hQ432, st432⟩ := own_cV 24 236 [] 323 #[iv p1, iv p2, iv p3, iv p4, rv b1, rv b18, rv b32, rv b89, iv (p4 &&& (3 : Int32)), rv b357, rv b75, .val .null, rv b89, rv Gg1, rv b89, rv b385, iv 1, iv 1, .unset, .unset] X430 hx hZ384 ho384 E427_ (w99_ hw) (w100_ hw) (notFace_of_selects (args := #[]) (mvT hZ384 (w102_ hw))) (w102_ hw) (w101_ hw) (w3_ hw) (w103_ hw) (rm17 l Z a0 hw  b357 b89 T384.heap n0 O396 F433_) pd8 hml.symm (hb hby at_323) e430q rfl rfl rfl rfl (by decide)
    obtain ⟨rfl, N432q, e432q⟩ := hQ432
    have N432 := Fr.app N430 N432q
    obtain ⟨T434, X434, e434, st434⟩ := getS2 X432 hx hZ384 ho384 (host := "") (Or.inl (w119_ hw)) Via.refl e432q (hEN.2.2.1.ext O396.2) (g := (mkF m 442 #[iv p1, iv p2, iv p3, iv p4, rv b1, rv b18, rv b32, rv b89, iv (p4 &&& (3 : Int32)), rv b357, rv b75, .val .null, rv b89, rv Gg1, rv b89, rv b385, iv 1, iv 1, iv 1, .unset] [.ref Gg1])) rfl (hb hby at_442)
    refine own_lvW X434 Bd.notSynchronized hS384 hk384 (v := (some (.int 1))) (fun h => by rw [Bd.returns] at h; cases h) e434 hh ⟨rfl, N432⟩ (R394.trans (CHv.at X434 hZ384 hEL CR384.1)) (lE rfl) (lE rfl) (fun fs hr => pr271 _ (by
     show Sx p e below T121 m 112 #[iv p1, iv p2, iv p3, iv p4, rv b1, rv b18, rv b32, rv b89, iv (p4 &&& (3 : Int32)), .unset, .unset, .unset, .unset, .unset, .unset, .unset, .unset, .unset, .unset, .unset] [.int 2, (.int (p4 &&& (3 : Int32)))] _
     refine zy (pc' := 127) X121 Bd at_112 (XT.ii_ne_t (hc272 : ¬ ((p4 &&& (3 : Int32)) = (2 : Int32)))) rfl ?_
     refine za X121 Bd at_127 rfl rfl ?_
     refine za X121 Bd at_129 rfl rfl ?_
     refine st354.trans ?_
     refine XS.astore X354.here hx rfl (hb hby at_134) rfl rfl (l' := #[iv p1, iv p2, iv p3, iv p4, rv b1, rv b18, rv b32, rv b89, iv (p4 &&& (3 : Int32)), rv b357, .unset, .unset, .unset, .unset, .unset, .unset, .unset, .unset, .unset, .unset]) rfl ?_
     refine za X354 Bd at_136 rfl rfl ?_
     refine st367 _ ?_
     refine XS.astore X367.here hx rfl (hb hby at_141) rfl rfl (l' := #[iv p1, iv p2, iv p3, iv p4, rv b1, rv b18, rv b32, rv b89, iv (p4 &&& (3 : Int32)), rv b357, rv b75, .unset, .unset, .unset, .unset, .unset, .unset, .unset, .unset, .unset]) rfl ?_
     refine za X367 Bd at_143 rfl rfl ?_
     refine st380 _ ?_
     refine XS.astore X380.here hx rfl (hb hby at_148) rfl rfl (l' := #[iv p1, iv p2, iv p3, iv p4, rv b1, rv b18, rv b32, rv b89, iv (p4 &&& (3 : Int32)), rv b357, rv b75, .val .null, .unset, .unset, .unset, .unset, .unset, .unset, .unset, .unset]) rfl ?_
     refine za X380 Bd at_150 rfl rfl ?_
     refine st381 _ ?_
     refine XS.astore X381.here hx rfl (hb hby at_155) rfl rfl (l' := #[iv p1, iv p2, iv p3, iv p4, rv b1, rv b18, rv b32, rv b89, iv (p4 &&& (3 : Int32)), rv b357, rv b75, .val .null, rv b89, .unset, .unset, .unset, .unset, .unset, .unset, .unset]) rfl ?_
     refine za X381 Bd at_157 rfl rfl ?_
     refine st382 _ ?_
     refine XS.astore X382.here hx rfl (hb hby at_162) rfl rfl (l' := #[iv p1, iv p2, iv p3, iv p4, rv b1, rv b18, rv b32, rv b89, iv (p4 &&& (3 : Int32)), rv b357, rv b75, .val .null, rv b89, rv Gg1, .unset, .unset, .unset, .unset, .unset, .unset]) rfl ?_
     refine za X382 Bd at_164 rfl rfl ?_
     refine st383 _ ?_
     refine XS.astore X383.here hx rfl (hb hby at_169) rfl rfl (l' := #[iv p1, iv p2, iv p3, iv p4, rv b1, rv b18, rv b32, rv b89, iv (p4 &&& (3 : Int32)), rv b357, rv b75, .val .null, rv b89, rv Gg1, rv b89, .unset, .unset, .unset, .unset, .unset]) rfl ?_
     refine za X383 Bd at_171 rfl rfl ?_
     refine za X383 Bd at_173 rfl rfl ?_
     refine st384.trans ?_
     refine XS.astore X384.here hx rfl (hb hby at_178) rfl rfl (l' := #[iv p1, iv p2, iv p3, iv p4, rv b1, rv b18, rv b32, rv b89, iv (p4 &&& (3 : Int32)), rv b357, rv b75, .val .null, rv b89, rv Gg1, rv b89, rv b385, .unset, .unset, .unset, .unset]) rfl ?_
     refine za X384 Bd at_180 rfl rfl ?_
     show Sx p e below T384 m 182 #[iv p1, iv p2, iv p3, iv p4, rv b1, rv b18, rv b32, rv b89, iv (p4 &&& (3 : Int32)), rv b357, rv b75, .val .null, rv b89, rv Gg1, rv b89, rv b385, .unset, .unset, .unset, .unset] [.ref b385] _
     refine XS.ifnullNo X384.here hx rfl (hb hby at_182) rfl ?_
     refine za X384 Bd at_185 rfl rfl ?_
     refine za X384 Bd at_187 rfl rfl ?_
     refine Jvm.RoadKit.acmp (g := (mkF m 189 #[iv p1, iv p2, iv p3, iv p4, rv b1, rv b18, rv b32, rv b89, iv (p4 &&& (3 : Int32)), rv b357, rv b75, .val .null, rv b89, rv Gg1, rv b89, rv b385, .unset, .unset, .unset, .unset] [.ref b32, .ref b385])) X384 hx rfl rfl rfl (pc0 := 189) (pc' := 192) (same := false) rfl (hb hby at_189) rfl (decide_eq_false fun q => (Ne.symm (Nat.ne_of_lt (Nat.lt_of_lt_of_le (Nat.lt_of_lt_of_le A32.lt (Nat.le_trans (Nat.le_trans (Nat.le_trans (Nat.le_trans (Nat.le_trans (Nat.le_trans (Nat.le_trans E40.1 K46q.1) K63q.1) E89.1) E97.1) K103q.1) K121q.1) K354q.1)) w386))) (Value.ref.inj q)) (by decide) (by decide) ?_
     refine za X384 Bd at_192 rfl rfl ?_
     refine za X384 Bd at_194 rfl rfl ?_
     refine Jvm.RoadKit.acmp (g := (mkF m 196 #[iv p1, iv p2, iv p3, iv p4, rv b1, rv b18, rv b32, rv b89, iv (p4 &&& (3 : Int32)), rv b357, rv b75, .val .null, rv b89, rv Gg1, rv b89, rv b385, .unset, .unset, .unset, .unset] [.ref b357, .ref b385])) X384 hx rfl rfl rfl (pc0 := 196) (pc' := 199) (same := false) rfl (hb hby at_196) rfl (decide_eq_false fun q => (Ne.symm (Nat.ne_of_lt (Nat.lt_of_lt_of_le w359.lt w386))) (Value.ref.inj q)) (by decide) (by decide) ?_
     refine za X384 Bd at_199 rfl rfl ?_
     refine st395 _ ?_
     refine XS.ifnonnullNo X395.here hx rfl (hb hby at_204) rfl ?_
     refine za X395 Bd at_207 rfl rfl ?_
     refine st397 _ ?_
     refine za X397 Bd at_212 rfl rfl ?_
     refine Jvm.RoadKit.acmp (g := (mkF m 214 #[iv p1, iv p2, iv p3, iv p4, rv b1, rv b18, rv b32, rv b89, iv (p4 &&& (3 : Int32)), rv b357, rv b75, .val .null, rv b89, rv Gg1, rv b89, rv b385, .unset, .unset, .unset, .unset] [.ref b32, .ref b32])) X397 hx rfl rfl rfl (pc0 := 214) (pc' := 217) (same := true) rfl (hb hby at_214) rfl (decide_eq_true rfl) (by decide) (by decide) ?_
     refine za X397 Bd at_217 rfl rfl ?_
     refine st398 _ ?_
     refine st399 _ ?_
     refine Jvm.RoadKit.acmp (g := (mkF m 225 #[iv p1, iv p2, iv p3, iv p4, rv b1, rv b18, rv b32, rv b89, iv (p4 &&& (3 : Int32)), rv b357, rv b75, .val .null, rv b89, rv Gg1, rv b89, rv b385, .unset, .unset, .unset, .unset] [.ref Gg1, .ref Gg1])) X399 hx rfl rfl rfl (pc0 := 225) (pc' := 228) (same := true) rfl (hb hby at_225) rfl (decide_eq_true rfl) (by decide) (by decide) ?_
     refine za X399 Bd at_228 rfl rfl ?_
     refine st400 _ ?_
     refine za X400 Bd at_233 rfl rfl ?_
     refine Jvm.RoadKit.acmp (g := (mkF m 235 #[iv p1, iv p2, iv p3, iv p4, rv b1, rv b18, rv b32, rv b89, iv (p4 &&& (3 : Int32)), rv b357, rv b75, .val .null, rv b89, rv Gg1, rv b89, rv b385, .unset, .unset, .unset, .unset] [.ref b357, .ref b357])) X400 hx rfl rfl rfl (pc0 := 235) (pc' := 238) (same := true) rfl (hb hby at_235) rfl (decide_eq_true rfl) (by decide) (by decide) ?_
     refine zc X400 Bd at_238 ?_
     refine zg (pc' := 243) X400 Bd at_239 rfl ?_
     refine zs X400 Bd at_243 (l' := #[iv p1, iv p2, iv p3, iv p4, rv b1, rv b18, rv b32, rv b89, iv (p4 &&& (3 : Int32)), rv b357, rv b75, .val .null, rv b89, rv Gg1, rv b89, rv b385, iv 1, .unset, .unset, .unset]) rfl ?_
     show Sx p e below T400 m 245 #[iv p1, iv p2, iv p3, iv p4, rv b1, rv b18, rv b32, rv b89, iv (p4 &&& (3 : Int32)), rv b357, rv b75, .val .null, rv b89, rv Gg1, rv b89, rv b385, iv 1, .unset, .unset, .unset] [] _
     refine za X400 Bd at_245 rfl rfl ?_
     refine XS.ifnullNo X400.here hx rfl (hb hby at_247) rfl ?_
     refine za X400 Bd at_250 rfl rfl ?_
     refine st401 _ ?_
     refine za X401 Bd at_255 rfl rfl ?_
     refine Jvm.RoadKit.acmp (g := (mkF m 257 #[iv p1, iv p2, iv p3, iv p4, rv b1, rv b18, rv b32, rv b89, iv (p4 &&& (3 : Int32)), rv b357, rv b75, .val .null, rv b89, rv Gg1, rv b89, rv b385, iv 1, .unset, .unset, .unset] [.ref b75, .ref b75])) X401 hx rfl rfl rfl (pc0 := 257) (pc' := 260) (same := true) rfl (hb hby at_257) rfl (decide_eq_true rfl) (by decide) (by decide) ?_
     refine za X401 Bd at_260 rfl rfl ?_
     refine st404 _ ?_
     refine XS.ifnonnullNo X404.here hx rfl (hb hby at_265) rfl ?_
     refine za X404 Bd at_268 rfl rfl ?_
     refine st411 _ ?_
     refine XS.ifnonnullNo X411.here hx rfl (hb hby at_273) rfl ?_
     refine za X411 Bd at_276 rfl rfl ?_
     refine st418 _ ?_
     refine XS.ifnonnullNo X418.here hx rfl (hb hby at_281) rfl ?_
     refine zc X418 Bd at_284 ?_
     refine zg (pc' := 289) X418 Bd at_285 rfl ?_
     refine zs X418 Bd at_289 (l' := #[iv p1, iv p2, iv p3, iv p4, rv b1, rv b18, rv b32, rv b89, iv (p4 &&& (3 : Int32)), rv b357, rv b75, .val .null, rv b89, rv Gg1, rv b89, rv b385, iv 1, iv 1, .unset, .unset]) rfl ?_
     refine za X418 Bd at_291 rfl rfl ?_
     refine st425 _ ?_
     refine za X425 Bd at_296 rfl rfl ?_
     refine Jvm.RoadKit.acmp (g := (mkF m 298 #[iv p1, iv p2, iv p3, iv p4, rv b1, rv b18, rv b32, rv b89, iv (p4 &&& (3 : Int32)), rv b357, rv b75, .val .null, rv b89, rv Gg1, rv b89, rv b385, iv 1, iv 1, .unset, .unset] [.null, .null])) X425 hx rfl rfl rfl (pc0 := 298) (pc' := 301) (same := true) rfl (hb hby at_298) rfl (decide_eq_true rfl) (by decide) (by decide) ?_
     refine za X425 Bd at_301 rfl rfl ?_
     refine st428 _ ?_
     refine za X428 Bd at_306 rfl rfl ?_
     show Sx p e below T428 m 308 #[iv p1, iv p2, iv p3, iv p4, rv b1, rv b18, rv b32, rv b89, iv (p4 &&& (3 : Int32)), rv b357, rv b75, .val .null, rv b89, rv Gg1, rv b89, rv b385, iv 1, iv 1, .unset, .unset] [.ref b89, .ref b89] _
     refine Jvm.RoadKit.acmp (g := (mkF m 308 #[iv p1, iv p2, iv p3, iv p4, rv b1, rv b18, rv b32, rv b89, iv (p4 &&& (3 : Int32)), rv b357, rv b75, .val .null, rv b89, rv Gg1, rv b89, rv b385, iv 1, iv 1, .unset, .unset] [.ref b89, .ref b89])) X428 hx rfl rfl rfl (pc0 := 308) (pc' := 311) (same := true) rfl (hb hby at_308) rfl (decide_eq_true rfl) (by decide) (by decide) ?_
     refine za X428 Bd at_311 rfl rfl ?_
     refine st430 _ ?_
     refine za X430 Bd at_316 rfl rfl ?_
     refine Jvm.RoadKit.acmp (g := (mkF m 318 #[iv p1, iv p2, iv p3, iv p4, rv b1, rv b18, rv b32, rv b89, iv (p4 &&& (3 : Int32)), rv b357, rv b75, .val .null, rv b89, rv Gg1, rv b89, rv b385, iv 1, iv 1, .unset, .unset] [.ref Gg1, .ref Gg1])) X430 hx rfl rfl rfl (pc0 := 318) (pc' := 321) (same := true) rfl (hb hby at_318) rfl (decide_eq_true rfl) (by decide) (by decide) ?_
     refine za X430 Bd at_321 rfl rfl ?_
     refine st432 _ ?_
     refine za X432 Bd at_326 rfl rfl ?_
     refine Jvm.RoadKit.acmp (g := (mkF m 328 #[iv p1, iv p2, iv p3, iv p4, rv b1, rv b18, rv b32, rv b89, iv (p4 &&& (3 : Int32)), rv b357, rv b75, .val .null, rv b89, rv Gg1, rv b89, rv b385, iv 1, iv 1, .unset, .unset] [.ref b89, .ref b89])) X432 hx rfl rfl rfl (pc0 := 328) (pc' := 331) (same := true) rfl (hb hby at_328) rfl (decide_eq_true rfl) (by decide) (by decide) ?_
     refine zc X432 Bd at_331 ?_
     refine zg (pc' := 336) X432 Bd at_332 rfl ?_
     refine zs X432 Bd at_336 (l' := #[iv p1, iv p2, iv p3, iv p4, rv b1, rv b18, rv b32, rv b89, iv (p4 &&& (3 : Int32)), rv b357, rv b75, .val .null, rv b89, rv Gg1, rv b89, rv b385, iv 1, iv 1, iv 1, .unset]) rfl ?_
     refine zi X432 Bd at_338 rfl ?_
     refine zp (pc' := 373) X432 Bd at_340 (XT.i0_ne_t (hc148 : ¬ ((p4 &&& (3 : Int32)) = (0 : Int32)))) rfl ?_
     refine zi X432 Bd at_373 rfl ?_
     refine zc X432 Bd at_375 ?_
     refine zy (pc' := 385) X432 Bd at_376 (XT.ii_ne_t (hc213 : ¬ ((p4 &&& (3 : Int32)) = (1 : Int32)))) rfl ?_
     refine zi X432 Bd at_385 rfl ?_
     refine zc X432 Bd at_387 ?_
     refine zy (pc' := 428) X432 Bd at_388 (XT.ii_ne_t (hc272 : ¬ ((p4 &&& (3 : Int32)) = (2 : Int32)))) rfl ?_
     refine za X432 Bd at_428 rfl rfl ?_
     refine XS.ifnonnullNo X432.here hx rfl (hb hby at_430) rfl ?_
     refine za X432 Bd at_433 rfl rfl ?_
     refine za X432 Bd at_435 rfl rfl ?_
     refine Jvm.RoadKit.acmp (g := (mkF m 437 #[iv p1, iv p2, iv p3, iv p4, rv b1, rv b18, rv b32, rv b89, iv (p4 &&& (3 : Int32)), rv b357, rv b75, .val .null, rv b89, rv Gg1, rv b89, rv b385, iv 1, iv 1, iv 1, .unset] [.ref b89, .ref b89])) X432 hx rfl rfl rfl (pc0 := 437) (pc' := 440) (same := true) rfl (hb hby at_437) rfl (decide_eq_true rfl) (by decide) (by decide) ?_
     show Sx p e below T432 m 440 #[iv p1, iv p2, iv p3, iv p4, rv b1, rv b18, rv b32, rv b89, iv (p4 &&& (3 : Int32)), rv b357, rv b75, .val .null, rv b89, rv Gg1, rv b89, rv b385, iv 1, iv 1, iv 1, .unset] [] _
     refine za X432 Bd at_440 rfl rfl ?_
     refine st434 _ ?_
     refine Jvm.RoadKit.acmp (g := (mkF m 445 #[iv p1, iv p2, iv p3, iv p4, rv b1, rv b18, rv b32, rv b89, iv (p4 &&& (3 : Int32)), rv b357, rv b75, .val .null, rv b89, rv Gg1, rv b89, rv b385, iv 1, iv 1, iv 1, .unset] [.ref Gg1, .ref Gg1])) X434 hx rfl rfl rfl (pc0 := 445) (pc' := 448) (same := true) rfl (hb hby at_445) rfl (decide_eq_true rfl) (by decide) (by decide) ?_
     refine za X434 Bd at_448 rfl rfl ?_
     refine za X434 Bd at_450 rfl rfl ?_
     refine Jvm.RoadKit.acmp (g := (mkF m 452 #[iv p1, iv p2, iv p3, iv p4, rv b1, rv b18, rv b32, rv b89, iv (p4 &&& (3 : Int32)), rv b357, rv b75, .val .null, rv b89, rv Gg1, rv b89, rv b385, iv 1, iv 1, iv 1, .unset] [.ref b89, .ref b89])) X434 hx rfl rfl rfl (pc0 := 452) (pc' := 455) (same := true) rfl (hb hby at_452) rfl (decide_eq_true rfl) (by decide) (by decide) ?_
     refine zc X434 Bd at_455 ?_
     refine zg (pc' := 460) X434 Bd at_456 rfl ?_
     refine zs X434 Bd at_460 (l' := #[iv p1, iv p2, iv p3, iv p4, rv b1, rv b18, rv b32, rv b89, iv (p4 &&& (3 : Int32)), rv b357, rv b75, .val .null, rv b89, rv Gg1, rv b89, rv b385, iv 1, iv 1, iv 1, iv 1]) rfl ?_
     refine zi X434 Bd at_462 rfl ?_
     refine zo X434 Bd at_464 (XT.i0_eq_f ((by decide) : ¬ ((1 : Int32) = (0 : Int32)))) ?_
     refine zi X434 Bd at_467 rfl ?_
     refine zo X434 Bd at_469 (XT.i0_eq_f ((by decide) : ¬ ((1 : Int32) = (0 : Int32)))) ?_
     refine zi X434 Bd at_472 rfl ?_
     refine zo X434 Bd at_474 (XT.i0_eq_f ((by decide) : ¬ ((1 : Int32) = (0 : Int32)))) ?_
     refine zi X434 Bd at_477 rfl ?_
     refine zo X434 Bd at_479 (XT.i0_eq_f ((by decide) : ¬ ((1 : Int32) = (0 : Int32)))) ?_
     refine zc X434 Bd at_482 ?_
     refine zg (pc' := 487) X434 Bd at_483 rfl ?_
     exact retN X434 hx (t := .boolean) Bd.returns (by simp) (hb hby at_487) hr))
theorem comes_1 {Post : Tables → Env → Array Value → State → Outcome → State → Prop} (hpost : ∀ tb e args s v u, (limb_1_1.after args s (.returned v) u = true ∧ limb_1_2.after args s (.returned v) u = true ∧ True) → ReturnedEndW s (.returned v) u (Jvm.fieldLocs frame_1_writes args s ++ Jvm.arrayLocs frame_1_arrays args s ++ Jvm.staticLocs frame_1_statics s) 40 3264 → Post tb e args s (.returned v) u) :
    ArmFor flags0 classFile x code maxLocals ret World_1 tables_1 room_1 Calls_1 rest_1 Pre_1 Post := by
  intro l hfl _ _ p e ha hc hk s m args below hf hA hF happ hP
  obtain ⟨hcalls, hrest, hpre⟩ := hP
  obtain ⟨-, -, -, hnamed, -, -, -, hat⟩ := (Spec.applies_iff hf).mp happ
  obtain ⟨hg, hn⟩ := and_e (Cond.before_iff.mp (show (Jvm.Cond.and given_1 narrow_1).before args s = true from hpre))
  obtain ⟨hg0, hg1⟩ := and_e hg
  obtain ⟨ha1, hg2⟩ := and_e hg1
  obtain ⟨ha2, hg3⟩ := and_e hg2
  obtain ⟨ha3, hg4⟩ := and_e hg3
  obtain ⟨w1, w2, w3, w4, rfl⟩ : ∃ w1 w2 w3 w4 : Value, args = #[w1, w2, w3, w4] := by
    have hs : args.size = 4 := by simpa [Cond.value, given_1] using hg0
    obtain ⟨L⟩ := args
    match L, hs with
    | [w1, w2, w3, w4], _ => exact ⟨w1, w2, w3, w4, rfl⟩
  have hw := fun d (hd : d ∈ tables_1) => atoms_spec (ws := Jvm.Cond.code x code maxLocals ret :: tables_1) hat d (List.mem_cons_of_mem _ hd)
  obtain ⟨hsets, hown0⟩ := atoms_of _ (rest_1_c_eq ▸ (show rest_1_c.before _ s = true from hrest))
  have hfit : Fit s := fun {y c} hc i hi => by
    obtain ⟨ha, rfl⟩ := Array.getElem?_eq_some_iff.mp hc
    have q := List.all_eq_true.mp ((Array.all_eq_true_iff_forall_mem.mp hF) _ (Array.getElem_mem ha)) i (List.mem_range.mpr hi)
    simpa [Array.getElem?_eq_getElem hi] using q
  obtain ⟨i1, ei1⟩ := is_v ha1
  obtain rfl : w1 = (.int i1) := Option.some.inj ei1
  obtain ⟨i2, ei2⟩ := is_v ha2
  obtain rfl : w2 = (.int i2) := Option.some.inj ei2
  obtain ⟨i3, ei3⟩ := is_v ha3
  obtain rfl : w3 = (.int i3) := Option.some.inj ei3
  obtain ⟨i4, ei4⟩ := is_v hg4
  obtain rfl : w4 = (.int i4) := Option.some.inj ei4
  have nCS := not_v (Cond.before_iff.mp (hsets _ (mI 2 rfl)))
  obtain ⟨G1, eCS⟩ := is_v (Cond.before_iff.mp (hsets _ (mI 1 rfl)))
  have O2 : Sta s s.heap "java/lang/String" "COMPACT_STRINGS" "Z" (.int G1) := Sta.start eCS (Or.inl (hsets _ (mI 0 rfl)))
  have P5 : ¬ (G1 = (0 : Int32)) := gotF (Cond.eq_ints eCS (Term.int_eval (0))) nCS
  obtain ⟨hna, hnb⟩ := and_e hn
  obtain ⟨hnba, hnbb⟩ := and_e hnb
  obtain ⟨hnbba, hnbbb⟩ := and_e hnbb
  obtain ⟨Gg0, ev_Gg0⟩ := exa_v hna
  obtain ⟨Gg1, ev_Gg1⟩ := exa_v hnbba
  obtain ⟨Gg2, ev_Gg2⟩ := exa_v hnbbb
  have hEN : OwnEN s Gg0 Gg1 Gg2 := ⟨Sta.start ev_Gg0 (Or.inr ⟨(w34_ hw), (w35_ hw)⟩), Exa.start ev_Gg0 hna, Sta.start ev_Gg1 (Or.inr ⟨(w111_ hw), (w112_ hw)⟩), Exa.start ev_Gg1 hnbba, Sta.start ev_Gg2 (Or.inr ⟨(w111_ hw), (w126_ hw)⟩), Exa.start ev_Gg2 hnbbb, Fld.start ((fld_at ev_Gg0).symm.trans (null_v hnba))⟩
  have hCH : CHv s ([] : List (String × Nat)) s.vm s.heap := CHv.start (own_EW hw) (fun p hp => by cases hp) (hsets _ (mI 2 rfl)) (w22_ hw) (w5_ hw)
  obtain ⟨n, o, h1, h2, h3, _, L, rfl, ⟨rfl, N⟩, -, hq⟩ := rm0 l s _ hw tables_1 G1 Gg0 Gg1 Gg2 i1 i2 i3 i4 s.heap s.heap.size (Old.start s) O2 P5 hEN p e ha hc hk s m _ below hf ((Spec.applies_iff_loose hf).mp happ).1 ⟨rfl, State.Warmed39.refl s, rfl, hCH⟩ trivial
  refine ⟨n, _, h1, h2, h3, hpost _ _ _ _ _ _ ⟨Cond.after_iff.mpr rfl, Cond.after_iff.mpr (eq_i res_at (Term.int_eval (1)) rfl), trivial⟩ ⟨hq.1, hq.2.1, hq.2.2.1, (hq.2.2.2.sift fun y hy => Or.inr (N y hy)).mono (by decide) (by decide)⟩⟩
theorem main_1_1 : Claimed_1_1 := comes_1 fun _ _ _ _ _ _ h hF => ⟨h.1, hF⟩
theorem main_1_2 : Claimed_1_2 := comes_1 fun _ _ _ _ _ _ h hF => ⟨h.2.1, hF⟩
end Jvm.Pilot.@@N@@
namespace Jvm.Pilot.@@N@@
open Jvm Jvm.ClassFile Sem Op Lib Jvm.Free Jvm.Stand Jvm.Pilot.@@N@@.Jvm.D
/-! MADE BY PROGRAM (witnessworld.py) out of the Statement's table words and the real class files: 26 classes; the members and pool entries that the words name. The judged class is class 1, her method 1. -/
namespace start1
open Jvm.ClassFile
def u (s : String) : CpInfo := .utf8 (stringToUtf16 s)
/-- a pool by its gaps: so many unusable entries, then the entry; so many at the end -/
def gap : Nat → List CpInfo → List CpInfo
  | 0, r => r
  | n + 1, r => .unusable :: gap n r
def poolList (es : List (Nat × CpInfo)) (last : Nat) : List CpInfo := es.foldr (fun e r => gap e.1 (e.2 :: r)) (gap last [])
def pool (es : List (Nat × CpInfo)) (last : Nat) : Array CpInfo := ⟨poolList es last⟩
def fileOf (pool : Array CpInfo) (this : Nat) (attrs : Array Attribute := #[]) (ms : Array MethodInfo := #[]) (fl : Nat := 33) (sup : Nat := 0) (ifs : Array Nat := #[]) (fds : Array FieldInfo := #[]) : ClassFile where
  minorVersion := 0
  majorVersion := 65
  constantPool := pool
  accessFlags := fl
  thisClass := this
  superClass := sup
  interfaces := ifs
  fields := fds
  methods := ms
  attributes := attrs
def plain (name : String) (sup : Option ClassId) : Class where
  name := name
  kind := .ordinary
  loader := none
  accessFlags := 33
  super := sup
  interfaces := #[]
  cf := none
  fields := #[]
  methods := #[]
  instanceTypes := #[]
  staticTypes := #[]
  resolved := #[]
  callSites := []
  init := .initialized
  statics := none
  mirror := none

def pool0 : Array CpInfo := pool [(5, u "<init>"), (0, u "()V"), (1, .class_ 10), (1, u "java/lang/Object")] 113

def k0c0 : Code := { maxStack := 0, maxLocals := 1, code := object_method_1_code, exceptionTable := #[], attributes := #[] }
def k0m0 : Method := { name := "<init>", desc := "()V", sig := { parameters := [], returnType := none }, accessFlags := 1, code := some k0c0 }
/-- java/lang/Object -/
def k0 : Class := { plain "java/lang/Object" none with
  accessFlags := 33
  interfaces := #[]
  cf := some (fileOf pool0 8 #[] #[⟨1, 5, 6, #[]⟩] 33 0 #[] #[])
  fields := #[]
  methods := #[k0m0]
  instanceTypes := #[]
  staticTypes := #[]
  resolved := Array.replicate 124 none
  statics := none }

def pool1 : Array CpInfo := pool [(2, .class_ 4), (1, u "java/lang/Object"), (0, u "<init>"), (0, u "()V"), (0, .class_ 8), (0, u "com/example/ratatoskr/ratatoskr/criteria/Filter"), (0, .class_ 10), (0, u "java/lang/String"), (0, .methodref 9 12), (0, .nameAndType 5 13), (0, u "([C)V"), (0, .fieldref 15 16), (0, .class_ 17), (0, .nameAndType 18 19), (0, u "com/example/ratatoskr/ratatoskr/criteria/ComparisonOperator"), (0, u "IS_NULL"), (0, u "Lcom/example/ratatoskr/ratatoskr/criteria/ComparisonOperator;"), (0, .methodref 7 21), (0, .nameAndType 5 22), (0, u "(Ljava/lang/String;Lcom/example/ratatoskr/ratatoskr/criteria/ComparisonOperator;)V"), (0, .methodref 7 24), (0, .nameAndType 25 26), (0, u "and"), (0, u "(Lcom/example/ratatoskr/ratatoskr/criteria/Filter;)Lcom/example/ratatoskr/ratatoskr/criteria/Filter;"), (0, .methodref 7 28), (0, .nameAndType 29 26), (0, u "or"), (0, .methodref 7 31), (0, .nameAndType 32 33), (0, u "comparison"), (0, u "()Lcom/example/ratatoskr/ratatoskr/criteria/Filter$Comparison;"), (0, .methodref 7 35), (0, .nameAndType 36 37), (0, u "left"), (0, u "()Lcom/example/ratatoskr/ratatoskr/criteria/Filter;"), (0, .methodref 7 39), (0, .nameAndType 40 41), (0, u "junction"), (0, u "()Lcom/example/ratatoskr/ratatoskr/criteria/Filter$Junction;"), (0, .methodref 7 43), (0, .nameAndType 44 37), (0, u "right"), (0, .fieldref 46 47), (0, .class_ 48), (0, .nameAndType 49 50), (0, u "com/example/ratatoskr/ratatoskr/criteria/Filter$Junction"), (0, u "OR"), (0, u "Lcom/example/ratatoskr/ratatoskr/criteria/Filter$Junction;"), (0, .fieldref 46 52), (0, .nameAndType 53 50), (0, u "AND"), (0, .class_ 55), (0, u "com/example/ratatoskr/ratatoskr/criteria/FilterOrPinLaw"), (2, u "law"), (0, u "(IIII)Z")] 10

def k1m0 : Method := { name := "<init>", desc := "()V", sig := { parameters := [], returnType := none }, accessFlags := 2, code := none }
def k1c1 : Code := { maxStack := 5, maxLocals := 20, code := code, exceptionTable := #[], attributes := #[] }
def k1m1 : Method := { name := "law", desc := "(IIII)Z", sig := { parameters := [.int, .int, .int, .int], returnType := some .boolean }, accessFlags := 9, code := some k1c1 }
/-- com/example/ratatoskr/ratatoskr/criteria/FilterOrPinLaw -/
def k1 : Class := { plain "com/example/ratatoskr/ratatoskr/criteria/FilterOrPinLaw" (some 0) with
  accessFlags := 49
  interfaces := #[]
  cf := some (fileOf pool1 54 #[] #[⟨2, 5, 6, #[]⟩, ⟨9, 58, 59, #[]⟩] 49 2 #[] #[])
  fields := #[]
  methods := #[k1m0, k1m1]
  instanceTypes := #[]
  staticTypes := #[]
  resolved := Array.replicate 70 none
  statics := none }

def pool2 : Array CpInfo := pool [(1, .class_ 2), (0, u "com/example/ratatoskr/ratatoskr/criteria/Filter$Comparison"), (0, .methodref 1 4), (0, .nameAndType 5 6), (0, u "<init>"), (0, u "(Ljava/lang/String;Lcom/example/ratatoskr/ratatoskr/criteria/ComparisonOperator;Ljava/lang/Object;)V"), (0, .methodref 8 9), (0, .class_ 10), (0, .nameAndType 5 11), (0, u "com/example/ratatoskr/ratatoskr/criteria/Filter"), (0, u "(Lcom/example/ratatoskr/ratatoskr/criteria/Filter$Comparison;)V"), (0, .methodref 13 14), (0, .class_ 15), (0, .nameAndType 5 16), (0, u "java/lang/Object"), (0, u "()V"), (0, .fieldref 8 18), (0, .nameAndType 19 20), (0, u "comparison"), (0, u "Lcom/example/ratatoskr/ratatoskr/criteria/Filter$Comparison;"), (0, .fieldref 8 22), (0, .nameAndType 23 24), (0, u "left"), (0, u "Lcom/example/ratatoskr/ratatoskr/criteria/Filter;"), (0, .fieldref 8 26), (0, .nameAndType 27 28), (0, u "junction"), (0, u "Lcom/example/ratatoskr/ratatoskr/criteria/Filter$Junction;"), (0, .fieldref 8 30), (0, .nameAndType 31 24), (0, u "right"), (0, .string 33), (0, u "filter"), (0, .methodref 35 36), (0, .class_ 37), (0, .nameAndType 38 39), (0, u "java/util/Objects"), (0, u "requireNonNull"), (0, u "(Ljava/lang/Object;Ljava/lang/String;)Ljava/lang/Object;"), (0, .fieldref 41 42), (0, .class_ 43), (0, .nameAndType 44 28), (0, u "com/example/ratatoskr/ratatoskr/criteria/Filter$Junction"), (0, u "AND"), (0, .methodref 8 46), (0, .nameAndType 5 47), (0, u "(Lcom/example/ratatoskr/ratatoskr/criteria/Filter;Lcom/example/ratatoskr/ratatoskr/criteria/Filter$Junction;Lcom/example/ratatoskr/ratatoskr/criteria/Filter;)V"), (0, .fieldref 41 49), (0, .nameAndType 50 28), (0, u "OR"), (2, u "(Ljava/lang/String;Lcom/example/ratatoskr/ratatoskr/criteria/ComparisonOperator;)V"), (0, u "and"), (0, u "(Lcom/example/ratatoskr/ratatoskr/criteria/Filter;)Lcom/example/ratatoskr/ratatoskr/criteria/Filter;"), (0, u "or"), (0, u "()Lcom/example/ratatoskr/ratatoskr/criteria/Filter$Comparison;"), (0, u "()Lcom/example/ratatoskr/ratatoskr/criteria/Filter;"), (0, u "()Lcom/example/ratatoskr/ratatoskr/criteria/Filter$Junction;")] 6

def k2c0 : Code := { maxStack := 6, maxLocals := 3, code := prog_13_method_2_code, exceptionTable := #[], attributes := #[] }
def k2m0 : Method := { name := "<init>", desc := "(Ljava/lang/String;Lcom/example/ratatoskr/ratatoskr/criteria/ComparisonOperator;)V", sig := { parameters := [(.object "java/lang/String"), (.object "com/example/ratatoskr/ratatoskr/criteria/ComparisonOperator")], returnType := none }, accessFlags := 1, code := some k2c0 }
def k2c1 : Code := { maxStack := 2, maxLocals := 2, code := prog_13_method_3_code, exceptionTable := #[], attributes := #[] }
def k2m1 : Method := { name := "<init>", desc := "(Lcom/example/ratatoskr/ratatoskr/criteria/Filter$Comparison;)V", sig := { parameters := [(.object "com/example/ratatoskr/ratatoskr/criteria/Filter$Comparison")], returnType := none }, accessFlags := 2, code := some k2c1 }
def k2c2 : Code := { maxStack := 3, maxLocals := 4, code := prog_13_method_4_code, exceptionTable := #[], attributes := #[] }
def k2m2 : Method := { name := "<init>", desc := "(Lcom/example/ratatoskr/ratatoskr/criteria/Filter;Lcom/example/ratatoskr/ratatoskr/criteria/Filter$Junction;Lcom/example/ratatoskr/ratatoskr/criteria/Filter;)V", sig := { parameters := [(.object "com/example/ratatoskr/ratatoskr/criteria/Filter"), (.object "com/example/ratatoskr/ratatoskr/criteria/Filter$Junction"), (.object "com/example/ratatoskr/ratatoskr/criteria/Filter")], returnType := none }, accessFlags := 2, code := some k2c2 }
def k2c3 : Code := { maxStack := 5, maxLocals := 2, code := prog_13_method_5_code, exceptionTable := #[], attributes := #[] }
def k2m3 : Method := { name := "and", desc := "(Lcom/example/ratatoskr/ratatoskr/criteria/Filter;)Lcom/example/ratatoskr/ratatoskr/criteria/Filter;", sig := { parameters := [(.object "com/example/ratatoskr/ratatoskr/criteria/Filter")], returnType := some (.object "com/example/ratatoskr/ratatoskr/criteria/Filter") }, accessFlags := 1, code := some k2c3 }
def k2c4 : Code := { maxStack := 5, maxLocals := 2, code := prog_13_method_6_code, exceptionTable := #[], attributes := #[] }
def k2m4 : Method := { name := "or", desc := "(Lcom/example/ratatoskr/ratatoskr/criteria/Filter;)Lcom/example/ratatoskr/ratatoskr/criteria/Filter;", sig := { parameters := [(.object "com/example/ratatoskr/ratatoskr/criteria/Filter")], returnType := some (.object "com/example/ratatoskr/ratatoskr/criteria/Filter") }, accessFlags := 1, code := some k2c4 }
def k2c5 : Code := { maxStack := 1, maxLocals := 1, code := prog_13_method_7_code, exceptionTable := #[], attributes := #[] }
def k2m5 : Method := { name := "comparison", desc := "()Lcom/example/ratatoskr/ratatoskr/criteria/Filter$Comparison;", sig := { parameters := [], returnType := some (.object "com/example/ratatoskr/ratatoskr/criteria/Filter$Comparison") }, accessFlags := 1, code := some k2c5 }
def k2c6 : Code := { maxStack := 1, maxLocals := 1, code := prog_13_method_8_code, exceptionTable := #[], attributes := #[] }
def k2m6 : Method := { name := "left", desc := "()Lcom/example/ratatoskr/ratatoskr/criteria/Filter;", sig := { parameters := [], returnType := some (.object "com/example/ratatoskr/ratatoskr/criteria/Filter") }, accessFlags := 1, code := some k2c6 }
def k2c7 : Code := { maxStack := 1, maxLocals := 1, code := prog_13_method_9_code, exceptionTable := #[], attributes := #[] }
def k2m7 : Method := { name := "junction", desc := "()Lcom/example/ratatoskr/ratatoskr/criteria/Filter$Junction;", sig := { parameters := [], returnType := some (.object "com/example/ratatoskr/ratatoskr/criteria/Filter$Junction") }, accessFlags := 1, code := some k2c7 }
def k2c8 : Code := { maxStack := 1, maxLocals := 1, code := prog_13_method_10_code, exceptionTable := #[], attributes := #[] }
def k2m8 : Method := { name := "right", desc := "()Lcom/example/ratatoskr/ratatoskr/criteria/Filter;", sig := { parameters := [], returnType := some (.object "com/example/ratatoskr/ratatoskr/criteria/Filter") }, accessFlags := 1, code := some k2c8 }
/-- com/example/ratatoskr/ratatoskr/criteria/Filter -/
def k2 : Class := { plain "com/example/ratatoskr/ratatoskr/criteria/Filter" (some 0) with
  accessFlags := 49
  interfaces := #[]
  cf := some (fileOf pool2 8 #[.nestMembers #[1, 41]] #[⟨1, 5, 53, #[]⟩, ⟨2, 5, 11, #[]⟩, ⟨2, 5, 47, #[]⟩, ⟨1, 54, 55, #[]⟩, ⟨1, 56, 55, #[]⟩, ⟨1, 19, 57, #[]⟩, ⟨1, 23, 58, #[]⟩, ⟨1, 27, 59, #[]⟩, ⟨1, 31, 58, #[]⟩] 49 13 #[] #[⟨18, 19, 20, #[]⟩, ⟨18, 23, 24, #[]⟩, ⟨18, 27, 28, #[]⟩, ⟨18, 31, 24, #[]⟩])
  fields := #[⟨"comparison", (.object "com/example/ratatoskr/ratatoskr/criteria/Filter$Comparison"), 18, 0, 0⟩, ⟨"left", (.object "com/example/ratatoskr/ratatoskr/criteria/Filter"), 18, 1, 0⟩, ⟨"junction", (.object "com/example/ratatoskr/ratatoskr/criteria/Filter$Junction"), 18, 2, 0⟩, ⟨"right", (.object "com/example/ratatoskr/ratatoskr/criteria/Filter"), 18, 3, 0⟩]
  methods := #[k2m0, k2m1, k2m2, k2m3, k2m4, k2m5, k2m6, k2m7, k2m8]
  instanceTypes := #[(.object "com/example/ratatoskr/ratatoskr/criteria/Filter$Comparison"), (.object "com/example/ratatoskr/ratatoskr/criteria/Filter"), (.object "com/example/ratatoskr/ratatoskr/criteria/Filter$Junction"), (.object "com/example/ratatoskr/ratatoskr/criteria/Filter")]
  staticTypes := #[]
  resolved := Array.replicate 66 none
  statics := none }

def pool3 : Array CpInfo := pool [(1, .class_ 2), (0, u "java/io/Serializable"), (0, .class_ 4), (0, u "java/lang/Object")] 2

/-- java/io/Serializable -/
def k3 : Class := { plain "java/io/Serializable" (some 0) with
  accessFlags := 1537
  interfaces := #[]
  cf := some (fileOf pool3 1 #[] #[] 1537 3 #[] #[])
  fields := #[]
  methods := #[]
  instanceTypes := #[]
  staticTypes := #[]
  resolved := Array.replicate 7 none
  statics := none }

def pool4 : Array CpInfo := pool [(1, .class_ 2), (0, u "java/lang/Comparable"), (0, .class_ 4), (0, u "java/lang/Object")] 7

/-- java/lang/Comparable -/
def k4 : Class := { plain "java/lang/Comparable" (some 0) with
  accessFlags := 1537
  interfaces := #[]
  cf := some (fileOf pool4 1 #[] #[] 1537 3 #[] #[])
  fields := #[]
  methods := #[]
  instanceTypes := #[]
  staticTypes := #[]
  resolved := Array.replicate 12 none
  statics := none }

def pool5 : Array CpInfo := pool [(2, .class_ 4), (1, u "java/lang/CharSequence"), (42, .class_ 48), (0, u "java/lang/CharSequence$1CodePointIterator"), (10, .class_ 60), (0, u "java/lang/CharSequence$1CharIterator"), (5, .class_ 67), (0, u "java/lang/Object")] 63

/-- java/lang/CharSequence -/
def k5 : Class := { plain "java/lang/CharSequence" (some 0) with
  accessFlags := 1537
  interfaces := #[]
  cf := some (fileOf pool5 2 #[.nestMembers #[47, 59]] #[] 1537 66 #[] #[])
  fields := #[]
  methods := #[]
  instanceTypes := #[]
  staticTypes := #[]
  resolved := Array.replicate 131 none
  statics := none }

def pool6 : Array CpInfo := pool [(1, .class_ 2), (0, u "java/lang/constant/Constable"), (0, .class_ 4), (0, u "java/lang/Object")] 6

/-- java/lang/constant/Constable -/
def k6 : Class := { plain "java/lang/constant/Constable" (some 0) with
  accessFlags := 1537
  interfaces := #[]
  cf := some (fileOf pool6 1 #[] #[] 1537 3 #[] #[])
  fields := #[]
  methods := #[]
  instanceTypes := #[]
  staticTypes := #[]
  resolved := Array.replicate 11 none
  statics := none }

def pool7 : Array CpInfo := pool [(1, .class_ 2), (0, u "java/lang/constant/ConstantDesc"), (0, .class_ 4), (0, u "java/lang/Object")] 32

/-- java/lang/constant/ConstantDesc -/
def k7 : Class := { plain "java/lang/constant/ConstantDesc" (some 0) with
  accessFlags := 1537
  interfaces := #[]
  cf := some (fileOf pool7 1 #[] #[] 1537 3 #[] #[])
  fields := #[]
  methods := #[]
  instanceTypes := #[]
  staticTypes := #[]
  resolved := Array.replicate 37 none
  statics := none }

def pool8 : Array CpInfo := pool [(1, .methodref 2 3), (0, .class_ 4), (0, .nameAndType 5 6), (0, u "java/lang/Object"), (0, u "<init>"), (0, u "()V"), (2, .fieldref 10 11), (0, .class_ 12), (0, .nameAndType 13 14), (0, u "java/lang/String"), (0, u "value"), (0, u "[B"), (0, .fieldref 10 16), (0, .nameAndType 17 18), (0, u "coder"), (0, u "B"), (2, u "hash"), (0, u "I"), (2, u "hashIsZero"), (0, u "Z"), (0, .methodref 10 28), (0, .nameAndType 5 29), (0, u "([CIILjava/lang/Void;)V"), (8, .fieldref 10 39), (0, .nameAndType 40 26), (0, u "COMPACT_STRINGS"), (1, .class_ 44), (1, u "java/lang/StringUTF16"), (0, u "compress"), (1, .methodref 42 48), (0, .nameAndType 49 50), (0, u "coderFromArrayLen"), (0, u "([BI)B"), (126, .methodref 42 178), (0, .nameAndType 45 179), (0, u "([CII)[B"), (395, .class_ 576), (0, u "java/lang/CharSequence"), (22, u "CASE_INSENSITIVE_ORDER"), (0, u "Ljava/util/Comparator;"), (409, u "([C)V"), (90, u "serialPersistentFields"), (0, u "[Ljava/io/ObjectStreamField;"), (0, .class_ 1104), (0, u "java/lang/String$CaseInsensitiveComparator"), (1, .class_ 1107), (0, u "java/io/Serializable"), (0, .class_ 1109), (0, u "java/lang/Comparable"), (0, .class_ 1111), (0, u "java/lang/constant/Constable"), (0, .class_ 1113), (0, u "java/lang/constant/ConstantDesc"), (2, u "serialVersionUID"), (0, u "J"), (3, u "REPL"), (0, u "C"), (2, u "LATIN1"), (1, u "UTF16")] 323

def k8m0 : Method := { name := "<init>", desc := "()V", sig := { parameters := [], returnType := none }, accessFlags := 1, code := none }
def k8c1 : Code := { maxStack := 5, maxLocals := 2, code := jdk_42_method_3_code, exceptionTable := #[], attributes := #[] }
def k8m1 : Method := { name := "<init>", desc := "([C)V", sig := { parameters := [(.array .char)], returnType := none }, accessFlags := 1, code := some k8c1 }
def k8c2 : Code := { maxStack := 4, maxLocals := 6, code := jdk_42_method_149_code, exceptionTable := #[], attributes := #[] }
def k8m2 : Method := { name := "<init>", desc := "([CIILjava/lang/Void;)V", sig := { parameters := [(.array .char), .int, .int, (.object "java/lang/Void")], returnType := none }, accessFlags := 2, code := some k8c2 }
/-- java/lang/String -/
def k8 : Class := { plain "java/lang/String" (some 0) with
  accessFlags := 49
  interfaces := #[3, 4, 5, 6, 7]
  cf := some (fileOf pool8 10 #[.nestMembers #[1103]] #[⟨1, 5, 6, #[]⟩, ⟨1, 5, 1010, #[]⟩, ⟨2, 5, 29, #[]⟩] 49 2 #[1106, 1108, 575, 1110, 1112] #[⟨18, 13, 14, #[]⟩, ⟨18, 17, 18, #[]⟩, ⟨2, 21, 22, #[]⟩, ⟨2, 25, 26, #[]⟩, ⟨26, 1116, 1117, #[]⟩, ⟨24, 40, 26, #[]⟩, ⟨26, 1101, 1102, #[]⟩, ⟨26, 1121, 1122, #[]⟩, ⟨25, 599, 600, #[]⟩, ⟨24, 1125, 18, #[]⟩, ⟨24, 1127, 18, #[]⟩])
  fields := #[⟨"value", (.array .byte), 18, 0, 0⟩, ⟨"coder", .byte, 18, 1, 0⟩, ⟨"hash", .int, 2, 2, 0⟩, ⟨"hashIsZero", .boolean, 2, 3, 0⟩, ⟨"serialVersionUID", .long, 26, 0, 0⟩, ⟨"COMPACT_STRINGS", .boolean, 24, 1, 0⟩, ⟨"serialPersistentFields", (.array (.object "java/io/ObjectStreamField")), 26, 2, 0⟩, ⟨"REPL", .char, 26, 3, 0⟩, ⟨"CASE_INSENSITIVE_ORDER", (.object "java/util/Comparator"), 25, 4, 0⟩, ⟨"LATIN1", .byte, 24, 5, 0⟩, ⟨"UTF16", .byte, 24, 6, 0⟩]
  methods := #[k8m0, k8m1, k8m2]
  instanceTypes := #[(.array .byte), .byte, .int, .boolean]
  staticTypes := #[.long, .boolean, (.array (.object "java/io/ObjectStreamField")), .char, (.object "java/util/Comparator"), .byte, .byte]
  resolved := Array.replicate 1451 none
  statics := some 0 }

def pool9 : Array CpInfo := pool [(6, .class_ 8), (1, u "java/lang/Object"), (0, u "<init>"), (0, u "()V"), (1, .class_ 14), (1, u "java/lang/StringUTF16"), (31, u "$assertionsDisabled"), (0, u "Z"), (13, u "HI_BYTE_SHIFT"), (0, u "I"), (2, u "LO_BYTE_SHIFT"), (49, .methodref 12 116), (0, .nameAndType 117 118), (0, u "compress"), (0, u "([CI[BII)I"), (3, u "([CII)[B"), (138, u "coderFromArrayLen"), (0, u "([BI)B"), (106, .class_ 371), (1, u "java/lang/StringUTF16$LinesSpliterator"), (58, u "MAX_LENGTH"), (196, .class_ 628), (0, u "java/lang/StringUTF16$CodePointsSpliterator"), (0, .class_ 630), (0, u "java/lang/StringUTF16$CharsSpliterator")] 4

def k9m0 : Method := { name := "<init>", desc := "()V", sig := { parameters := [], returnType := none }, accessFlags := 0, code := none }
def k9c1 : Code := { maxStack := 2, maxLocals := 2, code := jdk_52_method_15_code, exceptionTable := #[], attributes := #[] }
def k9m1 : Method := { name := "coderFromArrayLen", desc := "([BI)B", sig := { parameters := [(.array .byte), .int], returnType := some .byte }, accessFlags := 8, code := some k9c1 }
def k9c2 : Code := { maxStack := 5, maxLocals := 6, code := jdk_52_method_16_code, exceptionTable := #[], attributes := #[] }
def k9m2 : Method := { name := "compress", desc := "([CII)[B", sig := { parameters := [(.array .char), .int, .int], returnType := some (.array .byte) }, accessFlags := 9, code := some k9c2 }
def k9c3 : Code := { maxStack := 3, maxLocals := 7, code := jdk_52_method_21_code, exceptionTable := #[], attributes := #[] }
def k9m3 : Method := { name := "compress", desc := "([CI[BII)I", sig := { parameters := [(.array .char), .int, (.array .byte), .int, .int], returnType := some .int }, accessFlags := 9, code := some k9c3 }
/-- java/lang/StringUTF16 -/
def k9 : Class := { plain "java/lang/StringUTF16" (some 0) with
  accessFlags := 48
  interfaces := #[]
  cf := some (fileOf pool9 12 #[.nestMembers #[627, 629, 369]] #[⟨0, 9, 10, #[]⟩, ⟨8, 261, 262, #[]⟩, ⟨9, 117, 122, #[]⟩, ⟨9, 117, 118, #[]⟩] 48 6 #[] #[⟨26, 61, 62, #[]⟩, ⟨26, 65, 62, #[]⟩, ⟨24, 430, 62, #[]⟩, ⟨4120, 46, 47, #[]⟩])
  fields := #[⟨"HI_BYTE_SHIFT", .int, 26, 0, 0⟩, ⟨"LO_BYTE_SHIFT", .int, 26, 1, 0⟩, ⟨"MAX_LENGTH", .int, 24, 2, 0⟩, ⟨"$assertionsDisabled", .boolean, 4120, 3, 0⟩]
  methods := #[k9m0, k9m1, k9m2, k9m3]
  instanceTypes := #[]
  staticTypes := #[.int, .int, .int, .boolean]
  resolved := Array.replicate 635 none
  statics := none }

def pool10 : Array CpInfo := pool [(2, .class_ 4), (1, u "java/lang/Enum"), (0, u "name"), (0, u "Ljava/lang/String;"), (2, u "ordinal"), (0, u "I"), (1, .class_ 14), (1, u "java/lang/Object"), (4, u "hash"), (86, .class_ 108), (1, u "java/lang/Enum$EnumDesc"), (2, .class_ 112), (0, u "java/lang/constant/Constable"), (0, .class_ 114), (0, u "java/lang/Comparable"), (0, .class_ 116), (0, u "java/io/Serializable")] 87

/-- java/lang/Enum -/
def k10 : Class := { plain "java/lang/Enum" (some 0) with
  accessFlags := 1057
  interfaces := #[6, 4, 3]
  cf := some (fileOf pool10 2 #[.nestMembers #[106]] #[] 1057 12 #[111, 113, 115] #[⟨18, 5, 6, #[]⟩, ⟨18, 9, 10, #[]⟩, ⟨2, 19, 10, #[]⟩])
  fields := #[⟨"name", (.object "java/lang/String"), 18, 0, 0⟩, ⟨"ordinal", .int, 18, 1, 0⟩, ⟨"hash", .int, 2, 2, 0⟩]
  methods := #[]
  instanceTypes := #[(.object "java/lang/String"), .int, .int]
  staticTypes := #[]
  resolved := Array.replicate 204 none
  statics := none }

def pool11 : Array CpInfo := pool [(1, .class_ 2), (0, u "com/example/ratatoskr/ratatoskr/criteria/ComparisonOperator"), (2, u "EQUALS"), (0, u "Lcom/example/ratatoskr/ratatoskr/criteria/ComparisonOperator;"), (2, u "GREATER_THAN"), (2, u "GREATER_THAN_EQUAL"), (2, u "LESS_THAN"), (2, u "LESS_THAN_EQUAL"), (2, u "IN"), (2, u "STARTING_WITH"), (2, u "CONTAINING"), (2, u "IS_NULL"), (2, u "$VALUES"), (0, u "[Lcom/example/ratatoskr/ratatoskr/criteria/ComparisonOperator;"), (6, .class_ 43), (1, u "java/lang/Enum"), (6, .fieldref 1 51), (0, .nameAndType 52 53), (0, u "operand"), (0, u "Ljava/lang/Class;"), (2, u "orders"), (0, u "Z"), (30, u "()Ljava/lang/Class;")] 7

def k11c0 : Code := { maxStack := 1, maxLocals := 1, code := prog_12_method_4_code, exceptionTable := #[], attributes := #[] }
def k11m0 : Method := { name := "operand", desc := "()Ljava/lang/Class;", sig := { parameters := [], returnType := some (.object "java/lang/Class") }, accessFlags := 0, code := some k11c0 }
/-- com/example/ratatoskr/ratatoskr/criteria/ComparisonOperator -/
def k11 : Class := { plain "com/example/ratatoskr/ratatoskr/criteria/ComparisonOperator" (some 10) with
  accessFlags := 16433
  interfaces := #[]
  cf := some (fileOf pool11 1 #[] #[⟨0, 52, 88, #[]⟩] 16433 41 #[] #[⟨16409, 5, 6, #[]⟩, ⟨16409, 9, 6, #[]⟩, ⟨16409, 12, 6, #[]⟩, ⟨16409, 15, 6, #[]⟩, ⟨16409, 18, 6, #[]⟩, ⟨16409, 21, 6, #[]⟩, ⟨16409, 24, 6, #[]⟩, ⟨16409, 27, 6, #[]⟩, ⟨16409, 30, 6, #[]⟩, ⟨18, 52, 53, #[]⟩, ⟨18, 56, 57, #[]⟩, ⟨4122, 33, 34, #[]⟩])
  fields := #[⟨"EQUALS", (.object "com/example/ratatoskr/ratatoskr/criteria/ComparisonOperator"), 16409, 0, 0⟩, ⟨"GREATER_THAN", (.object "com/example/ratatoskr/ratatoskr/criteria/ComparisonOperator"), 16409, 1, 0⟩, ⟨"GREATER_THAN_EQUAL", (.object "com/example/ratatoskr/ratatoskr/criteria/ComparisonOperator"), 16409, 2, 0⟩, ⟨"LESS_THAN", (.object "com/example/ratatoskr/ratatoskr/criteria/ComparisonOperator"), 16409, 3, 0⟩, ⟨"LESS_THAN_EQUAL", (.object "com/example/ratatoskr/ratatoskr/criteria/ComparisonOperator"), 16409, 4, 0⟩, ⟨"IN", (.object "com/example/ratatoskr/ratatoskr/criteria/ComparisonOperator"), 16409, 5, 0⟩, ⟨"STARTING_WITH", (.object "com/example/ratatoskr/ratatoskr/criteria/ComparisonOperator"), 16409, 6, 0⟩, ⟨"CONTAINING", (.object "com/example/ratatoskr/ratatoskr/criteria/ComparisonOperator"), 16409, 7, 0⟩, ⟨"IS_NULL", (.object "com/example/ratatoskr/ratatoskr/criteria/ComparisonOperator"), 16409, 8, 0⟩, ⟨"operand", (.object "java/lang/Class"), 18, 3, 0⟩, ⟨"orders", .boolean, 18, 4, 0⟩, ⟨"$VALUES", (.array (.object "com/example/ratatoskr/ratatoskr/criteria/ComparisonOperator")), 4122, 9, 0⟩]
  methods := #[k11m0]
  instanceTypes := #[(.object "java/lang/String"), .int, .int, (.object "java/lang/Class"), .boolean]
  staticTypes := #[(.object "com/example/ratatoskr/ratatoskr/criteria/ComparisonOperator"), (.object "com/example/ratatoskr/ratatoskr/criteria/ComparisonOperator"), (.object "com/example/ratatoskr/ratatoskr/criteria/ComparisonOperator"), (.object "com/example/ratatoskr/ratatoskr/criteria/ComparisonOperator"), (.object "com/example/ratatoskr/ratatoskr/criteria/ComparisonOperator"), (.object "com/example/ratatoskr/ratatoskr/criteria/ComparisonOperator"), (.object "com/example/ratatoskr/ratatoskr/criteria/ComparisonOperator"), (.object "com/example/ratatoskr/ratatoskr/criteria/ComparisonOperator"), (.object "com/example/ratatoskr/ratatoskr/criteria/ComparisonOperator"), (.array (.object "com/example/ratatoskr/ratatoskr/criteria/ComparisonOperator"))]
  resolved := Array.replicate 96 none
  statics := some 1 }

def pool12 : Array CpInfo := pool [(1, .methodref 2 3), (0, .class_ 4), (0, .nameAndType 5 6), (0, u "java/lang/Object"), (0, u "<init>"), (0, u "()V"), (0, .class_ 8), (0, u "java/lang/Record")] 13

def k12c0 : Code := { maxStack := 1, maxLocals := 1, code := jdk_30_method_1_code, exceptionTable := #[], attributes := #[] }
def k12m0 : Method := { name := "<init>", desc := "()V", sig := { parameters := [], returnType := none }, accessFlags := 4, code := some k12c0 }
/-- java/lang/Record -/
def k12 : Class := { plain "java/lang/Record" (some 0) with
  accessFlags := 1057
  interfaces := #[]
  cf := some (fileOf pool12 7 #[] #[⟨4, 5, 6, #[]⟩] 1057 2 #[] #[])
  fields := #[]
  methods := #[k12m0]
  instanceTypes := #[]
  staticTypes := #[]
  resolved := Array.replicate 22 none
  statics := none }

def pool13 : Array CpInfo := pool [(1, .methodref 2 3), (0, .class_ 4), (0, .nameAndType 5 6), (0, u "java/lang/Record"), (0, u "<init>"), (0, u "()V"), (0, .string 8), (0, u "property"), (0, .methodref 10 11), (0, .class_ 12), (0, .nameAndType 13 14), (0, u "java/util/Objects"), (0, u "requireNonNull"), (0, u "(Ljava/lang/Object;Ljava/lang/String;)Ljava/lang/Object;"), (0, .string 16), (0, u "operator"), (0, .methodref 18 19), (0, .class_ 20), (0, .nameAndType 21 22), (0, u "com/example/ratatoskr/ratatoskr/criteria/ComparisonOperator"), (0, u "operand"), (0, u "()Ljava/lang/Class;"), (24, u "value"), (12, .class_ 62), (1, u "com/example/ratatoskr/ratatoskr/criteria/Filter$Comparison"), (2, .fieldref 60 66), (0, .nameAndType 8 67), (0, u "Ljava/lang/String;"), (0, .fieldref 60 69), (0, .nameAndType 16 70), (0, u "Lcom/example/ratatoskr/ratatoskr/criteria/ComparisonOperator;"), (0, .fieldref 60 72), (0, .nameAndType 47 73), (0, u "Ljava/lang/Object;"), (43, u "(Ljava/lang/String;Lcom/example/ratatoskr/ratatoskr/criteria/ComparisonOperator;Ljava/lang/Object;)V"), (13, .class_ 132), (0, u "com/example/ratatoskr/ratatoskr/criteria/Filter")] 31

def k13c0 : Code := { maxStack := 5, maxLocals := 6, code := prog_14_method_1_code, exceptionTable := #[], attributes := #[] }
def k13m0 : Method := { name := "<init>", desc := "(Ljava/lang/String;Lcom/example/ratatoskr/ratatoskr/criteria/ComparisonOperator;Ljava/lang/Object;)V", sig := { parameters := [(.object "java/lang/String"), (.object "com/example/ratatoskr/ratatoskr/criteria/ComparisonOperator"), (.object "java/lang/Object")], returnType := none }, accessFlags := 1, code := some k13c0 }
/-- com/example/ratatoskr/ratatoskr/criteria/Filter$Comparison -/
def k13 : Class := { plain "com/example/ratatoskr/ratatoskr/criteria/Filter$Comparison" (some 12) with
  accessFlags := 49
  interfaces := #[]
  cf := some (fileOf pool13 60 #[.nestHost 131] #[⟨1, 5, 117, #[]⟩] 49 2 #[] #[⟨18, 8, 67, #[]⟩, ⟨18, 16, 70, #[]⟩, ⟨18, 47, 73, #[]⟩])
  fields := #[⟨"property", (.object "java/lang/String"), 18, 0, 0⟩, ⟨"operator", (.object "com/example/ratatoskr/ratatoskr/criteria/ComparisonOperator"), 18, 1, 0⟩, ⟨"value", (.object "java/lang/Object"), 18, 2, 0⟩]
  methods := #[k13m0]
  instanceTypes := #[(.object "java/lang/String"), (.object "com/example/ratatoskr/ratatoskr/criteria/ComparisonOperator"), (.object "java/lang/Object")]
  staticTypes := #[]
  resolved := Array.replicate 164 none
  statics := none }

def pool14 : Array CpInfo := pool [(2, .class_ 4), (1, u "java/lang/Object"), (0, u "<init>"), (0, u "()V"), (35, .class_ 44), (1, u "java/util/Objects"), (0, u "requireNonNull"), (48, u "(Ljava/lang/Object;Ljava/lang/String;)Ljava/lang/Object;")] 89

def k14m0 : Method := { name := "<init>", desc := "()V", sig := { parameters := [], returnType := none }, accessFlags := 2, code := none }
def k14c1 : Code := { maxStack := 3, maxLocals := 2, code := jdk_31_method_11_code, exceptionTable := #[], attributes := #[] }
def k14m1 : Method := { name := "requireNonNull", desc := "(Ljava/lang/Object;Ljava/lang/String;)Ljava/lang/Object;", sig := { parameters := [(.object "java/lang/Object"), (.object "java/lang/String")], returnType := some (.object "java/lang/Object") }, accessFlags := 9, code := some k14c1 }
/-- java/util/Objects -/
def k14 : Class := { plain "java/util/Objects" (some 0) with
  accessFlags := 49
  interfaces := #[]
  cf := some (fileOf pool14 42 #[] #[⟨2, 5, 6, #[]⟩, ⟨9, 45, 94, #[]⟩] 49 2 #[] #[])
  fields := #[]
  methods := #[k14m0, k14m1]
  instanceTypes := #[]
  staticTypes := #[]
  resolved := Array.replicate 184 none
  statics := none }

def pool15 : Array CpInfo := pool [(1, .class_ 2), (0, u "com/example/ratatoskr/ratatoskr/criteria/Filter$Junction"), (2, u "AND"), (0, u "Lcom/example/ratatoskr/ratatoskr/criteria/Filter$Junction;"), (2, u "OR"), (2, u "$VALUES"), (0, u "[Lcom/example/ratatoskr/ratatoskr/criteria/Filter$Junction;"), (6, .class_ 22), (1, u "java/lang/Enum"), (25, .class_ 49), (0, u "com/example/ratatoskr/ratatoskr/criteria/Filter")] 2

/-- com/example/ratatoskr/ratatoskr/criteria/Filter$Junction -/
def k15 : Class := { plain "com/example/ratatoskr/ratatoskr/criteria/Filter$Junction" (some 10) with
  accessFlags := 16433
  interfaces := #[]
  cf := some (fileOf pool15 1 #[.nestHost 48] #[] 16433 20 #[] #[⟨16409, 5, 6, #[]⟩, ⟨16409, 9, 6, #[]⟩, ⟨4122, 12, 13, #[]⟩])
  fields := #[⟨"AND", (.object "com/example/ratatoskr/ratatoskr/criteria/Filter$Junction"), 16409, 0, 0⟩, ⟨"OR", (.object "com/example/ratatoskr/ratatoskr/criteria/Filter$Junction"), 16409, 1, 0⟩, ⟨"$VALUES", (.array (.object "com/example/ratatoskr/ratatoskr/criteria/Filter$Junction")), 4122, 2, 0⟩]
  methods := #[]
  instanceTypes := #[(.object "java/lang/String"), .int, .int]
  staticTypes := #[(.object "com/example/ratatoskr/ratatoskr/criteria/Filter$Junction"), (.object "com/example/ratatoskr/ratatoskr/criteria/Filter$Junction"), (.array (.object "com/example/ratatoskr/ratatoskr/criteria/Filter$Junction"))]
  resolved := Array.replicate 52 none
  statics := some 2 }

def pool16 : Array CpInfo := pool [(4, .class_ 6), (1, u "java/lang/Object"), (0, u "<init>"), (0, u "()V"), (5, .class_ 16), (1, u "java/lang/StringLatin1"), (104, u "$assertionsDisabled"), (0, u "Z"), (98, .class_ 223), (1, u "java/lang/StringLatin1$LinesSpliterator"), (166, .class_ 391), (0, u "java/lang/StringLatin1$CharsSpliterator")] 3

def k16m0 : Method := { name := "<init>", desc := "()V", sig := { parameters := [], returnType := none }, accessFlags := 0, code := none }
/-- java/lang/StringLatin1 -/
def k16 : Class := { plain "java/lang/StringLatin1" (some 0) with
  accessFlags := 48
  interfaces := #[]
  cf := some (fileOf pool16 14 #[.nestMembers #[390, 221]] #[⟨0, 7, 8, #[]⟩] 48 4 #[] #[⟨4120, 121, 122, #[]⟩])
  fields := #[⟨"$assertionsDisabled", .boolean, 4120, 0, 0⟩]
  methods := #[k16m0]
  instanceTypes := #[]
  staticTypes := #[.boolean]
  resolved := Array.replicate 395 none
  statics := none }

def pool17 : Array CpInfo := pool [(2, .class_ 4), (1, u "java/lang/Object"), (0, u "<init>"), (0, u "()V"), (17, .class_ 26), (1, u "jdk/internal/util/Preconditions"), (28, .class_ 56), (0, u "jdk/internal/util/Preconditions$4"), (57, .class_ 115), (0, u "jdk/internal/util/Preconditions$1"), (7, u "SIOOBE_FORMATTER"), (0, u "Ljava/util/function/BiFunction;"), (0, .class_ 126), (0, u "jdk/internal/util/Preconditions$2"), (3, u "AIOOBE_FORMATTER"), (0, .class_ 132), (0, u "jdk/internal/util/Preconditions$3"), (3, u "IOOBE_FORMATTER")] 57

def k17m0 : Method := { name := "<init>", desc := "()V", sig := { parameters := [], returnType := none }, accessFlags := 1, code := none }
/-- jdk/internal/util/Preconditions -/
def k17 : Class := { plain "jdk/internal/util/Preconditions" (some 0) with
  accessFlags := 33
  interfaces := #[]
  cf := some (fileOf pool17 24 #[.nestMembers #[55, 131, 125, 114]] #[⟨1, 5, 6, #[]⟩] 33 2 #[] #[⟨25, 123, 124, #[]⟩, ⟨25, 130, 124, #[]⟩, ⟨25, 136, 124, #[]⟩])
  fields := #[⟨"SIOOBE_FORMATTER", (.object "java/util/function/BiFunction"), 25, 0, 0⟩, ⟨"AIOOBE_FORMATTER", (.object "java/util/function/BiFunction"), 25, 1, 0⟩, ⟨"IOOBE_FORMATTER", (.object "java/util/function/BiFunction"), 25, 2, 0⟩]
  methods := #[k17m0]
  instanceTypes := #[]
  staticTypes := #[(.object "java/util/function/BiFunction"), (.object "java/util/function/BiFunction"), (.object "java/util/function/BiFunction")]
  resolved := Array.replicate 194 none
  statics := some 3 }

def pool18 : Array CpInfo := pool [(9, u "<init>"), (6, .class_ 18), (1, u "java/lang/Object"), (0, u "()V"), (1, .class_ 23), (1, u "jdk/internal/util/ArraysSupport"), (0, u "LOG2_ARRAY_LONG_INDEX_SCALE"), (0, u "I"), (2, u "U"), (0, u "Ljdk/internal/misc/Unsafe;"), (8, u "BIG_ENDIAN"), (0, u "Z"), (8, u "LOG2_BYTE_BIT_SIZE"), (4, u "LOG2_ARRAY_INT_INDEX_SCALE"), (54, u "JLA"), (0, u "Ljdk/internal/access/JavaLangAccess;"), (11, u "LOG2_ARRAY_BOOLEAN_INDEX_SCALE"), (9, u "LOG2_ARRAY_BYTE_INDEX_SCALE"), (5, u "LOG2_ARRAY_CHAR_INDEX_SCALE"), (5, u "LOG2_ARRAY_SHORT_INDEX_SCALE"), (18, u "LOG2_ARRAY_FLOAT_INDEX_SCALE"), (24, u "LOG2_ARRAY_DOUBLE_INDEX_SCALE"), (89, u "T_BOOLEAN"), (2, u "T_CHAR"), (1, u "T_FLOAT"), (1, u "T_DOUBLE"), (1, u "T_BYTE"), (1, u "T_SHORT"), (1, u "T_INT"), (1, u "T_LONG"), (1, u "SOFT_MAX_ARRAY_LENGTH")] 83

def k18m0 : Method := { name := "<init>", desc := "()V", sig := { parameters := [], returnType := none }, accessFlags := 2, code := none }
/-- jdk/internal/util/ArraysSupport -/
def k18 : Class := { plain "jdk/internal/util/ArraysSupport" (some 0) with
  accessFlags := 33
  interfaces := #[]
  cf := some (fileOf pool18 21 #[] #[⟨2, 9, 19, #[]⟩] 33 16 #[] #[⟨24, 28, 29, #[]⟩, ⟨26, 38, 39, #[]⟩, ⟨25, 121, 25, #[]⟩, ⟨25, 131, 25, #[]⟩, ⟨25, 137, 25, #[]⟩, ⟨25, 143, 25, #[]⟩, ⟨25, 53, 25, #[]⟩, ⟨25, 24, 25, #[]⟩, ⟨25, 162, 25, #[]⟩, ⟨25, 187, 25, #[]⟩, ⟨26, 48, 25, #[]⟩, ⟨25, 277, 25, #[]⟩, ⟨25, 280, 25, #[]⟩, ⟨25, 282, 25, #[]⟩, ⟨25, 284, 25, #[]⟩, ⟨25, 286, 25, #[]⟩, ⟨25, 288, 25, #[]⟩, ⟨25, 290, 25, #[]⟩, ⟨25, 292, 25, #[]⟩, ⟨26, 108, 109, #[]⟩, ⟨25, 294, 25, #[]⟩])
  fields := #[⟨"U", (.object "jdk/internal/misc/Unsafe"), 24, 0, 0⟩, ⟨"BIG_ENDIAN", .boolean, 26, 1, 0⟩, ⟨"LOG2_ARRAY_BOOLEAN_INDEX_SCALE", .int, 25, 2, 0⟩, ⟨"LOG2_ARRAY_BYTE_INDEX_SCALE", .int, 25, 3, 0⟩, ⟨"LOG2_ARRAY_CHAR_INDEX_SCALE", .int, 25, 4, 0⟩, ⟨"LOG2_ARRAY_SHORT_INDEX_SCALE", .int, 25, 5, 0⟩, ⟨"LOG2_ARRAY_INT_INDEX_SCALE", .int, 25, 6, 0⟩, ⟨"LOG2_ARRAY_LONG_INDEX_SCALE", .int, 25, 7, 0⟩, ⟨"LOG2_ARRAY_FLOAT_INDEX_SCALE", .int, 25, 8, 0⟩, ⟨"LOG2_ARRAY_DOUBLE_INDEX_SCALE", .int, 25, 9, 0⟩, ⟨"LOG2_BYTE_BIT_SIZE", .int, 26, 10, 0⟩, ⟨"T_BOOLEAN", .int, 25, 11, 0⟩, ⟨"T_CHAR", .int, 25, 12, 0⟩, ⟨"T_FLOAT", .int, 25, 13, 0⟩, ⟨"T_DOUBLE", .int, 25, 14, 0⟩, ⟨"T_BYTE", .int, 25, 15, 0⟩, ⟨"T_SHORT", .int, 25, 16, 0⟩, ⟨"T_INT", .int, 25, 17, 0⟩, ⟨"T_LONG", .int, 25, 18, 0⟩, ⟨"JLA", (.object "jdk/internal/access/JavaLangAccess"), 26, 19, 0⟩, ⟨"SOFT_MAX_ARRAY_LENGTH", .int, 25, 20, 0⟩]
  methods := #[k18m0]
  instanceTypes := #[]
  staticTypes := #[(.object "jdk/internal/misc/Unsafe"), .boolean, .int, .int, .int, .int, .int, .int, .int, .int, .int, .int, .int, .int, .int, .int, .int, .int, .int, (.object "jdk/internal/access/JavaLangAccess"), .int]
  resolved := Array.replicate 378 none
  statics := none }

def pool19 : Array CpInfo := pool [(1, u "java/lang/Cloneable"), (0, .class_ 1), (0, u "java/lang/Object"), (0, .class_ 3)] 3

/-- java/lang/Cloneable -/
def k19 : Class := { plain "java/lang/Cloneable" (some 0) with
  accessFlags := 1537
  interfaces := #[]
  cf := some (fileOf pool19 2 #[] #[] 1537 4 #[] #[])
  fields := #[]
  methods := #[]
  instanceTypes := #[]
  staticTypes := #[]
  resolved := Array.replicate 8 none
  statics := none }

/-- the primitive byte -/
def k20 : Class := { plain "byte" none with kind := .primitive 'B', accessFlags := 0x411 }
/-- [B -/
def k21 : Class := { plain "[B" (some 0) with kind := .array 20 .byte, interfaces := #[19, 3], accessFlags := 1041 }

/-- the primitive char -/
def k22 : Class := { plain "char" none with kind := .primitive 'C', accessFlags := 0x411 }
/-- [C -/
def k23 : Class := { plain "[C" (some 0) with kind := .array 22 .char, interfaces := #[19, 3], accessFlags := 1041 }

/-- the primitive int -/
def k24 : Class := { plain "int" none with kind := .primitive 'I', accessFlags := 0x411 }
/-- [I -/
def k25 : Class := { plain "[I" (some 0) with kind := .array 24 .int, interfaces := #[19, 3], accessFlags := 1041 }

def heap : Heap := #[{ cls := 8, slots := #[.long 0, .int 1, .null, .int 0, .null, .int 0, .int 0], vm := .statics 8 },
  { cls := 11, slots := #[.null, .null, .null, .null, .null, .null, .null, .null, .ref 4, .null], vm := .statics 11 },
  { cls := 15, slots := #[.ref 5, .ref 6, .null], vm := .statics 15 },
  { cls := 17, slots := #[.null, .null, .null], vm := .statics 17 },
  { cls := 11, slots := #[.null, .int 0, .int 0, .null, .int 0], vm := .none },
  { cls := 15, slots := #[.null, .int 0, .int 0], vm := .none },
  { cls := 15, slots := #[.null, .int 0, .int 0], vm := .none }]
def classes : Array Class := #[k0, k1, k2, k3, k4, k5, k6, k7, k8, k9, k10, k11, k12, k13, k14, k15, k16, k17, k18, k19, k20, k21, k22, k23, k24, k25]
def interned : List (Array UInt16 × Addr) := []
def slotsUsed : Nat := 34
def theMethod : MethodId := ⟨1, 1⟩
def args0 : Array Value := #[.int 8, .int 5, .int 6, .int 7]
def aboutOver (below : List Frame) : State where
  vm := { classes := classes, interned := interned.toArray }
  heap := heap
  slotsUsed := slotsUsed
  threads := #[{ frames := .invoking theMethod args0 :: below }]
def below0 : List Frame := [.native { method := ⟨0, 0⟩, args := #[] }]
def about1 : State := aboutOver below0
def p0 : Program := .bare "" "" ""
def e0 : Env := launch0.env 0 0 0
theorem w_frames : about1.frames = Frame.invoking theMethod args0 :: below0 := rfl
set_option maxRecDepth 65536 in
theorem w_args : argsFit about1.vm theMethod args0 = true := by decide +kernel
set_option maxRecDepth 65536 in
theorem w_heap : heapFits about1 = true := by decide +kernel
set_option maxRecDepth 65536 in
theorem w_runnable : about1.curStatus? = some .runnable := by decide +kernel
set_option maxRecDepth 65536 in
theorem w_alone : about1.alone = true := by decide +kernel
set_option maxRecDepth 65536 in
theorem w_named : about1.methodNamed? x = some theMethod := by decide +kernel
set_option maxRecDepth 65536 in
theorem w_hears : about1.hears theMethod below0 = true := by decide +kernel
set_option maxRecDepth 65536 in
theorem w_ripe : about1.ripe theMethod args0 below0 = true := by decide +kernel
theorem w_running : about1.status = .running := rfl
set_option maxRecDepth 65536 in
theorem w_room : about1.hasRoom e0.platform room_1 = true :=
  launch0.hasRoom_least _ room_1 (by decide +kernel) (by decide +kernel) (by decide +kernel) (by decide +kernel) (by decide +kernel) (by decide +kernel)
theorem allAtoms_all (ts : List Jvm.Cond) (a : Array Jvm.Value) (st : Jvm.State) : (allAtoms ts).before a st = ts.all (fun c => c.before a st) := by
  induction ts with
  | nil => rfl
  | cons c t ih =>
    show (Jvm.Cond.and c (allAtoms t)).before a st = _
    rw [Jvm.Cond.before_and, ih, List.all_cons]
def words1 : List Jvm.Cond := Jvm.Cond.code x code maxLocals ret :: tables_1
/-- a 'code' word, met by the world's own term for the bytes: nothing is compared byte by byte -/
theorem code_word {y : MethodName} {bytes : ByteArray} {mx : Nat} {rt : Option FieldType} {a : Array Value} {s : State} {m : MethodId} {meth : Method} {c : Code} (h1 : s.methodNamed? y = some m) (h2 : s.vm.method? m = some meth) (h3 : meth.code = some c) (h4 : c.code = bytes)
    (h5 : (c.maxLocals == mx && c.exceptionTable.isEmpty && decide (c.maxStack ≤ mostOperands) && decide (meth.sig.returnType = rt) && !meth.locks && decide (parseMethodDescriptor y.desc = some meth.sig)) = true) : (Jvm.Cond.code y bytes mx rt).before a s = true := by
  simp only [Bool.and_eq_true, beq_iff_eq, Bool.not_eq_true', decide_eq_true_eq] at h5
  obtain ⟨⟨⟨⟨⟨g1, g2⟩, g3⟩, g4⟩, g5⟩, g6⟩ := h5
  simp [Cond.before, Cond.holds, Cond.value, h1, h2, h3, h4, g1, g2, g3, g4, g5, g6]
def isCode : Jvm.Cond → Bool
  | .code _ _ _ _ => true
  | _ => false
theorem all_split {L : List Jvm.Cond} {P : Jvm.Cond → Bool} (h1 : L.all (fun c => isCode c || P c) = true) (h2 : ∀ c ∈ L.filter isCode, P c = true) : L.all P = true := by
  refine List.all_eq_true.mpr fun c hc => ?_
  have h := List.all_eq_true.mp h1 c hc
  rcases Bool.eq_false_or_eq_true (isCode c) with hi | hi
  · exact h2 c (List.mem_filter.mpr ⟨hc, hi⟩)
  · simpa [hi] using h
set_option maxRecDepth 65536 in
theorem w_c0 : (Jvm.Cond.code x code maxLocals ret).before args0 about1 = true := code_word (m := ⟨1, 1⟩) (meth := k1m1) (c := k1c1) (by decide +kernel) rfl rfl rfl (by decide +kernel)
set_option maxRecDepth 65536 in
theorem w_c1 : (Jvm.Cond.code Y13_ jdk_42_method_3_code (2 : Nat) (Option.none : Option Jvm.ClassFile.FieldType)).before args0 about1 = true := code_word (m := ⟨8, 1⟩) (meth := k8m1) (c := k8c1) (by decide +kernel) rfl rfl rfl (by decide +kernel)
set_option maxRecDepth 65536 in
theorem w_c2 : (Jvm.Cond.code (⟨"java/lang/String", "<init>", "([CIILjava/lang/Void;)V"⟩ : Jvm.MethodName) jdk_42_method_149_code (6 : Nat) (Option.none : Option Jvm.ClassFile.FieldType)).before args0 about1 = true := code_word (m := ⟨8, 2⟩) (meth := k8m2) (c := k8c2) (by decide +kernel) rfl rfl rfl (by decide +kernel)
set_option maxRecDepth 65536 in
theorem w_c3 : (Jvm.Cond.code (⟨"java/lang/Object", "<init>", "()V"⟩ : Jvm.MethodName) object_method_1_code (1 : Nat) (Option.none : Option Jvm.ClassFile.FieldType)).before args0 about1 = true := code_word (m := ⟨0, 0⟩) (meth := k0m0) (c := k0c0) (by decide +kernel) rfl rfl rfl (by decide +kernel)
set_option maxRecDepth 65536 in
theorem w_c4 : (Jvm.Cond.code (⟨"java/lang/StringUTF16", "compress", "([CII)[B"⟩ : Jvm.MethodName) jdk_52_method_16_code (6 : Nat) (Option.some (Jvm.ClassFile.FieldType.array Jvm.ClassFile.FieldType.byte))).before args0 about1 = true := code_word (m := ⟨9, 2⟩) (meth := k9m2) (c := k9c2) (by decide +kernel) rfl rfl rfl (by decide +kernel)
set_option maxRecDepth 65536 in
theorem w_c5 : (Jvm.Cond.code (⟨"java/lang/StringUTF16", "compress", "([CI[BII)I"⟩ : Jvm.MethodName) jdk_52_method_21_code (7 : Nat) (Option.some Jvm.ClassFile.FieldType.int)).before args0 about1 = true := code_word (m := ⟨9, 3⟩) (meth := k9m3) (c := k9c3) (by decide +kernel) rfl rfl rfl (by decide +kernel)
set_option maxRecDepth 65536 in
theorem w_c6 : (Jvm.Cond.code (⟨"java/lang/StringUTF16", "coderFromArrayLen", "([BI)B"⟩ : Jvm.MethodName) jdk_52_method_15_code (2 : Nat) (Option.some Jvm.ClassFile.FieldType.byte)).before args0 about1 = true := code_word (m := ⟨9, 1⟩) (meth := k9m1) (c := k9c1) (by decide +kernel) rfl rfl rfl (by decide +kernel)
set_option maxRecDepth 65536 in
theorem w_c7 : (Jvm.Cond.code Y5_ prog_13_method_2_code (3 : Nat) (Option.none : Option Jvm.ClassFile.FieldType)).before args0 about1 = true := code_word (m := ⟨2, 0⟩) (meth := k2m0) (c := k2c0) (by decide +kernel) rfl rfl rfl (by decide +kernel)
set_option maxRecDepth 65536 in
theorem w_c8 : (Jvm.Cond.code Y3_ prog_14_method_1_code (6 : Nat) (Option.none : Option Jvm.ClassFile.FieldType)).before args0 about1 = true := code_word (m := ⟨13, 0⟩) (meth := k13m0) (c := k13c0) (by decide +kernel) rfl rfl rfl (by decide +kernel)
set_option maxRecDepth 65536 in
theorem w_c9 : (Jvm.Cond.code Y0_ jdk_30_method_1_code (1 : Nat) (Option.none : Option Jvm.ClassFile.FieldType)).before args0 about1 = true := code_word (m := ⟨12, 0⟩) (meth := k12m0) (c := k12c0) (by decide +kernel) rfl rfl rfl (by decide +kernel)
set_option maxRecDepth 65536 in
theorem w_c10 : (Jvm.Cond.code Y1_ jdk_31_method_11_code (2 : Nat) (Option.some (Jvm.ClassFile.FieldType.object "java/lang/Object"))).before args0 about1 = true := code_word (m := ⟨14, 1⟩) (meth := k14m1) (c := k14c1) (by decide +kernel) rfl rfl rfl (by decide +kernel)
set_option maxRecDepth 65536 in
theorem w_c11 : (Jvm.Cond.code Y2_ prog_12_method_4_code (1 : Nat) (Option.some (Jvm.ClassFile.FieldType.object "java/lang/Class"))).before args0 about1 = true := code_word (m := ⟨11, 0⟩) (meth := k11m0) (c := k11c0) (by decide +kernel) rfl rfl rfl (by decide +kernel)
set_option maxRecDepth 65536 in
theorem w_c12 : (Jvm.Cond.code Y4_ prog_13_method_3_code (2 : Nat) (Option.none : Option Jvm.ClassFile.FieldType)).before args0 about1 = true := code_word (m := ⟨2, 1⟩) (meth := k2m1) (c := k2c1) (by decide +kernel) rfl rfl rfl (by decide +kernel)
set_option maxRecDepth 65536 in
theorem w_c13 : (Jvm.Cond.code Y6_ prog_13_method_7_code (1 : Nat) (Option.some (Jvm.ClassFile.FieldType.object "com/example/ratatoskr/ratatoskr/criteria/Filter$Comparison"))).before args0 about1 = true := code_word (m := ⟨2, 5⟩) (meth := k2m5) (c := k2c5) (by decide +kernel) rfl rfl rfl (by decide +kernel)
set_option maxRecDepth 65536 in
theorem w_c14 : (Jvm.Cond.code Y7_ prog_13_method_8_code (1 : Nat) (Option.some (Jvm.ClassFile.FieldType.object "com/example/ratatoskr/ratatoskr/criteria/Filter"))).before args0 about1 = true := code_word (m := ⟨2, 6⟩) (meth := k2m6) (c := k2c6) (by decide +kernel) rfl rfl rfl (by decide +kernel)
set_option maxRecDepth 65536 in
theorem w_c15 : (Jvm.Cond.code Y8_ prog_13_method_9_code (1 : Nat) (Option.some (Jvm.ClassFile.FieldType.object "com/example/ratatoskr/ratatoskr/criteria/Filter$Junction"))).before args0 about1 = true := code_word (m := ⟨2, 7⟩) (meth := k2m7) (c := k2c7) (by decide +kernel) rfl rfl rfl (by decide +kernel)
set_option maxRecDepth 65536 in
theorem w_c16 : (Jvm.Cond.code Y9_ prog_13_method_10_code (1 : Nat) (Option.some (Jvm.ClassFile.FieldType.object "com/example/ratatoskr/ratatoskr/criteria/Filter"))).before args0 about1 = true := code_word (m := ⟨2, 8⟩) (meth := k2m8) (c := k2c8) (by decide +kernel) rfl rfl rfl (by decide +kernel)
set_option maxRecDepth 65536 in
theorem w_c17 : (Jvm.Cond.code Y11_ prog_13_method_6_code (2 : Nat) (Option.some (Jvm.ClassFile.FieldType.object "com/example/ratatoskr/ratatoskr/criteria/Filter"))).before args0 about1 = true := code_word (m := ⟨2, 4⟩) (meth := k2m4) (c := k2c4) (by decide +kernel) rfl rfl rfl (by decide +kernel)
set_option maxRecDepth 65536 in
theorem w_c18 : (Jvm.Cond.code Y10_ prog_13_method_4_code (4 : Nat) (Option.none : Option Jvm.ClassFile.FieldType)).before args0 about1 = true := code_word (m := ⟨2, 2⟩) (meth := k2m2) (c := k2c2) (by decide +kernel) rfl rfl rfl (by decide +kernel)
set_option maxRecDepth 65536 in
theorem w_c19 : (Jvm.Cond.code Y12_ prog_13_method_5_code (2 : Nat) (Option.some (Jvm.ClassFile.FieldType.object "com/example/ratatoskr/ratatoskr/criteria/Filter"))).before args0 about1 = true := code_word (m := ⟨2, 3⟩) (meth := k2m3) (c := k2c3) (by decide +kernel) rfl rfl rfl (by decide +kernel)
def codes1 : List Jvm.Cond := [Jvm.Cond.code x code maxLocals ret, Jvm.Cond.code Y13_ jdk_42_method_3_code (2 : Nat) (Option.none : Option Jvm.ClassFile.FieldType), Jvm.Cond.code (⟨"java/lang/String", "<init>", "([CIILjava/lang/Void;)V"⟩ : Jvm.MethodName) jdk_42_method_149_code (6 : Nat) (Option.none : Option Jvm.ClassFile.FieldType), Jvm.Cond.code (⟨"java/lang/Object", "<init>", "()V"⟩ : Jvm.MethodName) object_method_1_code (1 : Nat) (Option.none : Option Jvm.ClassFile.FieldType), Jvm.Cond.code (⟨"java/lang/StringUTF16", "compress", "([CII)[B"⟩ : Jvm.MethodName) jdk_52_method_16_code (6 : Nat) (Option.some (Jvm.ClassFile.FieldType.array Jvm.ClassFile.FieldType.byte)), Jvm.Cond.code (⟨"java/lang/StringUTF16", "compress", "([CI[BII)I"⟩ : Jvm.MethodName) jdk_52_method_21_code (7 : Nat) (Option.some Jvm.ClassFile.FieldType.int), Jvm.Cond.code (⟨"java/lang/StringUTF16", "coderFromArrayLen", "([BI)B"⟩ : Jvm.MethodName) jdk_52_method_15_code (2 : Nat) (Option.some Jvm.ClassFile.FieldType.byte), Jvm.Cond.code Y5_ prog_13_method_2_code (3 : Nat) (Option.none : Option Jvm.ClassFile.FieldType), Jvm.Cond.code Y3_ prog_14_method_1_code (6 : Nat) (Option.none : Option Jvm.ClassFile.FieldType), Jvm.Cond.code Y0_ jdk_30_method_1_code (1 : Nat) (Option.none : Option Jvm.ClassFile.FieldType), Jvm.Cond.code Y1_ jdk_31_method_11_code (2 : Nat) (Option.some (Jvm.ClassFile.FieldType.object "java/lang/Object")), Jvm.Cond.code Y2_ prog_12_method_4_code (1 : Nat) (Option.some (Jvm.ClassFile.FieldType.object "java/lang/Class")), Jvm.Cond.code Y4_ prog_13_method_3_code (2 : Nat) (Option.none : Option Jvm.ClassFile.FieldType), Jvm.Cond.code Y6_ prog_13_method_7_code (1 : Nat) (Option.some (Jvm.ClassFile.FieldType.object "com/example/ratatoskr/ratatoskr/criteria/Filter$Comparison")), Jvm.Cond.code Y7_ prog_13_method_8_code (1 : Nat) (Option.some (Jvm.ClassFile.FieldType.object "com/example/ratatoskr/ratatoskr/criteria/Filter")), Jvm.Cond.code Y8_ prog_13_method_9_code (1 : Nat) (Option.some (Jvm.ClassFile.FieldType.object "com/example/ratatoskr/ratatoskr/criteria/Filter$Junction")), Jvm.Cond.code Y9_ prog_13_method_10_code (1 : Nat) (Option.some (Jvm.ClassFile.FieldType.object "com/example/ratatoskr/ratatoskr/criteria/Filter")), Jvm.Cond.code Y11_ prog_13_method_6_code (2 : Nat) (Option.some (Jvm.ClassFile.FieldType.object "com/example/ratatoskr/ratatoskr/criteria/Filter")), Jvm.Cond.code Y10_ prog_13_method_4_code (4 : Nat) (Option.none : Option Jvm.ClassFile.FieldType), Jvm.Cond.code Y12_ prog_13_method_5_code (2 : Nat) (Option.some (Jvm.ClassFile.FieldType.object "com/example/ratatoskr/ratatoskr/criteria/Filter"))]
set_option maxRecDepth 65536 in
theorem codes_eq : words1.filter isCode = codes1 := rfl
theorem w_codes : ∀ c ∈ words1.filter isCode, c.before args0 about1 = true := by
  rw [codes_eq]
  intro c hc
  simp only [codes1, List.mem_cons, List.not_mem_nil, or_false] at hc
  rcases hc with rfl | rfl | rfl | rfl | rfl | rfl | rfl | rfl | rfl | rfl | rfl | rfl | rfl | rfl | rfl | rfl | rfl | rfl | rfl | rfl
  · exact w_c0
  · exact w_c1
  · exact w_c2
  · exact w_c3
  · exact w_c4
  · exact w_c5
  · exact w_c6
  · exact w_c7
  · exact w_c8
  · exact w_c9
  · exact w_c10
  · exact w_c11
  · exact w_c12
  · exact w_c13
  · exact w_c14
  · exact w_c15
  · exact w_c16
  · exact w_c17
  · exact w_c18
  · exact w_c19
set_option maxRecDepth 65536 in
theorem w_t1 : (words1.take 24).all (fun c => isCode c || c.before args0 about1) = true := by decide +kernel
set_option maxRecDepth 65536 in
theorem w_t2 : ((words1.drop 24).take 24).all (fun c => isCode c || c.before args0 about1) = true := by decide +kernel
set_option maxRecDepth 65536 in
theorem w_t3 : (((words1.drop 24).drop 24).take 24).all (fun c => isCode c || c.before args0 about1) = true := by decide +kernel
set_option maxRecDepth 65536 in
theorem w_t4 : ((((words1.drop 24).drop 24).drop 24).take 24).all (fun c => isCode c || c.before args0 about1) = true := by decide +kernel
set_option maxRecDepth 65536 in
theorem w_t5 : (((((words1.drop 24).drop 24).drop 24).drop 24).take 24).all (fun c => isCode c || c.before args0 about1) = true := by decide +kernel
set_option maxRecDepth 65536 in
theorem w_t6 : (((((words1.drop 24).drop 24).drop 24).drop 24).drop 24).all (fun c => isCode c || c.before args0 about1) = true := by decide +kernel
theorem w_tables : (allAtoms (Jvm.Cond.code x code maxLocals ret :: tables_1)).before args0 about1 = true := by
  rw [allAtoms_all]
  show words1.all (fun c => c.before args0 about1) = true
  refine all_split ?_ w_codes
  rw [← List.take_append_drop 24 words1, List.all_append, w_t1, ← List.take_append_drop 24 (words1.drop 24), List.all_append, w_t2, ← List.take_append_drop 24 ((words1.drop 24).drop 24), List.all_append, w_t3, ← List.take_append_drop 24 (((words1.drop 24).drop 24).drop 24), List.all_append, w_t4, ← List.take_append_drop 24 ((((words1.drop 24).drop 24).drop 24).drop 24), List.all_append, w_t5, w_t6]
  rfl
set_option maxRecDepth 65536 in
theorem w_rest : rest_1_c.before args0 about1 = true := by decide +kernel
set_option maxRecDepth 65536 in
theorem w_case : (Jvm.Cond.and given_1 narrow_1).before args0 about1 = true := by decide +kernel
theorem w_applies : (headSpec (Jvm.Cond.code x code maxLocals ret :: tables_1) room_1).applies x e0.platform about1 = true :=
  (Spec.applies_iff w_frames).mpr ⟨w_running, w_runnable, w_alone, w_named, w_hears, w_ripe, w_room, w_tables⟩
theorem atStart : AtStart classFile x code maxLocals ret World_1 tables_1 room_1 Calls_1 rest_1 Pre_1 launch0 p0 e0 about1 theMethod args0 below0 :=
  ⟨lists_1, trivial, launch0.admits_env _ _ _, launch0.least_env, fairChoices_fair.cas, fairChoices_fair.clock, w_frames, w_args, w_heap, w_applies, trivial, w_rest, w_case⟩
end start1
theorem witness_1 : WitnessClaimed_1 := ⟨start1.p0, start1.e0, start1.about1, start1.theMethod, start1.args0, start1.below0, start1.atStart⟩
end Jvm.Pilot.@@N@@
